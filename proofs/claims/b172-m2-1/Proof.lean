import JvmDerived
import JvmDerived.Pilot.@@N@@Statement
import JvmDerived.Pilot.@@N@@Code
set_option linter.unusedVariables false
set_option linter.unusedSimpArgs false
namespace Jvm.OwnKit
open Sem ClassFile Op Lib Jvm.Stand Jvm.Free Jvm.LawKit Jvm.RoadKit
/-! a run that goes on to its end -/
def Run (tb : Tables) (e : Env) (below : List Frame) (F : Outcome → State → Prop) (st : State) : Prop :=
  ∃ u o, Steps tb e below st u ∧ u.status = .running ∧ Ended u below o ∧ F o u
theorem Run.st {tb : Tables} {e : Env} {below : List Frame} {F : Outcome → State → Prop} {st : State} (st' : State) (k : ∀ t, Steps tb e below st' t → Steps tb e below st t) (h : Run tb e below F st') : Run tb e below F st := by
  obtain ⟨u, o, a, b⟩ := h
  exact ⟨u, o, k _ a, b⟩
/-! small facts -/
abbrev vI (x : Int32) : Slot := .val (.int x)
abbrev vA (a : Addr) : Slot := .val (.ref a)
theorem extR (h : Heap) : Ext h h := ⟨Nat.le_refl _, fun _ _ q => q⟩
theorem extT {h h1 h2 : Heap} (E : Ext h h1) (F : Ext h1 h2) : Ext h h2 := ⟨Nat.le_trans E.1 F.1, fun a c q => F.2 a c (E.2 a c q)⟩
theorem extK {h h1 h2 : Heap} {ws : List Addr} (E : Ext h h1) (K : Keep h1 h2 ws) (q : ∀ x ∈ ws, h.size ≤ x) : Ext h h2 := ⟨Nat.le_trans E.1 K.1, fun a c ha => K.2.1 a c (E.2 a c ha) fun hm => Nat.lt_irrefl _ (Nat.lt_of_lt_of_le (Array.getElem?_eq_some_iff.mp ha).1 (q a hm))⟩
theorem keepE {h h1 : Heap} (K : Keep h h1 []) : Ext h h1 := extK (extR h) K all0
theorem cat_r (a : Addr) : (Value.ref a).category = 1 := rfl
theorem cat_i (z : Int32) : (Value.int z).category = 1 := rfl
theorem cat_l (z : Int64) : (Value.long z).category = 2 := rfl
theorem cat_n : Value.null.category = 1 := rfl
theorem catR {v : Value} (h : v.isRef = true) : v.category = 1 := by cases v <;> simp [Value.isRef] at h <;> rfl
theorem narR {v : Value} {t : FieldType} (h : v.isRef = true) (ht : t.isReference = true) : narrow t v = v := by cases v <;> simp [Value.isRef] at h <;> cases t <;> first | rfl | cases ht
theorem fitR {v : Value} {t : FieldType} (h : v.isRef = true) (ht : t.isReference = true) : fits t v = true := by cases v <;> simp [Value.isRef] at h <;> cases t <;> first | rfl | cases ht
theorem narZ {z : Int32} (h : z = 0 ∨ z = 1) : narrow .boolean (.int z) = .int z := by rcases h with rfl | rfl <;> rfl
theorem fitZ {z : Int32} (h : z = 0 ∨ z = 1) : fits .boolean (.int z) = true := by rcases h with rfl | rfl <;> rfl
theorem b01k {P : Prop} {z : Int32} (h : P ∧ z = 1 ∨ ¬ P ∧ z = 0) : z = 0 ∨ z = 1 := h.elim (fun q => Or.inr q.2) (fun q => Or.inl q.2)
def bI (P : Prop) [Decidable P] : Int32 := if P then 1 else 0
theorem bIt {P : Prop} [Decidable P] (h : P) : bI P = 1 := if_pos h
theorem bI0 {P : Prop} [Decidable P] (h : ¬ P) : bI P = 0 := if_neg h
theorem bI1 {P : Prop} [Decidable P] (h : P) : ¬ bI P = 0 := by rw [bIt h]; decide
theorem bIc {P Q : Prop} [Decidable P] [Decidable Q] (h : P ↔ Q) : bI P = bI Q := by
  by_cases p : P
  · rw [bIt p, bIt (h.mp p)]
  · rw [bI0 p, bI0 fun q => p (h.mpr q)]
theorem b01b {P : Prop} [Decidable P] : bI P = 0 ∨ bI P = 1 := by
  by_cases p : P
  · exact Or.inr (bIt p)
  · exact Or.inl (bI0 p)
theorem cmpL_self (x : Int64) : XT.cmpL x x = 0 := by simp [XT.cmpL]
theorem i32e {a b : Int32} (h : a.toInt = b.toInt) : a = b := Int32.toInt_inj.mp h
theorem fitsNB (x : Int32) : fits .byte (.int (nar .byte x)) = true := by
  have h := c_i2b x; have e1 : (-128 : Int32).toInt = -128 := rfl; have e2 : (127 : Int32).toInt = 127 := rfl
  simp only [fits, nar, Bool.and_eq_true, decide_eq_true_eq, Int32.le_iff_toInt_le, e1, e2]; omega
theorem c8i (x : Int32) : (x &&& (255 : Int32)).toUInt32.toUInt16.toUInt32.toInt32 = x &&& (255 : Int32) := by
  have q := c_and x 255 (by decide); have r := c_i2c (x &&& 255); have e : (255 : Int32).toInt = 255 := rfl
  exact i32e (by omega)
theorem narC {x : Int32} (h : ¬ x < 0 ∧ ¬ (255 : Int32) < x) : nar .char x = x := by
  have r := c_i2c x; have e : (255 : Int32).toInt = 255 := rfl; have e0 : (0 : Int32).toInt = 0 := rfl
  obtain ⟨h1, h2⟩ := h; rw [Int32.lt_iff_toInt_lt] at h1 h2
  exact i32e (by show x.toUInt32.toUInt16.toUInt32.toInt32.toInt = x.toInt; omega)
theorem c8r (x : Int32) : ¬ (x &&& (255 : Int32)) < 0 ∧ ¬ (255 : Int32) < (x &&& (255 : Int32)) := by
  have q := c_and x 255 (by decide); have e : (255 : Int32).toInt = 255 := rfl; have e0 : (0 : Int32).toInt = 0 := rfl
  rw [Int32.lt_iff_toInt_lt, Int32.lt_iff_toInt_lt]; omega
theorem c8n (x : Int32) : nar .char ((x &&& (255 : Int32)).toUInt32.toUInt16.toUInt32.toInt32) = x &&& (255 : Int32) := by rw [c8i]; exact narC (c8r x)
theorem c8lr (x : Int64) : ¬ (x &&& (255 : Int64)).toInt32 < 0 ∧ ¬ (255 : Int32) < (x &&& (255 : Int64)).toInt32 := by
  have q := c_maskL x 255 8 (by decide) (by decide); have r := c_l2i (x &&& 255); have b := rng32 (x &&& 255).toInt32; have e : (255 : Int32).toInt = 255 := rfl; have e0 : (0 : Int32).toInt = 0 := rfl
  rw [Int32.lt_iff_toInt_lt, Int32.lt_iff_toInt_lt]; omega
theorem c8ln (x : Int64) : nar .char ((x &&& (255 : Int64)).toInt32.toUInt32.toUInt16.toUInt32.toInt32) = (x &&& (255 : Int64)).toInt32 := by
  have h := narC (c8lr x)
  have e : (x &&& (255 : Int64)).toInt32.toUInt32.toUInt16.toUInt32.toInt32 = (x &&& (255 : Int64)).toInt32 := h
  rw [e]; exact h
theorem chs0 {P : Int32 → Prop} : ∀ c ∈ ([] : List Int32), P c := fun _ h => nomatch h
theorem chsS {P : Int32 → Prop} {y : Int32} {L : List Int32} (q : P y) (r : ∀ x ∈ L, P x) : ∀ x ∈ y :: L, P x := fun x hx => (List.mem_cons.mp hx).elim (fun e => e ▸ q) (r x)
theorem chUp {cs : List Int32} (h : ∀ c ∈ cs, ¬ c < 0 ∧ ¬ (255 : Int32) < c) : ∀ c ∈ cs, ¬ c < 0 ∧ ¬ (65535 : Int32) < c := fun c hc => ⟨(h c hc).1, fun q => (h c hc).2 (by rw [Int32.lt_iff_toInt_lt] at q ⊢; have e1 : (65535 : Int32).toInt = 65535 := rfl; have e2 : (255 : Int32).toInt = 255 := rfl; omega)⟩
theorem stoR {l : Array Slot} {i : Nat} {v : Value} {l' : Array Slot} {o : Slot} (hold : l[i]? = some o) (ho : o = .unset ∨ ∃ w, o = .val w ∧ w.category = 1) (hv : v.isRef = true) (e : l.setIfInBounds i (.val v) = l') : storeLocals l i v = some l' := by rw [XS.store1 hold ho (catR hv), e]
theorem shr0 (x : Int32) : x >>> ((0 : Int32) &&& 31) = x := i32e (by rw [c_ishr x 0 0 rfl]; simp)
theorem shl0 (x : Int32) : x <<< ((0 : Int32) &&& 31) = x := by
  have h := c_ishl x 0 0 rfl; have a := rng32 x; have b := rng32 (x <<< ((0 : Int32) &&& 31))
  rw [show (((2 ^ 0 : Nat) : Int)) = 1 from rfl, Int.mul_one] at h
  exact i32e (by omega)
theorem n_int {a : Nat} (h : a < 2147483648) : (Int32.ofNat a).toInt = a := len_toInt (n := a) (by omega)
theorem n_add (a b : Nat) : Int32.ofNat a + Int32.ofNat b = Int32.ofNat (a + b) := (Int32.ofNat_add a b).symm
theorem n_sub {a b : Nat} (h : b ≤ a) : Int32.ofNat a - Int32.ofNat b = Int32.ofNat (a - b) := by
  have e := n_add (a - b) b
  rw [Nat.sub_add_cancel h] at e
  rw [← e, Int32.add_sub_cancel]
theorem n_lt {a b : Nat} (ha : a < 2147483648) (hb : b < 2147483648) : Int32.ofNat a < Int32.ofNat b ↔ a < b := by rw [Int32.lt_iff_toInt_lt, n_int ha, n_int hb]; omega
theorem n_pos {a : Nat} (ha : a < 2147483648) : ¬ Int32.ofNat a < 0 := by rw [Int32.lt_iff_toInt_lt, n_int ha]; have e0 : (0 : Int32).toInt = 0 := rfl; omega
theorem n_clamp {a : Nat} (ha : a < 2147483648) : (Int32.ofNat a).toNatClampNeg = a := by simp only [Int32.toNatClampNeg, n_int ha]; rfl
theorem n_eq {a b : Nat} (ha : a < 2147483648) (hb : b < 2147483648) (h : Int32.ofNat a = Int32.ofNat b) : a = b := by have := congrArg Int32.toInt h; rw [n_int ha, n_int hb] at this; omega
theorem n_suble {a b : Nat} (h : a ≤ b) (hb : b < 2147483648) : ¬ (0 : Int32) < Int32.ofNat a - Int32.ofNat b := by
  have q := c_isub (Int32.ofNat a) (Int32.ofNat b); have r := rng32 (Int32.ofNat a - Int32.ofNat b)
  rw [n_int (by omega), n_int hb] at q
  rw [Int32.lt_iff_toInt_lt]; have e0 : (0 : Int32).toInt = 0 := rfl; omega
theorem n_subgt {a b : Nat} (h : b < a) (ha : a < 2147483648) : (0 : Int32) < Int32.ofNat a - Int32.ofNat b := by
  have q := c_isub (Int32.ofNat a) (Int32.ofNat b); have r := rng32 (Int32.ofNat a - Int32.ofNat b)
  rw [n_int ha, n_int (by omega)] at q
  rw [Int32.lt_iff_toInt_lt]; have e0 : (0 : Int32).toInt = 0 := rfl; omega
theorem nsI {Z : State} {a0 : Array Value} {C S K : String} {q : Nat} (w : (Cond.superclass C S).before a0 Z = true) (wo : (Cond.noSuperclass S).before a0 Z = true) (wk : (Cond.instantiable K q).before a0 Z = true) (h1 : C ≠ K) (h2 : S ≠ K) : ∃ c t, Z.vm.findClass C = some c ∧ Z.vm.findClass K = some t ∧ Z.vm.assignable c t = false := by
  obtain ⟨o, ko, o1, o2, o3, -, -⟩ := Cond.noSuperclass_spec wo
  obtain ⟨t, kt, t1, t2, t3, t4, -⟩ := Cond.instantiable_spec wk
  obtain ⟨c, c0⟩ := found_sup w
  obtain ⟨p, k, kp, p1, p2, p3, p4, p5, -, p7⟩ := Cond.superclass_spec c0 w
  cases o1.symm.trans p1
  have ne := ids_ne c0 t1 h1
  have ne2 := ids_ne o1 t1 h2
  have sub0 : ∀ fuel, Z.vm.isSubclassAux fuel o t = false := fun fuel => by
    cases fuel with
    | zero => rfl
    | succ f => simp [Vm.isSubclassAux, ne2, o2, o3]
  have sub : ∀ fuel, Z.vm.isSubclassAux fuel c t = false := fun fuel => by
    cases fuel with
    | zero => rfl
    | succ f => simp [Vm.isSubclassAux, ne, p2, p4, sub0]
  simp only [Bool.or_eq_false_iff] at t4
  refine ⟨c, t, c0, t1, ?_⟩
  show Z.vm.assignableAux (255 + 1) c t = false
  simp [Vm.assignableAux, ne, p2, t2, p5, t3, t4.1, Vm.isSubclass, sub]
theorem nfSel {Z : State} {a0 : Array Value} {y : MethodName} {C : String} (w : (Cond.selects C y y).before a0 Z = true) (s' : State) (hZ : Z.Warmed39 s'.vm) : NotFace s' y := notFace_of_selects (args := #[]) (mvT (s := s') hZ w)
theorem nfSelC {Z : State} {a0 : Array Value} {y y' z' : MethodName} {C : String} (w : (Cond.selects C y' z').before a0 Z = true) (e : z'.cls = y.cls) (s' : State) (hZ : Z.Warmed39 s'.vm) : NotFace s' y := fun r0 h0 => by
  obtain ⟨c2, r2, m2, q1, q2, q3, q4, kP, hkP, hkPi⟩ := Cond.selects_spec (mvT (s := s') (args := #[]) hZ w)
  have d1 := findClass_of_methodNamed h0
  have d2 := findClass_of_methodNamed q3
  rw [e] at d2
  have e2 := Option.some.inj (d1.symm.trans d2)
  exact ⟨kP, by rw [e2]; exact hkP, hkPi⟩
theorem nfSup {Z : State} {a0 : Array Value} {y : MethodName} {S : String} (w : (Cond.superclass y.cls S).before a0 Z = true) (s' : State) (hZ : Z.Warmed39 s'.vm) : NotFace s' y := nf_super (args := #[]) (mvT (s := s') hZ w)
theorem nfTop {Z : State} {a0 : Array Value} {y : MethodName} (w : (Cond.noSuperclass y.cls).before a0 Z = true) (s' : State) (hZ : Z.Warmed39 s'.vm) : NotFace s' y := nf_top (args := #[]) (mvT (s := s') hZ w)
theorem sameOf {Z : State} {a0 : Array Value} {y : MethodName} (wd : (Cond.declares y).before a0 Z = true) (nf : ∀ s' : State, Z.Warmed39 s'.vm → NotFace s' y) (hy : y.cls ≠ "java/lang/invoke/MethodHandle" ∧ y.cls ≠ "java/lang/invoke/VarHandle") : (Cond.sameMethod y.cls y.cls y.name y.desc).before a0 Z = true := by
  obtain ⟨r, meth, h1, h2, -, -⟩ := Cond.declares_spec wd
  obtain ⟨kr, k1, k2⟩ := nf Z (State.Warmed39.refl Z) r h1
  have c1 := findClass_of_methodNamed h1
  have f := State.methodFound?_of_named h1 hy
  simp [Cond.before, Cond.holds, Cond.value, c1, f, h1, k1, k2]
theorem declOf {Z : State} {a0 : Array Value} {y : MethodName} {bytes : ByteArray} {maxL : Nat} {ret : Option FieldType} (wi : (Cond.instanceMethod y).before a0 Z = true) (wc : (Cond.code y bytes maxL ret).before a0 Z = true) : (Cond.declares y).before a0 Z = true := by
  obtain ⟨r, meth, h1, h2, h3, -⟩ := Cond.instanceMethod_spec wi
  obtain ⟨m2, cM, q1, -, -, -, -, -, -, hsig⟩ := Cond.code_spec h1 wc
  cases h2.symm.trans q1
  simp [Cond.before, Cond.holds, Cond.value, h1, h2, h3, hsig]
/-! where a walk stands -/
def Wk (W : Bool) (Z : State) (a0 : Array Value) (EL : List (String × Nat)) (n0 : Nat) (h0 : Heap) (ws : List Addr) (own : String) (p : Program) (l : Launch) (e : Env) (R : Room) (s : State) (m : MethodId) (args : Array Value) (below : List Frame) (meth : Method) (c : Code) (sf : List Addr) (T : State) (h : Heap) (k n : Nat) : Prop :=
  ∃ (vm0 : Vm) (locs : List Loc) (k0 k' n' : Nat), (k' ≤ k ∧ n' ≤ n) ∧ Stand p l e R (s.setVm vm0) m args below meth c T locs k' n' ∧ T.heap = h ∧ (s.Since vm0 k0 ∧ k0 ≤ h.size) ∧ Z.Warmed39 vm0 ∧ vm0.findClass own = some m.cls ∧ Fr n0 locs ∧ Keep h0 h ws ∧ Old Z n0 h ∧
    (∀ x ∈ sf, n0 ≤ x ∧ (x ∈ ws ∨ h0.size ≤ x) ∧ x < h.size) ∧ (W = false → vm0 = s.vm) ∧ (W = true → EW Z a0 EL ∧ CHr Z EL s.vm h0 vm0 h ∧ ∀ x ∈ sf, Safe Z EL vm0 h x)
section Kit
variable {W : Bool} {Z : State} {a0 : Array Value} {EL : List (String × Nat)} {n0 : Nat} {h0 : Heap} {ws : List Addr} {own : String} {p : Program} {l : Launch} {e : Env} {R : Room} {s : State} {m : MethodId} {args : Array Value} {below : List Frame} {meth : Method} {c : Code} {sf : List Addr} {T : State} {h : Heap} {k n : Nat}
theorem Wk.here (A : Wk W Z a0 EL n0 h0 ws own p l e R s m args below meth c sf T h k n) : At T m c below := by
  obtain ⟨_, _, _, _, _, _, X, -⟩ := A; exact X.here
theorem Wk.old (A : Wk W Z a0 EL n0 h0 ws own p l e R s m args below meth c sf T h k n) : Old Z n0 h := by
  obtain ⟨_, _, _, _, _, _, _, _, _, _, _, _, _, O, -⟩ := A; exact O
theorem Wk.keep (A : Wk W Z a0 EL n0 h0 ws own p l e R s m args below meth c sf T h k n) : Keep h0 h ws := by
  obtain ⟨_, _, _, _, _, _, _, _, _, _, _, _, K, -⟩ := A; exact K
theorem Wk.zle (A : Wk W Z a0 EL n0 h0 ws own p l e R s m args below meth c sf T h k n) : n0 ≤ h.size := by
  obtain ⟨q, E⟩ := A.old; rw [← q]; exact E.1
theorem Wk.nle (A : Wk W Z a0 EL n0 h0 ws own p l e R s m args below meth c sf T h k n) {x : Addr} (hx : x ∈ sf) : n0 ≤ x := by
  obtain ⟨_, _, _, _, _, _, _, _, _, _, _, _, _, _, f, -⟩ := A; exact (f x hx).1
theorem Wk.mono {k' n' : Nat} (A : Wk W Z a0 EL n0 h0 ws own p l e R s m args below meth c sf T h k n) (hk : k ≤ k') (hn : n ≤ n') : Wk W Z a0 EL n0 h0 ws own p l e R s m args below meth c sf T h k' n' := by
  obtain ⟨vm0, locs, k0, k1, n1, ⟨q1, q2⟩, r⟩ := A
  exact ⟨vm0, locs, k0, k1, n1, ⟨Nat.le_trans q1 hk, Nat.le_trans q2 hn⟩, r⟩
theorem Wk.less {sf' : List Addr} (A : Wk W Z a0 EL n0 h0 ws own p l e R s m args below meth c sf T h k n) (q : ∀ x ∈ sf', x ∈ sf) : Wk W Z a0 EL n0 h0 ws own p l e R s m args below meth c sf' T h k n := by
  obtain ⟨vm0, locs, k0, k1, n1, b, X, eT, S, hZ, ho, N, K, O, f, w1, w2⟩ := A
  exact ⟨vm0, locs, k0, k1, n1, b, X, eT, S, hZ, ho, N, K, O, fun x hx => f x (q x hx), w1, fun e => ⟨(w2 e).1, (w2 e).2.1, fun x hx => (w2 e).2.2 x (q x hx)⟩⟩
theorem Wk.newO (A : Wk W Z a0 EL n0 h0 ws own p l e R s m args below meth c sf T h k n) (hx : p.tables.exec = Jvm.exec) {C : String} {index q : Nat} (w : (Cond.classLink own index C).before a0 Z = true) (wi : (Cond.instantiable C q).before a0 Z = true) (wz : (Cond.initialized C).before a0 Z = true)
    {g : JFrame} (hg : g.method = m) (hd : decode c.code g.pc = .ok (.new index, 3)) (hc : k + 1 ≤ R.cells) (hl : n + q ≤ R.slots) :
    ∃ (a : Addr) (T' : State) (h' : Heap), Wk W Z a0 EL n0 h0 ws own p l e R s m args below meth c (a :: sf) T' h' (k + 1) (n + q) ∧ Ext h h' ∧ h.size = a ∧ Exa Z h' a C ∧ (∀ {O nm d : String} {ty : FieldType}, Laid Z a0 C O nm d → parseFieldDescriptor d = some ty → Fld Z h' a O nm d (defaultValue ty)) ∧
      ∀ t, Steps p.tables e below (T'.setTop { g with pc := g.pc + 3, stack := .ref a :: g.stack }) t → Steps p.tables e below (T.setTop g) t := by
  obtain ⟨vm0, locs, k0, k1, n1, ⟨b1, b2⟩, X, eT, ⟨S, S0⟩, hZ, ho, N, K, O, f, w1, w2⟩ := A
  obtain ⟨T', h', X', e', E, Ex, D, -, st⟩ := RoadKit.newO X hx hZ ho w wi wz eT hg hd (by omega) (by omega)
  refine ⟨_, T', h', ⟨vm0, locs, k0, _, _, ⟨by omega, by omega⟩, X', e', ⟨S, Nat.le_trans S0 E.1⟩, hZ, ho, N, K.ext E, O.ext E, ?_, w1, ?_⟩, E, rfl, Ex, D, st⟩
  · intro x hx'
    rcases List.mem_cons.mp hx' with rfl | hx'
    · exact ⟨by have := O.1; have := O.2.1; omega, Or.inr K.1, Ex.lt⟩
    · exact ⟨(f x hx').1, (f x hx').2.1, Nat.lt_of_lt_of_le (f x hx').2.2 E.1⟩
  · intro ew
    obtain ⟨v1, v2, v3⟩ := w2 ew
    refine ⟨v1, v2.trans (CHr.ext E v2.1), fun x hx' => ?_⟩
    rcases List.mem_cons.mp hx' with rfl | hx'
    · exact Safe.ext E v2.1 (Safe.new (Nat.le_refl _))
    · exact Safe.ext E v2.1 (v3 x hx')
theorem Wk.newP (A : Wk W Z a0 EL n0 h0 ws own p l e R s m args below meth c sf T h k n) (hx : p.tables.exec = Jvm.exec) {aty : ArrayType} (w : (Cond.arrayClass (newarray.typeOf aty)).before a0 Z = true)
    {g : JFrame} (hg : g.method = m) (hd : decode c.code g.pc = .ok (.newarray aty, 2)) {N : Int32} {rest : List Value} (hs : g.stack = .int N :: rest) (hn : ¬ N < 0) {cap : Nat} (hcap : N.toNatClampNeg ≤ cap) (hb : cap * 8 ≤ 536870912) (hc : k + 1 ≤ R.cells) (hl : n + cap ≤ R.slots) :
    ∃ (a : Addr) (T' : State) (h' : Heap) (kA : ClassId), Wk W Z a0 EL n0 h0 ws own p l e R s m args below meth c (a :: sf) T' h' (k + 1) (n + cap) ∧ Ext h h' ∧ h.size = a ∧ Arv Z h' a kA (newarray.typeOf aty) N (List.replicate cap (defaultValue (newarray.typeOf aty))) (defaultValue (newarray.typeOf aty)) ∧
      ∀ t, Steps p.tables e below (T'.setTop { g with pc := g.pc + 2, stack := .ref a :: rest }) t → Steps p.tables e below (T.setTop g) t := by
  obtain ⟨vm0, locs, k0, k1, n1, ⟨b1, b2⟩, X, eT, ⟨S, S0⟩, hZ, ho, Nf, K, O, f, w1, w2⟩ := A
  obtain ⟨T', h', kA, X', e', E, Ar, st⟩ := RoadKit.newP X hx hZ w eT hg hd hs hn hcap hb (by omega) (by omega)
  have V := (Arv.new Ar hn).pad (pad_rep [] (defaultValue (newarray.typeOf aty)) cap)
  refine ⟨_, T', h', kA, ⟨vm0, locs, k0, _, _, ⟨by omega, by omega⟩, X', e', ⟨S, Nat.le_trans S0 E.1⟩, hZ, ho, Nf, K.ext E, O.ext E, ?_, w1, ?_⟩, E, rfl, V, st⟩
  · intro x hx'
    rcases List.mem_cons.mp hx' with rfl | hx'
    · exact ⟨by have := O.1; have := O.2.1; omega, Or.inr K.1, Ar.lt⟩
    · exact ⟨(f x hx').1, (f x hx').2.1, Nat.lt_of_lt_of_le (f x hx').2.2 E.1⟩
  · intro ew
    obtain ⟨v1, v2, v3⟩ := w2 ew
    refine ⟨v1, v2.trans (CHr.ext E v2.1), fun x hx' => ?_⟩
    rcases List.mem_cons.mp hx' with rfl | hx'
    · exact Safe.ext E v2.1 (Safe.new (Nat.le_refl _))
    · exact Safe.ext E v2.1 (v3 x hx')
theorem Wk.newPE (A : Wk W Z a0 EL n0 h0 ws own p l e R s m args below meth c sf T h k n) (hx : p.tables.exec = Jvm.exec) {aty : ArrayType} (w : (Cond.arrayClass (newarray.typeOf aty)).before a0 Z = true)
    {g : JFrame} (hg : g.method = m) (hd : decode c.code g.pc = .ok (.newarray aty, 2)) {N : Int32} {rest : List Value} (hs : g.stack = .int N :: rest) (hn : ¬ N < 0) {cap : Nat} (hcap : N.toNatClampNeg ≤ cap) (hb : cap * 8 ≤ 536870912) (hc : k + 1 ≤ R.cells) (hl : n + cap ≤ R.slots) {ad : String} (had : "[" ++ (newarray.typeOf aty).toString = ad) :
    ∃ (a : Addr) (T' : State) (h' : Heap) (kA : ClassId), Wk W Z a0 EL n0 h0 ws own p l e R s m args below meth c (a :: sf) T' h' (k + 1) (n + cap) ∧ Ext h h' ∧ h.size = a ∧ Arv Z h' a kA (newarray.typeOf aty) N (List.replicate cap (defaultValue (newarray.typeOf aty))) (defaultValue (newarray.typeOf aty)) ∧ Exa Z h' a ad ∧
      ∀ t, Steps p.tables e below (T'.setTop { g with pc := g.pc + 2, stack := .ref a :: rest }) t → Steps p.tables e below (T.setTop g) t := by
  obtain ⟨vm0, locs, k0, k1, n1, ⟨b1, b2⟩, X, eT, ⟨S, S0⟩, hZ, ho, Nf, K, O, f, w1, w2⟩ := A
  obtain ⟨T', h', kA, X', e', E, Ar, Ex, st⟩ := RoadKit.newPE X hx hZ w eT hg hd hs hn hcap hb (by omega) (by omega) had
  have V := (Arv.new Ar hn).pad (pad_rep [] (defaultValue (newarray.typeOf aty)) cap)
  refine ⟨_, T', h', kA, ⟨vm0, locs, k0, _, _, ⟨by omega, by omega⟩, X', e', ⟨S, Nat.le_trans S0 E.1⟩, hZ, ho, Nf, K.ext E, O.ext E, ?_, w1, ?_⟩, E, rfl, V, Ex, st⟩
  · intro x hx'
    rcases List.mem_cons.mp hx' with rfl | hx'
    · exact ⟨by have := O.1; have := O.2.1; omega, Or.inr K.1, Ar.lt⟩
    · exact ⟨(f x hx').1, (f x hx').2.1, Nat.lt_of_lt_of_le (f x hx').2.2 E.1⟩
  · intro ew
    obtain ⟨v1, v2, v3⟩ := w2 ew
    refine ⟨v1, v2.trans (CHr.ext E v2.1), fun x hx' => ?_⟩
    rcases List.mem_cons.mp hx' with rfl | hx'
    · exact Safe.ext E v2.1 (Safe.new (Nat.le_refl _))
    · exact Safe.ext E v2.1 (v3 x hx')
theorem Wk.clone (A : Wk W Z a0 EL n0 h0 ws own p l e R s m args below meth c sf T h k n) (hx : p.tables.exec = Jvm.exec) {ad : String} {index : Nat}
    (v1 : (Cond.methodLink own index ⟨ad, "clone", "()Ljava/lang/Object;"⟩).before a0 Z = true) (v2 : (Cond.sameMethod ad "java/lang/Object" "clone" "()Ljava/lang/Object;").before a0 Z = true) (v3 : (Cond.native ⟨"java/lang/Object", "clone", "()Ljava/lang/Object;"⟩).before a0 Z = true)
    (v4 : (Cond.instanceMethod ⟨"java/lang/Object", "clone", "()Ljava/lang/Object;"⟩).before a0 Z = true) (v5 : (Cond.selects ad ⟨ad, "clone", "()Ljava/lang/Object;"⟩ ⟨"java/lang/Object", "clone", "()Ljava/lang/Object;"⟩).before a0 Z = true) (v6 : (Cond.castable ad "java/lang/Cloneable").before a0 Z = true)
    {b : Addr} {kb : ClassId} {ty : FieldType} {z : Int32} {vs : List Value} {d : Value} (V : Arv Z h b kb ty z vs d) (E : Exa Z h b ad) {g : JFrame} (hg : g.method = m) (hsize : g.locals.size = c.maxLocals) {rest : List Value} (hs : g.stack = .ref b :: rest) (hd : decode c.code g.pc = .ok (.invokevirtual index, 3))
    (hf : 1 ≤ R.frames) {Wd cap : Nat} (hW : 2 * g.monitorRoom + (rest.map fun v => v.category).sum ≤ Wd) (hl : Wd + 14 ≤ R.locals) (hcap : z.toNatClampNeg ≤ cap) (hc : k + 1 ≤ R.cells) (hsl : n + cap ≤ R.slots) :
    ∃ (a : Addr) (T' : State) (h' : Heap), Wk W Z a0 EL n0 h0 ws own p l e R s m args below meth c (a :: sf) T' h' (k + 1) (n + cap) ∧ Ext h h' ∧ h.size = a ∧ Arv Z h' a kb ty z vs d ∧ Exa Z h' a ad ∧
      ∀ t, Steps p.tables e below (T'.setTop { g with pc := g.pc + 3, stack := .ref a :: rest }) t → Steps p.tables e below (T.setTop g) t := by
  obtain ⟨vm0, locs, k0, k1, n1, ⟨b1, b2⟩, X, eT, ⟨S, S0⟩, hZ, ho, Nf, K, O, f, w1, w2⟩ := A
  obtain ⟨T', h', X', e', Ex, Ar, Ea, st⟩ := RoadKit.cloneH X hx hZ ho v1 v2 v3 v4 v5 v6 eT V.arh E hg hsize hs hd hf hW hl hcap (by omega) (by omega)
  refine ⟨_, T', h', ⟨vm0, locs, k0, _, _, ⟨by omega, by omega⟩, X', e', ⟨S, Nat.le_trans S0 Ex.1⟩, hZ, ho, Nf, K.ext Ex, O.ext Ex, ?_, w1, ?_⟩, Ex, rfl, Ar, Ea, st⟩
  · intro x hx'
    rcases List.mem_cons.mp hx' with rfl | hx'
    · exact ⟨by have := O.1; have := O.2.1; omega, Or.inr K.1, Ea.lt⟩
    · exact ⟨(f x hx').1, (f x hx').2.1, Nat.lt_of_lt_of_le (f x hx').2.2 Ex.1⟩
  · intro ew
    obtain ⟨q1, q2, q3⟩ := w2 ew
    refine ⟨q1, q2.trans (CHr.ext Ex q2.1), fun x hx' => ?_⟩
    rcases List.mem_cons.mp hx' with rfl | hx'
    · exact Safe.ext Ex q2.1 (Safe.new (Nat.le_refl _))
    · exact Safe.ext Ex q2.1 (q3 x hx')
/-- one place of a cell of our own is written -/
theorem Wk.wrote {T' : State} {h' : Heap} {a : Addr} {sl : Nat} {v : Value} {vm0 : Vm} {locs : List Loc} {k0 k1 n1 : Nat} (X' : Stand p l e R (s.setVm vm0) m args below meth c T' (locs ++ [⟨a, sl⟩]) k1 n1) (e' : T'.heap = h') (Wr' : Wr h h' a sl v) (ha : a ∈ sf)
    (b : k1 ≤ k ∧ n1 ≤ n) (S : s.Since vm0 k0 ∧ k0 ≤ h.size) (hZ : Z.Warmed39 vm0) (ho : vm0.findClass own = some m.cls) (N : Fr n0 locs) (K : Keep h0 h ws) (O : Old Z n0 h) (f : ∀ x ∈ sf, n0 ≤ x ∧ (x ∈ ws ∨ h0.size ≤ x) ∧ x < h.size) (w1 : W = false → vm0 = s.vm) (w2 : W = true → EW Z a0 EL ∧ CHr Z EL s.vm h0 vm0 h ∧ ∀ x ∈ sf, Safe Z EL vm0 h x) :
    Wk W Z a0 EL n0 h0 ws own p l e R s m args below meth c sf T' h' k n := by
  obtain ⟨f1, f2, f3⟩ := f a ha
  refine ⟨vm0, _, k0, k1, n1, b, X', e', ⟨S.1, by rw [Wr'.size]; exact S.2⟩, hZ, ho, Fr.snoc X' N f1, K.wr Wr' f2, O.wr Wr' f1, fun x hx => ?_, w1, fun ew => ?_⟩
  · rw [Wr'.size]; exact f x hx
  · obtain ⟨v1, v2, v3⟩ := w2 ew
    exact ⟨v1, v2.trans (CHr.wr Wr' (v3 a ha) v2.1), fun x hx => Safe.wr Wr' (v3 a ha) v2.1 (v3 x hx)⟩
theorem Wk.stC (A : Wk W Z a0 EL n0 h0 ws own p l e R s m args below meth c sf T h k n) (hx : p.tables.exec = Jvm.exec) {b : Addr} {kb : ClassId} {N : Int32} {vs : List Value} {d : Value} (V : Arv Z h b kb .char N vs d) (hb : b ∈ sf) {j x : Int32} (i : Nat) (hj : j.toNatClampNeg = i) (hjn : ¬ j < 0 ∧ j < N) (hi : i < vs.length)
    {g : JFrame} (hg : g.method = m) {rest : List Value} (hs : g.stack = .int x :: .int j :: .ref b :: rest) (hd : decode c.code g.pc = .ok (.castore, 1)) :
    ∃ (T' : State) (h' : Heap), Wk W Z a0 EL n0 h0 ws own p l e R s m args below meth c sf T' h' k n ∧ Keep h h' [b] ∧ Arv Z h' b kb .char N (vs.set i (.int (nar .char x))) d ∧
      ∀ t, Steps p.tables e below (T'.setTop { g with pc := g.pc + 1, stack := rest }) t → Steps p.tables e below (T.setTop g) t := by
  obtain ⟨vm0, locs, k0, k1, n1, bb, X, eT, S, hZ, ho, Nf, K, O, f, w1, w2⟩ := A
  obtain ⟨cl, Ar, q, Sz, Nn, H, G⟩ := V
  obtain ⟨T', h', X', e', Wr', st⟩ := RoadKit.stC X hx hZ eT Ar (j := j) (inb_of Sz hjn) hg hs hd
  exact ⟨T', h', Wk.wrote X' e' Wr' hb bb S hZ ho Nf K O f w1 w2, Keep.of_wr Wr', Arv.set Ar q Sz Nn H G (fits_nar_char _) Wr' i hj hi, st⟩
theorem Wk.stB (A : Wk W Z a0 EL n0 h0 ws own p l e R s m args below meth c sf T h k n) (hx : p.tables.exec = Jvm.exec) {b : Addr} {kb : ClassId} {N : Int32} {vs : List Value} {d : Value} (V : Arv Z h b kb .byte N vs d) (hb : b ∈ sf) {j x : Int32} (i : Nat) (hj : j.toNatClampNeg = i) (hjn : ¬ j < 0 ∧ j < N) (hi : i < vs.length) (hf : fits .byte (.int (nar .byte x)) = true)
    {g : JFrame} (hg : g.method = m) {rest : List Value} (hs : g.stack = .int x :: .int j :: .ref b :: rest) (hd : decode c.code g.pc = .ok (.bastore, 1)) :
    ∃ (T' : State) (h' : Heap), Wk W Z a0 EL n0 h0 ws own p l e R s m args below meth c sf T' h' k n ∧ Keep h h' [b] ∧ Arv Z h' b kb .byte N (vs.set i (.int (nar .byte x))) d ∧
      ∀ t, Steps p.tables e below (T'.setTop { g with pc := g.pc + 1, stack := rest }) t → Steps p.tables e below (T.setTop g) t := by
  obtain ⟨vm0, locs, k0, k1, n1, bb, X, eT, S, hZ, ho, Nf, K, O, f, w1, w2⟩ := A
  obtain ⟨cl, Ar, q, Sz, Nn, H, G⟩ := V
  obtain ⟨T', h', X', e', Wr', st⟩ := RoadKit.stB X hx hZ eT Ar (j := j) (inb_of Sz hjn) hg hs hd
  exact ⟨T', h', Wk.wrote X' e' Wr' hb bb S hZ ho Nf K O f w1 w2, Keep.of_wr Wr', Arv.set Ar q Sz Nn H G hf Wr' i hj hi, st⟩
theorem Wk.putF (A : Wk W Z a0 EL n0 h0 ws own p l e R s m args below meth c sf T h k n) (hx : p.tables.exec = Jvm.exec) {R0 O fn d C : String} {index kk : Nat} {ty : FieldType} (w : (Cond.fieldLink own index R0 fn d).before a0 Z = true) (via : Via Z R0 O fn d) {a : Addr} (ha : a ∈ sf) {v v' old : Value} (F : Fld Z h a O fn d old) (E : Exa Z h a C)
    (L : (Cond.lays C O fn d).before a0 Z = true ∨ ((Cond.laysFinal C O fn d).before a0 Z = true ∧ own = O ∧ meth.name = "<init>")) (wi : (Cond.instantiable C kk).before a0 Z = true) (hty : parseFieldDescriptor d = some ty) (hn : narrow ty v = v') (hf : fits ty v' = true) {g : JFrame} (hg : g.method = m) {rest : List Value} (hs : g.stack = v :: .ref a :: rest) (hd : decode c.code g.pc = .ok (.putfield index, 3)) :
    ∃ (T' : State) (h' : Heap), Wk W Z a0 EL n0 h0 ws own p l e R s m args below meth c sf T' h' k n ∧ Keep h h' [a] ∧ Wr h h' a (RoadKit.slotOf Z O fn d) v' ∧
      ∀ t, Steps p.tables e below (T'.setTop { g with pc := g.pc + 3, stack := rest }) t → Steps p.tables e below (T.setTop g) t := by
  obtain ⟨vm0, locs, k0, k1, n1, bb, X, eT, S, hZ, ho, Nf, K, Od, f, w1, w2⟩ := A
  obtain ⟨T', h', X', e', Wr', st⟩ := RoadKit.putFN X hx hZ ho w via eT F E L wi hty hn hf hg hs hd
  exact ⟨T', h', Wk.wrote X' e' Wr' ha bb S hZ ho Nf K Od f w1 w2, Keep.of_wr Wr', Wr', st⟩
/-- a step that leaves the heap -/
theorem Wk.stay {T' : State} {vm0 : Vm} {locs : List Loc} {k0 k1 n1 : Nat} (X' : Stand p l e R (s.setVm vm0) m args below meth c T' locs k1 n1) (e' : T'.heap = h)
    (b : k1 ≤ k ∧ n1 ≤ n) (S : s.Since vm0 k0 ∧ k0 ≤ h.size) (hZ : Z.Warmed39 vm0) (ho : vm0.findClass own = some m.cls) (N : Fr n0 locs) (K : Keep h0 h ws) (O : Old Z n0 h) (f : ∀ x ∈ sf, n0 ≤ x ∧ (x ∈ ws ∨ h0.size ≤ x) ∧ x < h.size) (w1 : W = false → vm0 = s.vm) (w2 : W = true → EW Z a0 EL ∧ CHr Z EL s.vm h0 vm0 h ∧ ∀ x ∈ sf, Safe Z EL vm0 h x) :
    Wk W Z a0 EL n0 h0 ws own p l e R s m args below meth c sf T' h k n := ⟨vm0, locs, k0, k1, n1, b, X', e', S, hZ, ho, N, K, O, f, w1, w2⟩
theorem Wk.getF (A : Wk W Z a0 EL n0 h0 ws own p l e R s m args below meth c sf T h k n) (hx : p.tables.exec = Jvm.exec) {R0 O fn d : String} {index : Nat} (w : (Cond.fieldLink own index R0 fn d).before a0 Z = true) (via : Via Z R0 O fn d) {a : Addr} {v : Value} (F : Fld Z h a O fn d v) {g : JFrame} (hg : g.method = m) {rest : List Value} (hs : g.stack = .ref a :: rest) (hd : decode c.code g.pc = .ok (.getfield index, 3)) :
    ∃ (T' : State), Wk W Z a0 EL n0 h0 ws own p l e R s m args below meth c sf T' h k n ∧
      ∀ t, Steps p.tables e below (T'.setTop { g with pc := g.pc + 3, stack := v :: rest }) t → Steps p.tables e below (T.setTop g) t := by
  obtain ⟨vm0, locs, k0, k1, n1, bb, X, eT, S, hZ, ho, Nf, K, O, f, w1, w2⟩ := A
  obtain ⟨T', X', e', st⟩ := RoadKit.getF X hx hZ ho (host := "") (Or.inl w) via eT F hg hs hd
  exact ⟨T', Wk.stay X' e' bb S hZ ho Nf K O f w1 w2, st⟩
theorem Wk.getS (A : Wk W Z a0 EL n0 h0 ws own p l e R s m args below meth c sf T h k n) (hx : p.tables.exec = Jvm.exec) {R0 O fn d : String} {index : Nat} (w : (Cond.fieldLink own index R0 fn d).before a0 Z = true) (via : Via Z R0 O fn d) {v : Value} (F : Sta Z h O fn d v) {g : JFrame} (hg : g.method = m) (hd : decode c.code g.pc = .ok (.getstatic index, 3)) :
    ∃ (T' : State), Wk W Z a0 EL n0 h0 ws own p l e R s m args below meth c sf T' h k n ∧
      ∀ t, Steps p.tables e below (T'.setTop { g with pc := g.pc + 3, stack := v :: g.stack }) t → Steps p.tables e below (T.setTop g) t := by
  obtain ⟨vm0, locs, k0, k1, n1, bb, X, eT, S, hZ, ho, Nf, K, O, f, w1, w2⟩ := A
  obtain ⟨T', X', e', st⟩ := RoadKit.getS X hx hZ (host := "") ho w via eT F hg hd
  exact ⟨T', Wk.stay X' e' bb S hZ ho Nf K O f w1 w2, st⟩
theorem Wk.castY (A : Wk W Z a0 EL n0 h0 ws own p l e R s m args below meth c sf T h k n) (hx : p.tables.exec = Jvm.exec) {KK : String} {index : Nat} (w : (Cond.classLink own index KK).before a0 Z = true) {a : Addr} (F : Ins Z h a KK true) {g : JFrame} (hg : g.method = m) {rest : List Value} (hs : g.stack = .ref a :: rest) (hd : decode c.code g.pc = .ok (.checkcast index, 3)) :
    ∃ (T' : State), Wk W Z a0 EL n0 h0 ws own p l e R s m args below meth c sf T' h k n ∧
      ∀ t, Steps p.tables e below (T'.setTop { g with pc := g.pc + 3 }) t → Steps p.tables e below (T.setTop g) t := by
  obtain ⟨vm0, locs, k0, k1, n1, bb, X, eT, S, hZ, ho, Nf, K, O, f, w1, w2⟩ := A
  obtain ⟨T', X', e', st⟩ := RoadKit.castY X hx hZ ho w eT F hg hs hd
  exact ⟨T', Wk.stay X' e' bb S hZ ho Nf K O f w1 w2, st⟩
theorem Wk.instY (A : Wk W Z a0 EL n0 h0 ws own p l e R s m args below meth c sf T h k n) (hx : p.tables.exec = Jvm.exec) {KK : String} {index : Nat} (w : (Cond.classLink own index KK).before a0 Z = true) {a : Addr} (F : Ins Z h a KK true) {g : JFrame} (hg : g.method = m) {rest : List Value} (hs : g.stack = .ref a :: rest) (hd : decode c.code g.pc = .ok (.instanceof index, 3)) :
    ∃ (T' : State), Wk W Z a0 EL n0 h0 ws own p l e R s m args below meth c sf T' h k n ∧
      ∀ t, Steps p.tables e below (T'.setTop { g with pc := g.pc + 3, stack := .int 1 :: rest }) t → Steps p.tables e below (T.setTop g) t := by
  obtain ⟨vm0, locs, k0, k1, n1, bb, X, eT, S, hZ, ho, Nf, K, O, f, w1, w2⟩ := A
  obtain ⟨T', X', e', st⟩ := RoadKit.instY X hx hZ ho w eT F hg hs hd
  exact ⟨T', Wk.stay X' e' bb S hZ ho Nf K O f w1 w2, st⟩
theorem Wk.instNo (A : Wk W Z a0 EL n0 h0 ws own p l e R s m args below meth c sf T h k n) (hx : p.tables.exec = Jvm.exec) {KK C : String} {index : Nat} (w : (Cond.classLink own index KK).before a0 Z = true) {a : Addr} (E : Exa Z h a C) (F : ∃ c t, Z.vm.findClass C = some c ∧ Z.vm.findClass KK = some t ∧ Z.vm.assignable c t = false) {g : JFrame} (hg : g.method = m) {rest : List Value} (hs : g.stack = .ref a :: rest) (hd : decode c.code g.pc = .ok (.instanceof index, 3)) :
    ∃ (T' : State), Wk W Z a0 EL n0 h0 ws own p l e R s m args below meth c sf T' h k n ∧
      ∀ t, Steps p.tables e below (T'.setTop { g with pc := g.pc + 3, stack := .int 0 :: rest }) t → Steps p.tables e below (T.setTop g) t := by
  obtain ⟨vm0, locs, k0, k1, n1, bb, X, eT, S, hZ, ho, Nf, K, O, f, w1, w2⟩ := A
  obtain ⟨T', X', e', st⟩ := RoadKit.instNo X hx hZ ho w eT E F hg hs hd
  exact ⟨T', Wk.stay X' e' bb S hZ ho Nf K O f w1 w2, st⟩
theorem Wk.instNull (A : Wk W Z a0 EL n0 h0 ws own p l e R s m args below meth c sf T h k n) (hx : p.tables.exec = Jvm.exec) {index : Nat} {g : JFrame} (hg : g.method = m) {rest : List Value} (hs : g.stack = .null :: rest) (hd : decode c.code g.pc = .ok (.instanceof index, 3)) :
    ∀ t, Steps p.tables e below (T.setTop { g with pc := g.pc + 3, stack := .int 0 :: rest }) t → Steps p.tables e below (T.setTop g) t := by
  obtain ⟨vm0, locs, k0, k1, n1, bb, X, eT, S, hZ, ho, Nf, K, O, f, w1, w2⟩ := A
  exact X.instanceofNull hx hg hs hd
theorem Wk.castNull (A : Wk W Z a0 EL n0 h0 ws own p l e R s m args below meth c sf T h k n) (hx : p.tables.exec = Jvm.exec) {index : Nat} {g : JFrame} (hg : g.method = m) {rest : List Value} (hs : g.stack = .null :: rest) (hd : decode c.code g.pc = .ok (.checkcast index, 3)) :
    ∀ t, Steps p.tables e below (T.setTop { g with pc := g.pc + 3 }) t → Steps p.tables e below (T.setTop g) t := by
  obtain ⟨vm0, locs, k0, k1, n1, bb, X, eT, S, hZ, ho, Nf, K, O, f, w1, w2⟩ := A
  exact X.checkcastNull hx hg hs hd
theorem Wk.initO (A : Wk W Z a0 EL n0 h0 ws own p l e R s m args below meth c sf T h k n) (hx : p.tables.exec = Jvm.exec) {idx : Nat} (w1' : (Cond.methodLink own idx Lib.objectInit).before a0 Z = true) (w2' : (Cond.instanceMethod Lib.objectInit).before a0 Z = true) (w3' : (Cond.code Lib.objectInit ⟨#[0xb1]⟩ 1 none).before a0 Z = true) {g : JFrame} (hg : g.method = m) (hsize : g.locals.size = c.maxLocals) {a : Addr} {rest : List Value} (hs : g.stack = .ref a :: rest) (hd : decode c.code g.pc = .ok (.invokespecial idx, 3))
    (hf : 1 ≤ R.frames) {Wd : Nat} (hW : 2 * g.monitorRoom + (rest.map fun v => v.category).sum ≤ Wd) (hl : Wd + 12 ≤ R.locals) :
    ∃ (T' : State), Wk W Z a0 EL n0 h0 ws own p l e R s m args below meth c sf T' h k n ∧
      ∀ t, Steps p.tables e below (T'.setTop { g with pc := g.pc + 3, stack := rest }) t → Steps p.tables e below (T.setTop g) t := by
  obtain ⟨vm0, locs, k0, k1, n1, bb, X, eT, S, hZ, ho, Nf, K, O, f, w1, w2⟩ := A
  obtain ⟨T', X', e', st⟩ := RoadKit.initO X hx hZ ho w1' w2' w3' eT hg hsize hs hd hf hW hl
  exact ⟨T', Wk.stay X' e' bb S hZ ho Nf K O f w1 w2, st⟩
theorem Wk.ldcI (A : Wk W Z a0 EL n0 h0 ws own p l e R s m args below meth c sf T h k n) (hx : p.tables.exec = Jvm.exec) {index : Nat} {v : Int32} (w : (Cond.constant own index v).before a0 Z = true) {g : JFrame} (hg : g.method = m) (hd : decode c.code g.pc = .ok (.ldc index, 2)) :
    ∀ t, Steps p.tables e below (T.setTop { g with pc := g.pc + 2, stack := .int v :: g.stack }) t → Steps p.tables e below (T.setTop g) t := by
  obtain ⟨vm0, locs, k0, k1, n1, bb, X, eT, S, hZ, ho, Nf, K, O, f, w1, w2⟩ := A
  exact X.ldcInt hx ho (mvT (s := s.setVm vm0) hZ w) hg hd
theorem Wk.ldcL (A : Wk W Z a0 EL n0 h0 ws own p l e R s m args below meth c sf T h k n) (hx : p.tables.exec = Jvm.exec) {index : Nat} {v : Int64} (w : (Cond.constantLong own index v).before a0 Z = true) {g : JFrame} (hg : g.method = m) (hd : decode c.code g.pc = .ok (.ldc2_w index, 3)) :
    ∀ t, Steps p.tables e below (T.setTop { g with pc := g.pc + 3, stack := .long v :: g.stack }) t → Steps p.tables e below (T.setTop g) t := by
  obtain ⟨vm0, locs, k0, k1, n1, bb, X, eT, S, hZ, ho, Nf, K, O, f, w1, w2⟩ := A
  exact X.ldc2Long hx ho (mvT (s := s.setVm vm0) hZ w) hg hd
theorem Wk.ldB (A : Wk W Z a0 EL n0 h0 ws own p l e R s m args below meth c sf T h k n) (hx : p.tables.exec = Jvm.exec) {b : Addr} {kb : ClassId} {N : Int32} {vs : List Value} {d : Value} (V : Arv Z h b kb .byte N vs d) {j : Int32} (i : Nat) (hj : j.toNatClampNeg = i) (hjn : ¬ j < 0 ∧ j < N) {v : Value} (hv : vs.getD i d = v)
    {g : JFrame} (hg : g.method = m) {rest : List Value} (hs : g.stack = .int j :: .ref b :: rest) (hd : decode c.code g.pc = .ok (.baload, 1)) :
    ∀ t, Steps p.tables e below (T.setTop { g with pc := g.pc + 1, stack := v :: rest }) t → Steps p.tables e below (T.setTop g) t := by
  obtain ⟨vm0, locs, k0, k1, n1, bb, X, eT, S, hZ, ho, Nf, K, O, f, w1, w2⟩ := A
  obtain ⟨cl, Ar, q, Sz, Nn, H, G⟩ := V
  have hin := inb_of Sz hjn
  subst hj
  exact fun t kk => X.baloadBytes hx (by rw [eT]; exact Ar.1) (State.isArrayOf_alike hZ.alike Ar.2.1) Ar.2.2 hin (by rw [H _ (Nat.lt_of_not_le fun q => hin (Or.inr q)), hv]) hg hs hd t kk
theorem Wk.ldC (A : Wk W Z a0 EL n0 h0 ws own p l e R s m args below meth c sf T h k n) (hx : p.tables.exec = Jvm.exec) {b : Addr} {kb : ClassId} {N : Int32} {vs : List Value} {d : Value} (V : Arv Z h b kb .char N vs d) {j : Int32} (i : Nat) (hj : j.toNatClampNeg = i) (hjn : ¬ j < 0 ∧ j < N) {v : Value} (hv : vs.getD i d = v)
    {g : JFrame} (hg : g.method = m) {rest : List Value} (hs : g.stack = .int j :: .ref b :: rest) (hd : decode c.code g.pc = .ok (.caload, 1)) :
    ∀ t, Steps p.tables e below (T.setTop { g with pc := g.pc + 1, stack := v :: rest }) t → Steps p.tables e below (T.setTop g) t := by
  obtain ⟨vm0, locs, k0, k1, n1, bb, X, eT, S, hZ, ho, Nf, K, O, f, w1, w2⟩ := A
  obtain ⟨cl, Ar, q, Sz, Nn, H, G⟩ := V
  have hin := inb_of Sz hjn
  subst hj
  exact fun t kk => X.caload hx (by rw [eT]; exact Ar.1) (State.isArrayOf_alike hZ.alike Ar.2.1) Ar.2.2 hin (by rw [H _ (Nat.lt_of_not_le fun q => hin (Or.inr q)), hv]) hg hs hd t kk
theorem Wk.alen (A : Wk W Z a0 EL n0 h0 ws own p l e R s m args below meth c sf T h k n) (hx : p.tables.exec = Jvm.exec) {b : Addr} {kb : ClassId} {ty : FieldType} {N : Int32} {vs : List Value} {d : Value} (V : Arv Z h b kb ty N vs d) {g : JFrame} (hg : g.method = m) {rest : List Value} (hs : g.stack = .ref b :: rest) (hd : decode c.code g.pc = .ok (.arraylength, 1)) :
    ∀ t, Steps p.tables e below (T.setTop { g with pc := g.pc + 1, stack := .int N :: rest }) t → Steps p.tables e below (T.setTop g) t := by
  obtain ⟨vm0, locs, k0, k1, n1, bb, X, eT, S, hZ, ho, Nf, K, O, f, w1, w2⟩ := A
  obtain ⟨cl, Ar, q, Sz, Nn, H, G⟩ := V
  intro t kk
  refine X.arraylength hx (cell := cl) (by rw [eT]; exact Ar.1) (State.isArrayOf_alike (Vm.Alike.trans (Vm.Alike.refl _) hZ.alike) Ar.2.1) hg hs hd _ ?_
  rw [len_of Sz Nn]; exact kk
/-! what pays a call -/
abbrev PayN (l : Launch) (R : Room) (p : Program) (e : Env) (below : List Frame) (s : State) (args : Array Value) (y : MethodName) (len Wd : Nat) (as : Array Value) (h : Heap) (kc ks : Nat) (Q : Option Value → Heap → List Loc → Prop) : Prop :=
  Back l R p e below s args y len Wd (fun A a => a = as ∧ A.U.heap = h ∧ A.cells + kc ≤ R.cells ∧ A.slots + ks ≤ R.slots) (fun A _ v B => ∃ L, Q v B.U.heap L ∧ B.locs = A.locs ++ L ∧ B.cells = A.cells + kc ∧ B.slots = A.slots + ks)
abbrev PayW (Z : State) (EL : List (String × Nat)) (l : Launch) (R : Room) (p : Program) (e : Env) (below : List Frame) (s : State) (vm0 : Vm) (args : Array Value) (y : MethodName) (len Wd : Nat) (as : Array Value) (h : Heap) (kc ks : Nat) (Q : Option Value → Heap → List Loc → Prop) : Prop :=
  BackS l R p e below (s.setVm vm0) args y len Wd (fun A a => a = as ∧ A.U.heap = h ∧ A.cells + kc ≤ R.cells ∧ A.slots + ks ≤ R.slots) (fun A _ v B => ∃ L, Q v B.U.heap L ∧ B.locs = A.locs ++ L ∧ B.cells = A.cells + kc ∧ B.slots = A.slots + ks ∧ CHr Z EL vm0 h B.U.vm B.U.heap)
/-- behind a call that interned nothing -/
theorem Wk.after {kc ks : Nat} {T' : State} {L locs : List Loc} {vm0 : Vm} {k0 k1 n1 : Nat} {wc : List Addr} (X' : Stand p l e R (s.setVm vm0) m args below meth c T' (locs ++ L) (k1 + kc) (n1 + ks))
    (b : k1 ≤ k ∧ n1 ≤ n) (S : s.Since vm0 k0 ∧ k0 ≤ h.size) (hZ : Z.Warmed39 vm0) (ho : vm0.findClass own = some m.cls) (N : Fr n0 locs) (K : Keep h0 h ws) (O : Old Z n0 h) (f : ∀ x ∈ sf, n0 ≤ x ∧ (x ∈ ws ∨ h0.size ≤ x) ∧ x < h.size) (w1 : W = false → vm0 = s.vm) (w2 : W = true → EW Z a0 EL ∧ CHr Z EL s.vm h0 vm0 h ∧ ∀ x ∈ sf, Safe Z EL vm0 h x)
    (NL : Fr n0 L) (Kc : Keep h T'.heap wc) (hws : ∀ x ∈ wc, x ∈ sf) (xs : List Addr) (hxs : ∀ x ∈ xs, x ∈ sf ∨ h.size ≤ x ∧ x < T'.heap.size) :
    Wk W Z a0 EL n0 h0 ws own p l e R s m args below meth c (xs ++ sf) T' T'.heap (k + kc) (n + ks) := by
  refine ⟨vm0, _, k0, _, _, ⟨by omega, by omega⟩, X', rfl, ⟨S.1, Nat.le_trans S.2 Kc.1⟩, hZ, ho, Fr.app N NL, K.trans Kc fun x hx => (f x (hws x hx)).2.1, O.keep Kc fun x hx => (f x (hws x hx)).1, fun x hx => ?_, w1, fun ew => ?_⟩
  · have old : x ∈ sf → n0 ≤ x ∧ (x ∈ ws ∨ h0.size ≤ x) ∧ x < T'.heap.size := fun hx => ⟨(f x hx).1, (f x hx).2.1, Nat.lt_of_lt_of_le (f x hx).2.2 Kc.1⟩
    rcases List.mem_append.mp hx with hx | hx
    · rcases hxs x hx with hx | ⟨q1, q2⟩
      · exact old hx
      · exact ⟨Nat.le_trans (by rw [← O.1]; exact O.2.1) q1, Or.inr (Nat.le_trans K.1 q1), q2⟩
    · exact old hx
  · obtain ⟨v1, v2, v3⟩ := w2 ew
    refine ⟨v1, v2.trans (CHr.keep Kc (fun x hx => v3 x (hws x hx)) v2.1), fun x hx => ?_⟩
    have old : x ∈ sf → Safe Z EL vm0 T'.heap x := fun hx => Safe.keep Kc (fun x hx => v3 x (hws x hx)) v2.1 (v3 x hx)
    rcases List.mem_append.mp hx with hx | hx
    · rcases hxs x hx with hx | ⟨q1, q2⟩
      · exact old hx
      · exact Safe.keep Kc (fun x hx => v3 x (hws x hx)) v2.1 (Safe.new q1)
    · exact old hx
theorem Wk.callS (A : Wk W Z a0 EL n0 h0 ws own p l e R s m args below meth c sf T h k n) (hx : p.tables.exec = Jvm.exec) {index : Nat} {y : MethodName} {bytes : ByteArray} {maxL : Nat} {ret : Option FieldType} (wl : (Cond.methodLink own index y).before a0 Z = true) (wst : (Cond.static y).before a0 Z = true) (wz : (Cond.initialized y.cls).before a0 Z = true) (wc : (Cond.code y bytes maxL ret).before a0 Z = true) (hy : y.cls ≠ "java/lang/invoke/MethodHandle" ∧ y.cls ≠ "java/lang/invoke/VarHandle")
    {g : JFrame} (hg : g.method = m) (hsize : g.locals.size = c.maxLocals) (argsL rest : List Value) (hlen : ∀ sig, parseMethodDescriptor y.desc = some sig → argsL.length = sig.parameters.length) (hs : g.stack = argsL.reverse ++ rest) {Wd kc ks : Nat} (hW : 2 * g.monitorRoom + (rest.map fun v => v.category).sum ≤ Wd) (hd : decode c.code g.pc = .ok (.invokestatic index, 3)) (hk : k + kc ≤ R.cells) (hn : n + ks ≤ R.slots)
    {Q : Option Value → Heap → List Loc → Prop} (wc' : List Addr) (hQ : ∀ v h' L, Q v h' L → Fr n0 L ∧ Keep h h' wc') (hws : ∀ x ∈ wc', x ∈ sf) (pay : ∀ vm0, Z.Warmed39 (s.setVm vm0).vm → PayN l R p e below (s.setVm vm0) args y 3 Wd argsL.toArray h kc ks Q) :
    ∃ (v : Option Value) (T' : State) (h' : Heap), (∀ xs : List Addr, (∀ x ∈ xs, x ∈ sf ∨ h.size ≤ x ∧ x < h'.size) → Wk W Z a0 EL n0 h0 ws own p l e R s m args below meth c (xs ++ sf) T' h' (k + kc) (n + ks)) ∧ Keep h h' wc' ∧ (∃ L, Q v h' L) ∧
      ∀ t, Steps p.tables e below (T'.setTop { g with pc := g.pc + 3, stack := v.toList ++ rest }) t → Steps p.tables e below (T.setTop g) t := by
  obtain ⟨vm0, locs, k0, k1, n1, bb, X, eT, S, hZ, ho, Nf, K, O, f, w1, w2⟩ := A
  obtain ⟨v, _, ⟨T', L', c', s'⟩, -, X', ⟨L, hq, l1, l2, l3⟩, st⟩ := Jvm.LawKit.callS X hx ho (mvT (s := s.setVm vm0) hZ wl) (mvT (s := s.setVm vm0) hZ wst) (mvT (s := s.setVm vm0) hZ wz) (mvT (s := s.setVm vm0) hZ wc) hy (pay vm0 hZ) hg hsize (argsL := argsL) (rest := rest) hlen hs hW hd (fun _ _ => ⟨rfl, eT, by show k1 + kc ≤ _; omega, by show n1 + ks ≤ _; omega⟩)
  dsimp only [Pt.U, Pt.locs, Pt.cells, Pt.slots] at X' hq l1 l2 l3 st
  subst l1 l2 l3
  obtain ⟨q1, q2⟩ := hQ _ _ _ hq
  exact ⟨v, T', _, Wk.after X' bb S hZ ho Nf K O f w1 w2 q1 q2 hws, q2, ⟨L, hq⟩, st⟩
theorem Wk.callI (A : Wk W Z a0 EL n0 h0 ws own p l e R s m args below meth c sf T h k n) (hx : p.tables.exec = Jvm.exec) {index : Nat} {y : MethodName} {bytes : ByteArray} {maxL : Nat} (hy1 : y.name = "<init>") (wl : (Cond.methodLink own index y).before a0 Z = true) (wi : (Cond.instanceMethod y).before a0 Z = true) (wc : (Cond.code y bytes maxL none).before a0 Z = true) (hy : y.cls ≠ "java/lang/invoke/MethodHandle" ∧ y.cls ≠ "java/lang/invoke/VarHandle")
    {g : JFrame} (hg : g.method = m) (hsize : g.locals.size = c.maxLocals) (a : Addr) (argsL rest : List Value) (hlen : ∀ sig, parseMethodDescriptor y.desc = some sig → argsL.length = sig.parameters.length) (hs : g.stack = argsL.reverse ++ .ref a :: rest) {Wd kc ks : Nat} (hW : 2 * g.monitorRoom + (rest.map fun v => v.category).sum ≤ Wd) (hd : decode c.code g.pc = .ok (.invokespecial index, 3)) (hk : k + kc ≤ R.cells) (hn : n + ks ≤ R.slots)
    {Q : Option Value → Heap → List Loc → Prop} (wc' : List Addr) (hQ : ∀ v h' L, Q v h' L → Fr n0 L ∧ Keep h h' wc') (hws : ∀ x ∈ wc', x ∈ sf) (pay : ∀ vm0, Z.Warmed39 (s.setVm vm0).vm → PayN l R p e below (s.setVm vm0) args y 3 Wd (.ref a :: argsL).toArray h kc ks Q) :
    ∃ (v : Option Value) (T' : State) (h' : Heap), (∀ xs : List Addr, (∀ x ∈ xs, x ∈ sf ∨ h.size ≤ x ∧ x < h'.size) → Wk W Z a0 EL n0 h0 ws own p l e R s m args below meth c (xs ++ sf) T' h' (k + kc) (n + ks)) ∧ Keep h h' wc' ∧ (∃ L, Q v h' L) ∧
      ∀ t, Steps p.tables e below (T'.setTop { g with pc := g.pc + 3, stack := v.toList ++ rest }) t → Steps p.tables e below (T.setTop g) t := by
  obtain ⟨vm0, locs, k0, k1, n1, bb, X, eT, S, hZ, ho, Nf, K, O, f, w1, w2⟩ := A
  obtain ⟨v, _, ⟨T', L', c', s'⟩, -, X', ⟨L, hq, l1, l2, l3⟩, st⟩ := X.specialBack hx hy1 ho (mvT (s := s.setVm vm0) hZ wl) (mvT (s := s.setVm vm0) hZ wi) (mvT (s := s.setVm vm0) hZ wc) hy (pay vm0 hZ) hg hsize (Steps.refl _) (a := a) (argsL := argsL) (rest := rest) hlen hs hW hd (fun _ _ => ⟨rfl, eT, by show k1 + kc ≤ _; omega, by show n1 + ks ≤ _; omega⟩)
  dsimp only [Pt.U, Pt.locs, Pt.cells, Pt.slots] at X' hq l1 l2 l3 st
  subst l1 l2 l3
  obtain ⟨q1, q2⟩ := hQ _ _ _ hq
  exact ⟨v, T', _, Wk.after X' bb S hZ ho Nf K O f w1 w2 q1 q2 hws, q2, ⟨L, hq⟩, fun t q => st.trans q⟩
theorem Wk.callV (A : Wk W Z a0 EL n0 h0 ws own p l e R s m args below meth c sf T h k n) (hx : p.tables.exec = Jvm.exec) {C : String} {index : Nat} {y z : MethodName} (wl : (Cond.methodLink own index y).before a0 Z = true) (wd : (Cond.declares y).before a0 Z = true) (wse : (Cond.selects C y z).before a0 Z = true) (wi : (Cond.instanceMethod z).before a0 Z = true) (nf : ∀ s' : State, Z.Warmed39 s'.vm → NotFace s' y) (hy : y.cls ≠ "java/lang/invoke/MethodHandle" ∧ y.cls ≠ "java/lang/invoke/VarHandle")
    {b : Addr} (E : Exa Z h b C) {g : JFrame} (hg : g.method = m) (hsize : g.locals.size = c.maxLocals) (argsL rest : List Value) (hlen : ∀ sig, parseMethodDescriptor y.desc = some sig → argsL.length = sig.parameters.length) (hs : g.stack = argsL.reverse ++ .ref b :: rest) {Wd kc ks : Nat} (hW : 2 * g.monitorRoom + (rest.map fun v => v.category).sum ≤ Wd) (hd : decode c.code g.pc = .ok (.invokevirtual index, 3)) (hk : k + kc ≤ R.cells) (hn : n + ks ≤ R.slots)
    {Q : Option Value → Heap → List Loc → Prop} (wc' : List Addr) (hQ : ∀ v h' L, Q v h' L → Fr n0 L ∧ Keep h h' wc') (hws : ∀ x ∈ wc', x ∈ sf) (pay : ∀ vm0, Z.Warmed39 (s.setVm vm0).vm → PayN l R p e below (s.setVm vm0) args z 3 Wd (.ref b :: argsL).toArray h kc ks Q) :
    ∃ (v : Option Value) (T' : State) (h' : Heap), (∀ xs : List Addr, (∀ x ∈ xs, x ∈ sf ∨ h.size ≤ x ∧ x < h'.size) → Wk W Z a0 EL n0 h0 ws own p l e R s m args below meth c (xs ++ sf) T' h' (k + kc) (n + ks)) ∧ Keep h h' wc' ∧ (∃ L, Q v h' L) ∧
      ∀ t, Steps p.tables e below (T'.setTop { g with pc := g.pc + 3, stack := v.toList ++ rest }) t → Steps p.tables e below (T.setTop g) t := by
  obtain ⟨vm0, locs, k0, k1, n1, bb, X, eT, S, hZ, ho, Nf, K, O, f, w1, w2⟩ := A
  obtain ⟨cq, kq, qa, qb, qc⟩ := isOf (s := s.setVm vm0) hZ eT E
  obtain ⟨v, _, ⟨T', L', c', s'⟩, -, X', ⟨L, hq, l1, l2, l3⟩, st⟩ := X.virtualBack hx ho (mvT (s := s.setVm vm0) hZ wl) (mvT (s := s.setVm vm0) hZ wd) (nf (s.setVm vm0) hZ) (mvT (s := s.setVm vm0) hZ wse) (mvT (s := s.setVm vm0) hZ wi) hy (pay vm0 hZ) qa qc hg hsize (Steps.refl _) (argsL := argsL) (rest := rest) hlen hs hW hd (fun _ _ => ⟨rfl, eT, by show k1 + kc ≤ _; omega, by show n1 + ks ≤ _; omega⟩)
  dsimp only [Pt.U, Pt.locs, Pt.cells, Pt.slots] at X' hq l1 l2 l3 st
  subst l1 l2 l3
  obtain ⟨q1, q2⟩ := hQ _ _ _ hq
  exact ⟨v, T', _, Wk.after X' bb S hZ ho Nf K O f w1 w2 q1 q2 hws, q2, ⟨L, hq⟩, fun t q => st.trans q⟩
theorem Wk.callSup (A : Wk W Z a0 EL n0 h0 ws own p l e R s m args below meth c sf T h k n) (hx : p.tables.exec = Jvm.exec) {KK : String} {index : Nat} {y : MethodName} {bytes : ByteArray} {maxL : Nat} {ret : Option FieldType} (wl : (Cond.methodLink own index y).before a0 Z = true) (wsm : (Cond.sameMethod y.cls y.cls y.name y.desc).before a0 Z = true) (wi : (Cond.instanceMethod y).before a0 Z = true) (wsu : (Cond.superclass own y.cls).before a0 Z = true) (wc : (Cond.code y bytes maxL ret).before a0 Z = true) (hn1 : y.name ≠ "<init>")
    {g : JFrame} (hg : g.method = m) (hsize : g.locals.size = c.maxLocals) {a : Addr} (F : Ins Z h a KK true) (argsL rest : List Value) (hlen : ∀ sig, parseMethodDescriptor y.desc = some sig → argsL.length = sig.parameters.length) (hs : g.stack = argsL.reverse ++ .ref a :: rest) {Wd kc ks : Nat} (hW : 2 * g.monitorRoom + (rest.map fun v => v.category).sum ≤ Wd) (hd : decode c.code g.pc = .ok (.invokespecial index, 3)) (hk : k + kc ≤ R.cells) (hn : n + ks ≤ R.slots)
    {Q : Option Value → Heap → List Loc → Prop} (wc' : List Addr) (hQ : ∀ v h' L, Q v h' L → Fr n0 L ∧ Keep h h' wc') (hws : ∀ x ∈ wc', x ∈ sf) (pay : ∀ vm0, Z.Warmed39 (s.setVm vm0).vm → PayN l R p e below (s.setVm vm0) args y 3 Wd (.ref a :: argsL).toArray h kc ks Q) :
    ∃ (v : Option Value) (T' : State) (h' : Heap), (∀ xs : List Addr, (∀ x ∈ xs, x ∈ sf ∨ h.size ≤ x ∧ x < h'.size) → Wk W Z a0 EL n0 h0 ws own p l e R s m args below meth c (xs ++ sf) T' h' (k + kc) (n + ks)) ∧ Keep h h' wc' ∧ (∃ L, Q v h' L) ∧
      ∀ t, Steps p.tables e below (T'.setTop { g with pc := g.pc + 3, stack := v.toList ++ rest }) t → Steps p.tables e below (T.setTop g) t := by
  obtain ⟨vm0, locs, k0, k1, n1, bb, X, eT, S, hZ, ho, Nf, K, O, f, w1, w2⟩ := A
  obtain ⟨v, _, ⟨T', L', c', s'⟩, -, X', ⟨L, hq, l1, l2, l3⟩, st⟩ := RoadKit.superBack X hx hZ ho wl wsm wi wsu hn1 (pay vm0 hZ) eT F hg hsize wc (argsL := argsL) (rest := rest) hlen hs hW hd (fun _ _ => ⟨rfl, eT, by show k1 + kc ≤ _; omega, by show n1 + ks ≤ _; omega⟩)
  dsimp only [Pt.U, Pt.locs, Pt.cells, Pt.slots] at X' hq l1 l2 l3 st
  subst l1 l2 l3
  obtain ⟨q1, q2⟩ := hQ _ _ _ hq
  exact ⟨v, T', _, Wk.after X' bb S hZ ho Nf K O f w1 w2 q1 q2 hws, q2, ⟨L, hq⟩, fun t q => st.trans q⟩
theorem Wk.copy (A : Wk W Z a0 EL n0 h0 ws own p l e R s m args below meth c sf T h k n) (hx : p.tables.exec = Jvm.exec) {index : Nat} (wl : (Cond.methodLink own index Jvm.Stand.acN).before a0 Z = true) (wn : (Cond.native Jvm.Stand.acN).before a0 Z = true) (wst : (Cond.static Jvm.Stand.acN).before a0 Z = true) (wz : (Cond.initialized "java/lang/System").before a0 Z = true)
    {a b : Addr} {ka kb : ClassId} {ty : FieldType} {z z' sp dp nn : Int32} {vs vd us : List Value} {dv dd : Value} (Va : Arv Z h a ka ty z vs dv) (Vb : Arv Z h b kb ty z' vd dd) (hty : refKind ty = false) (h1 : ¬ sp < 0) (h2 : ¬ dp < 0) (h3 : ¬ nn < 0) (h4 : sp.toNatClampNeg + nn.toNatClampNeg ≤ z.toNatClampNeg) (h5 : dp.toNatClampNeg + nn.toNatClampNeg ≤ z'.toNatClampNeg)
    (hus : us = (List.range nn.toNatClampNeg).map fun i => vs.getD (sp.toNatClampNeg + i) dv) (hl : dp.toNatClampNeg + nn.toNatClampNeg ≤ vd.length) (hb : b ∈ sf)
    {g : JFrame} (hg : g.method = m) (hsize : g.locals.size = c.maxLocals) {rest : List Value} (hs : g.stack = .int nn :: .int dp :: .ref b :: .int sp :: .ref a :: rest) (hd : decode c.code g.pc = .ok (.invokestatic index, 3))
    (hf : 1 ≤ R.frames) {Wd : Nat} (hW : 2 * g.monitorRoom + (rest.map fun v => v.category).sum ≤ Wd) (hlo : Wd + (nativeFrameWords "java/lang/System" "arraycopy" 5 + 11) ≤ R.locals) :
    ∃ (T' : State) (h' : Heap), Wk W Z a0 EL n0 h0 ws own p l e R s m args below meth c sf T' h' k n ∧ Keep h h' [b] ∧ Arv Z h' b kb ty z' (vd.take dp.toNatClampNeg ++ us ++ vd.drop (dp.toNatClampNeg + nn.toNatClampNeg)) dd ∧
      ∀ t, Steps p.tables e below (T'.setTop { g with pc := g.pc + 3, stack := rest }) t → Steps p.tables e below (T.setTop g) t := by
  obtain ⟨vm0, locs, k0, k1, n1, bb, X, eT, S, hZ, ho, Nf, K, O, f, w1, w2⟩ := A
  obtain ⟨T', h', L, X', e', N', Kc, V', st⟩ := RoadKit.cpA X hx hZ ho wl wn wst wz eT Va Vb (Or.inl ⟨rfl, hty⟩) h1 h2 h3 h4 h5 hus hl Nf (f b hb).1 hg hsize hs hd hf hW hlo
  have hws : ∀ x ∈ [b], x ∈ sf := allS hb all0
  refine ⟨T', h', ⟨vm0, L, k0, k1, n1, bb, X', e', ⟨S.1, Nat.le_trans S.2 Kc.1⟩, hZ, ho, N', K.trans Kc fun x hx => (f x (hws x hx)).2.1, O.keep Kc fun x hx => (f x (hws x hx)).1, fun x hx => ⟨(f x hx).1, (f x hx).2.1, Nat.lt_of_lt_of_le (f x hx).2.2 Kc.1⟩, w1, fun ew => ?_⟩, Kc, V', st⟩
  obtain ⟨v1, v2, v3⟩ := w2 ew
  exact ⟨v1, v2.trans (CHr.keep Kc (fun x hx => v3 x (hws x hx)) v2.1), fun x hx => Safe.keep Kc (fun x hx => v3 x (hws x hx)) v2.1 (v3 x hx)⟩
/-! contracts -/
abbrev EndN (s : State) (h0 : Heap) (ws : List Addr) (n0 : Nat) (rm : Room) (Q : Option Value → Heap → Prop) (o : Outcome) (u : State) : Prop :=
  ∃ v L, o = .returned v ∧ (Q v u.heap ∧ Fr n0 L ∧ Keep h0 u.heap ws) ∧ FrameEnd s o u L rm.cells rm.slots
abbrev CtrN (l : Launch) (Z : State) (y : MethodName) (bytes : ByteArray) (maxL : Nat) (ret : Option FieldType) (tb : List Cond) (rm : Room) (as : Array Value) (h0 : Heap) (ws : List Addr) (n0 : Nat) (Q : Option Value → Heap → Prop) : Prop :=
  MetFree l y (head1 (Cond.code y bytes maxL ret :: tb) rm) (fun a U => a = as ∧ Z.Warmed39 U.vm ∧ U.heap = h0) (fun _ _ _ _ _ => True) (fun _ U o U' => ∃ v L, o = .returned v ∧ (Q v U'.heap ∧ Fr n0 L ∧ Keep h0 U'.heap ws) ∧ FrameEnd U o U' L rm.cells rm.slots)
theorem enterN {y : MethodName} {bytes : ByteArray} {maxL : Nat} {ret : Option FieldType} {tb : List Cond} {rm : Room} {as : Array Value} {Q : Option Value → Heap → Prop} (hp : plainFor y = true) (hO : Old Z n0 h0) (hsf : ∀ x ∈ ws, n0 ≤ x ∧ x < h0.size)
    (body : ∀ (p : Program) (e : Env) (s : State) (m : MethodId) (below : List Frame) (meth : Method) (c : Code) (T : State), p.tables.exec = Jvm.exec → c.code = bytes → c.maxLocals = maxL → meth.sig.returnType = ret → meth.name = y.name → meth.locks = false →
      Wk false Z a0 [] n0 h0 ws y.cls p l e rm s m as below meth c ws T h0 0 0 → Run p.tables e below (EndN s h0 ws n0 rm Q) (T.setTop (entryFrame m as maxL))) : CtrN l Z y bytes maxL ret tb rm as h0 ws n0 Q := by
  refine MetFree.of_bodySF hp hisR ?_
  intro p e s m args below meth c s₁ Bd hml0 hP hK
  obtain ⟨rfl, hZ, hh⟩ := hP
  have X0 := Stand.of_body Bd
  have e0 : s₁.heap = h0 := by rw [← hh, Bd.state]; rfl
  exact body p e s m below meth c s₁ Bd.exec Bd.bytes hml0 Bd.returns (name_of_methodNamed Bd.named Bd.method).1 Bd.notSynchronized ⟨s.vm, [], 0, 0, 0, ⟨Nat.le_refl _, Nat.le_refl _⟩, X0, e0, ⟨(State.WarmedH.refl s).since 0, Nat.zero_le _⟩, hZ, findClass_of_methodNamed Bd.named, Fr.nil _, Keep.refl _ _, hO, fun x hx => ⟨(hsf x hx).1, Or.inl hx, (hsf x hx).2⟩, fun _ => rfl, fun q => by cases q⟩
theorem Wk.leaveN (A : Wk false Z a0 EL n0 h0 ws own p l e R s m args below meth c sf T h k n) (hlk : meth.locks = false) {rm : Room} {Q : Option Value → Heap → Prop} {g : JFrame} (v : Option Value) (hv : meth.sig.returnType = none → v = none) (hk : k ≤ rm.cells) (hn : n ≤ rm.slots) (hq : Q v h)
    (hret : ∀ {s' : State} {locs : List Loc} {k' n' : Nat} {fs : List Frame}, Stand p l e R s' m args below meth c T locs k' n' → (∀ (f : JFrame) (acts : List Action), f.method = m → f.locked = none → f.entered = [] → (doReturn e (T.setTop f) acts v).1 = T.setFrames fs) → Steps p.tables e below (T.setTop g) (T.setFrames fs)) :
    Run p.tables e below (EndN s h0 ws n0 rm Q) (T.setTop g) := by
  obtain ⟨vm0, locs, k0, k1, n1, ⟨b1, b2⟩, X, eT, S, hZ, ho, Nf, K, O, f, w1, w2⟩ := A
  cases w1 rfl
  obtain ⟨fs, hr, hrun, hended, hW, hsame⟩ := X.leave (v := v) hv hlk
  refine ⟨_, _, hret X hr, hrun, hended, _, _, rfl, ⟨?_, Nf, ?_⟩, ⟨_, rfl⟩, hW, hsame.mono (by omega) (by omega)⟩
  · show Q v T.heap; rw [eT]; exact hq
  · show Keep h0 T.heap ws; rw [eT]; exact K
theorem payN {y : MethodName} {bytes : ByteArray} {maxL : Nat} {ret : Option FieldType} {rm : Room} {as : Array Value} {Q : Option Value → Heap → Prop} {len Wd : Nat} (M : CtrN l Z y bytes maxL ret [] rm as h ws n0 Q) (wc : (Cond.code y bytes maxL ret).before a0 Z = true) (wz : (Cond.initialized y.cls).before a0 Z = true) (hf : rm.frames + 1 ≤ R.frames) (hl : Wd + (maxL + 11) + rm.locals ≤ R.locals) {vm0 : Vm} (hZ : Z.Warmed39 (s.setVm vm0).vm) :
    PayN l R p e below (s.setVm vm0) args y len Wd as h rm.cells rm.slots (fun v h' L => Q v h' ∧ Fr n0 L ∧ Keep h h' ws) := backOf (Q := fun v h' L => Q v h' ∧ Fr n0 L ∧ Keep h h' ws) M hZ wc wz hf hl
/-! contracts of bodies that may intern -/
abbrev EndW (Z : State) (EL : List (String × Nat)) (s : State) (h0 : Heap) (ws : List Addr) (n0 : Nat) (rm : Room) (Q : Option Value → Heap → Prop) (o : Outcome) (u : State) : Prop :=
  ∃ v L, o = .returned v ∧ (Q v u.heap ∧ Fr n0 L ∧ Keep h0 u.heap ws) ∧ CHr Z EL s.vm s.heap u.vm u.heap ∧ ReturnedEndW s o u L rm.cells rm.slots
abbrev CtrW (l : Launch) (Z : State) (EL : List (String × Nat)) (y : MethodName) (bytes : ByteArray) (maxL : Nat) (ret : Option FieldType) (tb : List Cond) (rm : Room) (as : Array Value) (h0 : Heap) (ws : List Addr) (n0 : Nat) (Q : Option Value → Heap → Prop) : Prop :=
  MetFree l y (head1 (Cond.code y bytes maxL ret :: tb) rm) (fun a U => a = as ∧ Z.Warmed39 U.vm ∧ U.heap = h0 ∧ CHv Z EL U.vm h0 ∧ ∀ x ∈ ws, Safe Z EL U.vm h0 x) (fun _ _ _ _ _ => True) (fun _ U o U' => ∃ v L, o = .returned v ∧ (Q v U'.heap ∧ Fr n0 L ∧ Keep h0 U'.heap ws) ∧ CHr Z EL U.vm U.heap U'.vm U'.heap ∧ ReturnedEndW U o U' L rm.cells rm.slots)
theorem enterW {y : MethodName} {bytes : ByteArray} {maxL : Nat} {ret : Option FieldType} {tb : List Cond} {rm : Room} {as : Array Value} {Q : Option Value → Heap → Prop} (hp : plainFor y = true) (hEL : EW Z a0 EL) (hO : Old Z n0 h0) (hsf : ∀ x ∈ ws, n0 ≤ x ∧ x < h0.size)
    (body : ∀ (p : Program) (e : Env) (s : State) (m : MethodId) (below : List Frame) (meth : Method) (c : Code) (T : State), p.tables.exec = Jvm.exec → c.code = bytes → c.maxLocals = maxL → meth.sig.returnType = ret → meth.name = y.name → meth.locks = false → s.heap = h0 →
      Wk true Z a0 EL n0 h0 ws y.cls p l e rm s m as below meth c ws T h0 0 0 → Run p.tables e below (EndW Z EL s h0 ws n0 rm Q) (T.setTop (entryFrame m as maxL))) : CtrW l Z EL y bytes maxL ret tb rm as h0 ws n0 Q := by
  refine MetFree.of_bodySF hp hisR ?_
  intro p e s m args below meth c s₁ Bd hml0 hP hK
  obtain ⟨rfl, hZ, hh, hC, hSf⟩ := hP
  have X0 := Stand.of_body Bd
  have e0 : s₁.heap = h0 := by rw [← hh, Bd.state]; rfl
  exact body p e s m below meth c s₁ Bd.exec Bd.bytes hml0 Bd.returns (name_of_methodNamed Bd.named Bd.method).1 Bd.notSynchronized hh ⟨s.vm, [], 0, 0, 0, ⟨Nat.le_refl _, Nat.le_refl _⟩, X0, e0, ⟨(State.WarmedH.refl s).since 0, Nat.zero_le _⟩, hZ, findClass_of_methodNamed Bd.named, Fr.nil _, Keep.refl _ _, hO, fun x hx => ⟨(hsf x hx).1, Or.inl hx, (hsf x hx).2⟩, fun _ => rfl, fun _ => ⟨hEL, CHr.refl hC, hSf⟩⟩
theorem Wk.leaveW (A : Wk true Z a0 EL n0 h0 ws own p l e R s m args below meth c sf T h k n) (hlk : meth.locks = false) (hh : s.heap = h0) {rm : Room} {Q : Option Value → Heap → Prop} {g : JFrame} (v : Option Value) (hv : meth.sig.returnType = none → v = none) (hk : k ≤ rm.cells) (hn : n ≤ rm.slots) (hq : Q v h)
    (hret : ∀ {s' : State} {locs : List Loc} {k' n' : Nat} {fs : List Frame}, Stand p l e R s' m args below meth c T locs k' n' → (∀ (f : JFrame) (acts : List Action), f.method = m → f.locked = none → f.entered = [] → (doReturn e (T.setTop f) acts v).1 = T.setFrames fs) → Steps p.tables e below (T.setTop g) (T.setFrames fs)) :
    Run p.tables e below (EndW Z EL s h0 ws n0 rm Q) (T.setTop g) := by
  obtain ⟨vm0, locs, k0, k1, n1, ⟨b1, b2⟩, X, eT, ⟨S, S0⟩, hZ, ho, Nf, K, O, f, w1, w2⟩ := A
  obtain ⟨v1, v2, v3⟩ := w2 rfl
  obtain ⟨fs, hr, hrun, hended, r1, r2, r3, r4⟩ := X.leaveW S (by rw [eT]; exact S0) (v := v) hv hlk
  refine ⟨_, _, hret X hr, hrun, hended, _, _, rfl, ⟨?_, Nf, ?_⟩, ?_, r1, r2, r3, r4.mono (by omega) (by omega)⟩
  · show Q v T.heap; rw [eT]; exact hq
  · show Keep h0 T.heap ws; rw [eT]; exact K
  · show CHr Z EL s.vm s.heap T.vm T.heap
    rw [eT, hh]; exact v2.trans (CHv.at X hZ v1 v2.1)
theorem payW {y : MethodName} {bytes : ByteArray} {maxL : Nat} {ret : Option FieldType} {rm : Room} {as : Array Value} {Q : Option Value → Heap → Prop} {len Wd : Nat} (M : CtrW l Z EL y bytes maxL ret [] rm as h ws n0 Q) (wc : (Cond.code y bytes maxL ret).before a0 Z = true) (wz : (Cond.initialized y.cls).before a0 Z = true) (hf : rm.frames + 1 ≤ R.frames) (hl : Wd + (maxL + 11) + rm.locals ≤ R.locals) {vm0 : Vm} (hZ : Z.Warmed39 vm0) (hEL : EW Z a0 EL) (H : CHv Z EL vm0 h) (hsf : ∀ x ∈ ws, x < h.size ∧ Safe Z EL vm0 h x) :
    PayW Z EL l R p e below s vm0 args y len Wd as h rm.cells rm.slots (fun v h' L => Q v h' ∧ Fr n0 L ∧ Keep h h' ws) :=
  BackS.of_freeW (bytes := bytes) (maxL := maxL) (ret := ret) (E := fun _ first o t L k n => k = rm.cells ∧ n = rm.slots ∧ (∃ v, o = .returned v ∧ (Q v t.heap ∧ Fr n0 L ∧ Keep h t.heap ws)) ∧ CHr Z EL first.vm first.heap t.vm t.heap) M hf hl
    (fun m meth c A a Y hp => have hU : Z.Warmed39 A.U.vm := wtrans (s := s.setVm vm0) hZ Y.warmed
      ⟨by show (Cond.and _ .tt).before a A.U = true; rw [Cond.before_and, mv hU wc]; rfl, mv hU wc, mv hU wz, hp.2.2.1, hp.2.2.2⟩)
    (fun m meth c A a g mk Y hp => ⟨hp.1, wtrans (s := s.setVm vm0) hZ Y.warmed, hp.2.1, (CHv.at Y hZ hEL H).1, fun x hx => (CHv.at Y hZ hEL H).safe (hsf x hx).1 (hsf x hx).2⟩) (fun _ _ _ _ _ _ _ _ _ => trivial)
    (fun _ _ _ _ ⟨v, L, q1, q2, q3, q4⟩ => ⟨L, _, _, q4, rfl, rfl, ⟨v, q1, q2⟩, q3⟩)
    (fun m meth c A a g mk v t L k n Y hp _ _ ⟨e1, e2, ⟨v', e3, e4⟩, e5⟩ => by
      cases e3; subst e1 e2
      refine ⟨L, e4, rfl, rfl, rfl, (CHv.at Y hZ hEL H).trans ?_⟩
      rw [← hp.2.1]; exact e5)
/-- behind a call that may have interned -/
theorem Wk.afterW {kc ks : Nat} {T' : State} {L locs : List Loc} {vm0 : Vm} {k0 k1 n1 : Nat} {wc : List Addr} (eT : T.heap = h) (X' : Stand p l e R ((s.setVm vm0).setVm T'.vm) m args below meth c T' (locs ++ L) (k1 + kc) (n1 + ks)) (S2 : (s.setVm vm0).Since T'.vm T'.heap.size) (gr : T.heap.size ≤ T'.heap.size) (C2 : CHr Z EL vm0 h T'.vm T'.heap)
    (b : k1 ≤ k ∧ n1 ≤ n) (S : s.Since vm0 k0 ∧ k0 ≤ h.size) (hZ : Z.Warmed39 vm0) (ho : vm0.findClass own = some m.cls) (N : Fr n0 locs) (K : Keep h0 h ws) (O : Old Z n0 h) (f : ∀ x ∈ sf, n0 ≤ x ∧ (x ∈ ws ∨ h0.size ≤ x) ∧ x < h.size) (w2 : EW Z a0 EL ∧ CHr Z EL s.vm h0 vm0 h ∧ ∀ x ∈ sf, Safe Z EL vm0 h x)
    (NL : Fr n0 L) (Kc : Keep h T'.heap wc) (hws : ∀ x ∈ wc, x ∈ sf) :
    Wk true Z a0 EL n0 h0 ws own p l e R s m args below meth c sf T' T'.heap (k + kc) (n + ks) := by
  obtain ⟨v1, v2, v3⟩ := w2
  obtain ⟨X1, S1, hZ1, ho1⟩ := rebS S.1 S.2 X' S2 (by rw [← eT]; exact gr) hZ ho
  refine ⟨T'.vm, _, _, _, _, ⟨by omega, by omega⟩, X1, rfl, ⟨S1, Nat.le_refl _⟩, hZ1, ho1, Fr.app N NL, K.trans Kc fun x hx => (f x (hws x hx)).2.1, O.keep Kc fun x hx => (f x (hws x hx)).1, fun x hx => ⟨(f x hx).1, (f x hx).2.1, Nat.lt_of_lt_of_le (f x hx).2.2 Kc.1⟩, (fun q => by cases q), fun _ => ⟨v1, v2.trans C2, fun x hx => C2.safe (f x hx).2.2 (v3 x hx)⟩⟩
theorem Wk.callSW (A : Wk true Z a0 EL n0 h0 ws own p l e R s m args below meth c sf T h k n) (hx : p.tables.exec = Jvm.exec) {index : Nat} {y : MethodName} {bytes : ByteArray} {maxL : Nat} {ret : Option FieldType} (wl : (Cond.methodLink own index y).before a0 Z = true) (wst : (Cond.static y).before a0 Z = true) (wz : (Cond.initialized y.cls).before a0 Z = true) (wc : (Cond.code y bytes maxL ret).before a0 Z = true) (hy : y.cls ≠ "java/lang/invoke/MethodHandle" ∧ y.cls ≠ "java/lang/invoke/VarHandle")
    {g : JFrame} (hg : g.method = m) (hsize : g.locals.size = c.maxLocals) (argsL rest : List Value) (hlen : ∀ sig, parseMethodDescriptor y.desc = some sig → argsL.length = sig.parameters.length) (hs : g.stack = argsL.reverse ++ rest) {Wd kc ks : Nat} (hW : 2 * g.monitorRoom + (rest.map fun v => v.category).sum ≤ Wd) (hd : decode c.code g.pc = .ok (.invokestatic index, 3)) (hk : k + kc ≤ R.cells) (hn : n + ks ≤ R.slots)
    {Q : Option Value → Heap → List Loc → Prop} (wc' : List Addr) (hQ : ∀ v h' L, Q v h' L → Fr n0 L ∧ Keep h h' wc') (hws : ∀ x ∈ wc', x ∈ sf) (pay : ∀ vm0, Z.Warmed39 vm0 → EW Z a0 EL → CHv Z EL vm0 h → (∀ x ∈ wc', x < h.size ∧ Safe Z EL vm0 h x) → PayW Z EL l R p e below s vm0 args y 3 Wd argsL.toArray h kc ks Q) :
    ∃ (v : Option Value) (T' : State) (h' : Heap), Wk true Z a0 EL n0 h0 ws own p l e R s m args below meth c sf T' h' (k + kc) (n + ks) ∧ Keep h h' wc' ∧ (∃ L, Q v h' L) ∧
      ∀ t, Steps p.tables e below (T'.setTop { g with pc := g.pc + 3, stack := v.toList ++ rest }) t → Steps p.tables e below (T.setTop g) t := by
  obtain ⟨vm0, locs, k0, k1, n1, bb, X, eT, S, hZ, ho, Nf, K, O, f, w1, w2⟩ := A
  obtain ⟨v, _, ⟨T', L', c', s'⟩, -, X', S2, gr, ⟨L, hq, l1, l2, l3, C2⟩, st⟩ := RoadKit.callSS X hx ho (mvT (s := s.setVm vm0) hZ wl) (mvT (s := s.setVm vm0) hZ wst) (mvT (s := s.setVm vm0) hZ wz) (mvT (s := s.setVm vm0) hZ wc) hy (pay vm0 hZ (w2 rfl).1 (w2 rfl).2.1.1 fun x hx => ⟨(f x (hws x hx)).2.2, (w2 rfl).2.2 x (hws x hx)⟩) hg hsize (argsL := argsL) (rest := rest) hlen hs hW hd (fun _ _ => ⟨rfl, eT, by show k1 + kc ≤ _; omega, by show n1 + ks ≤ _; omega⟩)
  dsimp only [Pt.U, Pt.locs, Pt.cells, Pt.slots] at X' hq l1 l2 l3 st S2 gr C2
  subst l1 l2 l3
  obtain ⟨q1, q2⟩ := hQ _ _ _ hq
  exact ⟨v, T', _, Wk.afterW eT X' S2 gr C2 bb S hZ ho Nf K O f (w2 rfl) q1 q2 hws, q2, ⟨L, hq⟩, fun t q => st.trans q⟩
theorem Wk.callIW (A : Wk true Z a0 EL n0 h0 ws own p l e R s m args below meth c sf T h k n) (hx : p.tables.exec = Jvm.exec) {index : Nat} {y : MethodName} {bytes : ByteArray} {maxL : Nat} (hy1 : y.name = "<init>") (wl : (Cond.methodLink own index y).before a0 Z = true) (wi : (Cond.instanceMethod y).before a0 Z = true) (wc : (Cond.code y bytes maxL none).before a0 Z = true) (hy : y.cls ≠ "java/lang/invoke/MethodHandle" ∧ y.cls ≠ "java/lang/invoke/VarHandle")
    {g : JFrame} (hg : g.method = m) (hsize : g.locals.size = c.maxLocals) (a : Addr) (argsL rest : List Value) (hlen : ∀ sig, parseMethodDescriptor y.desc = some sig → argsL.length = sig.parameters.length) (hs : g.stack = argsL.reverse ++ .ref a :: rest) {Wd kc ks : Nat} (hW : 2 * g.monitorRoom + (rest.map fun v => v.category).sum ≤ Wd) (hd : decode c.code g.pc = .ok (.invokespecial index, 3)) (hk : k + kc ≤ R.cells) (hn : n + ks ≤ R.slots)
    {Q : Option Value → Heap → List Loc → Prop} (wc' : List Addr) (hQ : ∀ v h' L, Q v h' L → Fr n0 L ∧ Keep h h' wc') (hws : ∀ x ∈ wc', x ∈ sf) (pay : ∀ vm0, Z.Warmed39 vm0 → EW Z a0 EL → CHv Z EL vm0 h → (∀ x ∈ wc', x < h.size ∧ Safe Z EL vm0 h x) → PayW Z EL l R p e below s vm0 args y 3 Wd (.ref a :: argsL).toArray h kc ks Q) :
    ∃ (v : Option Value) (T' : State) (h' : Heap), Wk true Z a0 EL n0 h0 ws own p l e R s m args below meth c sf T' h' (k + kc) (n + ks) ∧ Keep h h' wc' ∧ (∃ L, Q v h' L) ∧
      ∀ t, Steps p.tables e below (T'.setTop { g with pc := g.pc + 3, stack := v.toList ++ rest }) t → Steps p.tables e below (T.setTop g) t := by
  obtain ⟨vm0, locs, k0, k1, n1, bb, X, eT, S, hZ, ho, Nf, K, O, f, w1, w2⟩ := A
  obtain ⟨v, _, ⟨T', L', c', s'⟩, -, X', S2, gr, ⟨L, hq, l1, l2, l3, C2⟩, st⟩ := X.specialBackS hx hy1 ho (mvT (s := s.setVm vm0) hZ wl) (mvT (s := s.setVm vm0) hZ wi) (mvT (s := s.setVm vm0) hZ wc) hy (pay vm0 hZ (w2 rfl).1 (w2 rfl).2.1.1 fun x hx => ⟨(f x (hws x hx)).2.2, (w2 rfl).2.2 x (hws x hx)⟩) hg hsize (Steps.refl _) (a := a) (argsL := argsL) (rest := rest) hlen hs hW hd (fun _ _ => ⟨rfl, eT, by show k1 + kc ≤ _; omega, by show n1 + ks ≤ _; omega⟩)
  dsimp only [Pt.U, Pt.locs, Pt.cells, Pt.slots] at X' hq l1 l2 l3 st S2 gr C2
  subst l1 l2 l3
  obtain ⟨q1, q2⟩ := hQ _ _ _ hq
  exact ⟨v, T', _, Wk.afterW eT X' S2 gr C2 bb S hZ ho Nf K O f (w2 rfl) q1 q2 hws, q2, ⟨L, hq⟩, fun t q => st.trans q⟩
theorem Wk.callVW (A : Wk true Z a0 EL n0 h0 ws own p l e R s m args below meth c sf T h k n) (hx : p.tables.exec = Jvm.exec) {C : String} {index : Nat} {y z : MethodName} (wl : (Cond.methodLink own index y).before a0 Z = true) (wd : (Cond.declares y).before a0 Z = true) (wse : (Cond.selects C y z).before a0 Z = true) (wi : (Cond.instanceMethod z).before a0 Z = true) (nf : ∀ s' : State, Z.Warmed39 s'.vm → NotFace s' y) (hy : y.cls ≠ "java/lang/invoke/MethodHandle" ∧ y.cls ≠ "java/lang/invoke/VarHandle")
    {b : Addr} (E : Exa Z h b C) {g : JFrame} (hg : g.method = m) (hsize : g.locals.size = c.maxLocals) (argsL rest : List Value) (hlen : ∀ sig, parseMethodDescriptor y.desc = some sig → argsL.length = sig.parameters.length) (hs : g.stack = argsL.reverse ++ .ref b :: rest) {Wd kc ks : Nat} (hW : 2 * g.monitorRoom + (rest.map fun v => v.category).sum ≤ Wd) (hd : decode c.code g.pc = .ok (.invokevirtual index, 3)) (hk : k + kc ≤ R.cells) (hn : n + ks ≤ R.slots)
    {Q : Option Value → Heap → List Loc → Prop} (wc' : List Addr) (hQ : ∀ v h' L, Q v h' L → Fr n0 L ∧ Keep h h' wc') (hws : ∀ x ∈ wc', x ∈ sf) (pay : ∀ vm0, Z.Warmed39 vm0 → EW Z a0 EL → CHv Z EL vm0 h → (∀ x ∈ wc', x < h.size ∧ Safe Z EL vm0 h x) → PayW Z EL l R p e below s vm0 args z 3 Wd (.ref b :: argsL).toArray h kc ks Q) :
    ∃ (v : Option Value) (T' : State) (h' : Heap), Wk true Z a0 EL n0 h0 ws own p l e R s m args below meth c sf T' h' (k + kc) (n + ks) ∧ Keep h h' wc' ∧ (∃ L, Q v h' L) ∧
      ∀ t, Steps p.tables e below (T'.setTop { g with pc := g.pc + 3, stack := v.toList ++ rest }) t → Steps p.tables e below (T.setTop g) t := by
  obtain ⟨vm0, locs, k0, k1, n1, bb, X, eT, S, hZ, ho, Nf, K, O, f, w1, w2⟩ := A
  obtain ⟨cq, kq, qa, qb, qc⟩ := isOf (s := s.setVm vm0) hZ eT E
  obtain ⟨v, _, ⟨T', L', c', s'⟩, -, X', S2, gr, ⟨L, hq, l1, l2, l3, C2⟩, st⟩ := X.virtualBackS hx ho (mvT (s := s.setVm vm0) hZ wl) (mvT (s := s.setVm vm0) hZ wd) (nf (s.setVm vm0) hZ) (mvT (s := s.setVm vm0) hZ wse) (mvT (s := s.setVm vm0) hZ wi) hy (pay vm0 hZ (w2 rfl).1 (w2 rfl).2.1.1 fun x hx => ⟨(f x (hws x hx)).2.2, (w2 rfl).2.2 x (hws x hx)⟩) qa qc hg hsize (Steps.refl _) (argsL := argsL) (rest := rest) hlen hs hW hd (fun _ _ => ⟨rfl, eT, by show k1 + kc ≤ _; omega, by show n1 + ks ≤ _; omega⟩)
  dsimp only [Pt.U, Pt.locs, Pt.cells, Pt.slots] at X' hq l1 l2 l3 st S2 gr C2
  subst l1 l2 l3
  obtain ⟨q1, q2⟩ := hQ _ _ _ hq
  exact ⟨v, T', _, Wk.afterW eT X' S2 gr C2 bb S hZ ho Nf K O f (w2 rfl) q1 q2 hws, q2, ⟨L, hq⟩, fun t q => st.trans q⟩
theorem Wk.ldc (A : Wk true Z a0 EL n0 h0 ws own p l e R s m args below meth c sf T h k n) (hx : p.tables.exec = Jvm.exec) {text : String} {index : Nat} (w : (Cond.stringLink own index text).before a0 Z = true) (wS : ∀ a ∈ Bundle.stringAtoms, a.before a0 Z = true) (hmem : (own, index) ∈ EL) {vs : List Value} {z : Int32} (ht : (∀ c ∈ text.toList, c.toNat < 256) ∧ text.toList.map (fun c => Value.int (Jvm.Lit.byteI c.toNat.toUInt16)) = vs) (hz : ¬ z < 0) (hl : z.toNatClampNeg = vs.length)
    {g : JFrame} (hg : g.method = m) (hd : decode c.code g.pc = .ok (.ldc index, 2)) {q : Nat} (hn : 4 * text.toList.length ≤ q) (hbig : q ≤ 536870912) (hc : k + 2 ≤ R.cells) (hl' : n + (q + 4) ≤ R.slots) :
    ∃ (a b : Addr) (kb : ClassId) (T' : State) (h' : Heap), Wk true Z a0 EL n0 h0 ws own p l e R s m args below meth c sf T' h' (k + 2) (n + (q + 4)) ∧ Ext h h' ∧ Exa Z h' a "java/lang/String" ∧ Fld Z h' a "java/lang/String" "coder" "B" (.int 0) ∧ Fld Z h' a "java/lang/String" "value" "[B" (.ref b) ∧ Arv Z h' b kb .byte z vs (.int 0) ∧ (∀ x ∈ sf, x ≠ a ∧ x ≠ b) ∧
      ∀ t, Steps p.tables e below (T'.setTop { g with pc := g.pc + 2, stack := .ref a :: g.stack }) t → Steps p.tables e below (T.setTop g) t := by
  obtain ⟨vm0, locs, k0, k1, n1, ⟨b1, b2⟩, X, eT, S, hZ, ho, Nf, K, O, f, w1, w2⟩ := A
  obtain ⟨v1, v2, v3⟩ := w2 rfl
  obtain ⟨a, T', h', k2, b, kb, X', e', E, S', hk', hZ', ho', E1, E2, E3, E4, -, -, C2, -, ne, st⟩ := RoadKit.ldcCH X hx hZ ho w wS eT S.1 S.2 v1 hmem v2.1 ht hz hl hg hd hn hbig (by omega) (by omega)
  refine ⟨a, b, kb, T', h', ⟨T'.vm, locs, k2, _, _, ⟨by omega, by omega⟩, X', e', ⟨S', hk'⟩, hZ', ho', Nf, K.ext E, O.ext E, fun x hx => ⟨(f x hx).1, (f x hx).2.1, Nat.lt_of_lt_of_le (f x hx).2.2 E.1⟩, (fun q => by cases q), fun _ => ⟨v1, v2.trans C2, fun x hx => C2.safe (f x hx).2.2 (v3 x hx)⟩⟩, E, E1, E2, E3, E4, fun x hx => ne x (C2.safe (f x hx).2.2 (v3 x hx)), st⟩
end Kit
end Jvm.OwnKit
/- laws to paste:  (cut by pick.py; bodies as the Statement names them) -/
namespace Jvm.Pilot.@@N@@
open Jvm Jvm.ClassFile Sem Op Lib Jvm.Free Jvm.Stand Jvm.LawKit Jvm.RoadKit Jvm.OwnKit Bundle Jvm.Pilot.@@N@@.Jvm.D
def Ev (Z : State) (a0 : Array Value) : Prop := (∀ d ∈ tables_1, d.before a0 Z = true) ∧ (∃ z : Int32, Sta Z Z.heap "java/lang/String" "COMPACT_STRINGS" "Z" (.int z) ∧ ¬ z = 0) ∧ (∃ fm : Value, Sta Z Z.heap "jdk/internal/util/Preconditions" "SIOOBE_FORMATTER" "Ljava/util/function/BiFunction;" fm ∧ fm.isRef = true) ∧ Sta Z Z.heap "java/lang/StringUTF16" "$assertionsDisabled" "Z" (.int 1) ∧ Sta Z Z.heap "java/lang/StringUTF16" "HI_BYTE_SHIFT" "I" (.int 0) ∧ Sta Z Z.heap "java/lang/StringUTF16" "LO_BYTE_SHIFT" "I" (.int 8)
theorem tw0 {Z : State} {a0 : Array Value} (hw : ∀ d ∈ tables_1, d.before a0 Z = true) : (Jvm.Cond.constant "com/example/gate_to_handlers/gatetohandlers/MediaTypeIsTokenPinLaw" (7 : Nat) (2147483647 : Int32)).before a0 Z = true := hw _ (List.mem_of_getElem? (i := 0) rfl)
theorem tw1 {Z : State} {a0 : Array Value} (hw : ∀ d ∈ tables_1, d.before a0 Z = true) : (Jvm.Cond.methodLink "com/example/gate_to_handlers/gatetohandlers/MediaTypeIsTokenPinLaw" (8 : Nat) ({ cls := "com/example/gate_to_handlers/gatetohandlers/MediaTypeIsTokenPinLaw", name := "draw", desc := "(I)C" } : Jvm.MethodName)).before a0 Z = true := hw _ (List.mem_of_getElem? (i := 1) rfl)
theorem tw2 {Z : State} {a0 : Array Value} (hw : ∀ d ∈ tables_1, d.before a0 Z = true) : (Jvm.Cond.static ({ cls := "com/example/gate_to_handlers/gatetohandlers/MediaTypeIsTokenPinLaw", name := "draw", desc := "(I)C" } : Jvm.MethodName)).before a0 Z = true := hw _ (List.mem_of_getElem? (i := 2) rfl)
theorem tw3 {Z : State} {a0 : Array Value} (hw : ∀ d ∈ tables_1, d.before a0 Z = true) : (Jvm.Cond.initialized "com/example/gate_to_handlers/gatetohandlers/MediaTypeIsTokenPinLaw").before a0 Z = true := hw _ (List.mem_of_getElem? (i := 3) rfl)
theorem tw4 {Z : State} {a0 : Array Value} (hw : ∀ d ∈ tables_1, d.before a0 Z = true) : (Jvm.Cond.code ({ cls := "com/example/gate_to_handlers/gatetohandlers/MediaTypeIsTokenPinLaw", name := "draw", desc := "(I)C" } : Jvm.MethodName) method_3_code (1 : Nat) (Option.some Jvm.ClassFile.FieldType.char)).before a0 Z = true := hw _ (List.mem_of_getElem? (i := 4) rfl)
theorem tw5 {Z : State} {a0 : Array Value} (hw : ∀ d ∈ tables_1, d.before a0 Z = true) : (Jvm.Cond.constant "com/example/gate_to_handlers/gatetohandlers/MediaTypeIsTokenPinLaw" (29 : Nat) (65536 : Int32)).before a0 Z = true := hw _ (List.mem_of_getElem? (i := 5) rfl)
theorem tw6 {Z : State} {a0 : Array Value} (hw : ∀ d ∈ tables_1, d.before a0 Z = true) : (Jvm.Cond.classLink "com/example/gate_to_handlers/gatetohandlers/MediaTypeIsTokenPinLaw" (14 : Nat) "java/lang/String").before a0 Z = true := hw _ (List.mem_of_getElem? (i := 6) rfl)
theorem tw7 {Z : State} {a0 : Array Value} (hw : ∀ d ∈ tables_1, d.before a0 Z = true) : (Jvm.Cond.instantiable "java/lang/String" (4 : Nat)).before a0 Z = true := hw _ (List.mem_of_getElem? (i := 7) rfl)
theorem tw8 {Z : State} {a0 : Array Value} (hw : ∀ d ∈ tables_1, d.before a0 Z = true) : (Jvm.Cond.initialized "java/lang/String").before a0 Z = true := hw _ (List.mem_of_getElem? (i := 8) rfl)
theorem tw9 {Z : State} {a0 : Array Value} (hw : ∀ d ∈ tables_1, d.before a0 Z = true) : (Jvm.Cond.arrayClass Jvm.ClassFile.FieldType.char).before a0 Z = true := hw _ (List.mem_of_getElem? (i := 9) rfl)
theorem tw10 {Z : State} {a0 : Array Value} (hw : ∀ d ∈ tables_1, d.before a0 Z = true) : (Jvm.Cond.methodLink "com/example/gate_to_handlers/gatetohandlers/MediaTypeIsTokenPinLaw" (16 : Nat) ({ cls := "java/lang/String", name := "<init>", desc := "([C)V" } : Jvm.MethodName)).before a0 Z = true := hw _ (List.mem_of_getElem? (i := 10) rfl)
theorem tw11 {Z : State} {a0 : Array Value} (hw : ∀ d ∈ tables_1, d.before a0 Z = true) : (Jvm.Cond.instanceMethod ({ cls := "java/lang/String", name := "<init>", desc := "([C)V" } : Jvm.MethodName)).before a0 Z = true := hw _ (List.mem_of_getElem? (i := 11) rfl)
theorem tw12 {Z : State} {a0 : Array Value} (hw : ∀ d ∈ tables_1, d.before a0 Z = true) : (Jvm.Cond.code ({ cls := "java/lang/String", name := "<init>", desc := "([C)V" } : Jvm.MethodName) jdk_42_method_3_code (2 : Nat) (Option.none : Option Jvm.ClassFile.FieldType)).before a0 Z = true := hw _ (List.mem_of_getElem? (i := 12) rfl)
theorem tw13 {Z : State} {a0 : Array Value} (hw : ∀ d ∈ tables_1, d.before a0 Z = true) : (Jvm.Cond.methodLink "java/lang/String" (27 : Nat) ({ cls := "java/lang/String", name := "<init>", desc := "([CIILjava/lang/Void;)V" } : Jvm.MethodName)).before a0 Z = true := hw _ (List.mem_of_getElem? (i := 13) rfl)
theorem tw14 {Z : State} {a0 : Array Value} (hw : ∀ d ∈ tables_1, d.before a0 Z = true) : (Jvm.Cond.instanceMethod ({ cls := "java/lang/String", name := "<init>", desc := "([CIILjava/lang/Void;)V" } : Jvm.MethodName)).before a0 Z = true := hw _ (List.mem_of_getElem? (i := 14) rfl)
theorem tw16 {Z : State} {a0 : Array Value} (hw : ∀ d ∈ tables_1, d.before a0 Z = true) : (Jvm.Cond.code ({ cls := "java/lang/String", name := "<init>", desc := "([CIILjava/lang/Void;)V" } : Jvm.MethodName) jdk_42_method_149_code (6 : Nat) (Option.none : Option Jvm.ClassFile.FieldType)).before a0 Z = true := hw _ (List.mem_of_getElem? (i := 16) rfl)
theorem tw17 {Z : State} {a0 : Array Value} (hw : ∀ d ∈ tables_1, d.before a0 Z = true) : (Jvm.Cond.methodLink "java/lang/String" (1 : Nat) ({ cls := "java/lang/Object", name := "<init>", desc := "()V" } : Jvm.MethodName)).before a0 Z = true := hw _ (List.mem_of_getElem? (i := 17) rfl)
theorem tw18 {Z : State} {a0 : Array Value} (hw : ∀ d ∈ tables_1, d.before a0 Z = true) : (Jvm.Cond.instanceMethod ({ cls := "java/lang/Object", name := "<init>", desc := "()V" } : Jvm.MethodName)).before a0 Z = true := hw _ (List.mem_of_getElem? (i := 18) rfl)
theorem tw19 {Z : State} {a0 : Array Value} (hw : ∀ d ∈ tables_1, d.before a0 Z = true) : (Jvm.Cond.code ({ cls := "java/lang/Object", name := "<init>", desc := "()V" } : Jvm.MethodName) object_method_1_code (1 : Nat) (Option.none : Option Jvm.ClassFile.FieldType)).before a0 Z = true := hw _ (List.mem_of_getElem? (i := 19) rfl)
theorem tw20 {Z : State} {a0 : Array Value} (hw : ∀ d ∈ tables_1, d.before a0 Z = true) : (Jvm.Cond.stringLink "java/lang/String" (7 : Nat) "").before a0 Z = true := hw _ (List.mem_of_getElem? (i := 20) rfl)
theorem tw21 {Z : State} {a0 : Array Value} (hw : ∀ d ∈ tables_1, d.before a0 Z = true) : (Jvm.Cond.arrayClass Jvm.ClassFile.FieldType.byte).before a0 Z = true := hw _ (List.mem_of_getElem? (i := 21) rfl)
theorem tw22 {Z : State} {a0 : Array Value} (hw : ∀ d ∈ tables_1, d.before a0 Z = true) : (Jvm.Cond.laysFinal "java/lang/String" "java/lang/String" "value" "[B").before a0 Z = true := hw _ (List.mem_of_getElem? (i := 22) rfl)
theorem tw23 {Z : State} {a0 : Array Value} (hw : ∀ d ∈ tables_1, d.before a0 Z = true) : (Jvm.Cond.laysFinal "java/lang/String" "java/lang/String" "coder" "B").before a0 Z = true := hw _ (List.mem_of_getElem? (i := 23) rfl)
theorem tw26 {Z : State} {a0 : Array Value} (hw : ∀ d ∈ tables_1, d.before a0 Z = true) : (Jvm.Cond.fieldLink "java/lang/String" (9 : Nat) "java/lang/String" "value" "[B").before a0 Z = true := hw _ (List.mem_of_getElem? (i := 26) rfl)
theorem tw27 {Z : State} {a0 : Array Value} (hw : ∀ d ∈ tables_1, d.before a0 Z = true) : (Jvm.Cond.fieldLink "java/lang/String" (15 : Nat) "java/lang/String" "coder" "B").before a0 Z = true := hw _ (List.mem_of_getElem? (i := 27) rfl)
theorem tw28 {Z : State} {a0 : Array Value} (hw : ∀ d ∈ tables_1, d.before a0 Z = true) : (Jvm.Cond.methodLink "com/example/gate_to_handlers/gatetohandlers/MediaTypeIsTokenPinLaw" (23 : Nat) ({ cls := "com/example/gate_to_handlers/gatetohandlers/MediaType", name := "isToken", desc := "(Ljava/lang/String;)Z" } : Jvm.MethodName)).before a0 Z = true := hw _ (List.mem_of_getElem? (i := 28) rfl)
theorem tw29 {Z : State} {a0 : Array Value} (hw : ∀ d ∈ tables_1, d.before a0 Z = true) : (Jvm.Cond.static ({ cls := "com/example/gate_to_handlers/gatetohandlers/MediaType", name := "isToken", desc := "(Ljava/lang/String;)Z" } : Jvm.MethodName)).before a0 Z = true := hw _ (List.mem_of_getElem? (i := 29) rfl)
theorem tw30 {Z : State} {a0 : Array Value} (hw : ∀ d ∈ tables_1, d.before a0 Z = true) : (Jvm.Cond.initialized "com/example/gate_to_handlers/gatetohandlers/MediaType").before a0 Z = true := hw _ (List.mem_of_getElem? (i := 30) rfl)
theorem tw31 {Z : State} {a0 : Array Value} (hw : ∀ d ∈ tables_1, d.before a0 Z = true) : (Jvm.Cond.code ({ cls := "com/example/gate_to_handlers/gatetohandlers/MediaType", name := "isToken", desc := "(Ljava/lang/String;)Z" } : Jvm.MethodName) prog_69_method_11_code (4 : Nat) (Option.some Jvm.ClassFile.FieldType.boolean)).before a0 Z = true := hw _ (List.mem_of_getElem? (i := 31) rfl)
theorem tw32 {Z : State} {a0 : Array Value} (hw : ∀ d ∈ tables_1, d.before a0 Z = true) : (Jvm.Cond.methodLink "com/example/gate_to_handlers/gatetohandlers/MediaType" (171 : Nat) ({ cls := "java/lang/String", name := "isEmpty", desc := "()Z" } : Jvm.MethodName)).before a0 Z = true := hw _ (List.mem_of_getElem? (i := 32) rfl)
theorem tw33 {Z : State} {a0 : Array Value} (hw : ∀ d ∈ tables_1, d.before a0 Z = true) : (Jvm.Cond.declares ({ cls := "java/lang/String", name := "isEmpty", desc := "()Z" } : Jvm.MethodName)).before a0 Z = true := hw _ (List.mem_of_getElem? (i := 33) rfl)
theorem tw34 {Z : State} {a0 : Array Value} (hw : ∀ d ∈ tables_1, d.before a0 Z = true) : (Jvm.Cond.instanceMethod ({ cls := "java/lang/String", name := "isEmpty", desc := "()Z" } : Jvm.MethodName)).before a0 Z = true := hw _ (List.mem_of_getElem? (i := 34) rfl)
theorem tw35 {Z : State} {a0 : Array Value} (hw : ∀ d ∈ tables_1, d.before a0 Z = true) : (Jvm.Cond.selects "java/lang/String" ({ cls := "java/lang/String", name := "isEmpty", desc := "()Z" } : Jvm.MethodName) ({ cls := "java/lang/String", name := "isEmpty", desc := "()Z" } : Jvm.MethodName)).before a0 Z = true := hw _ (List.mem_of_getElem? (i := 35) rfl)
theorem tw36 {Z : State} {a0 : Array Value} (hw : ∀ d ∈ tables_1, d.before a0 Z = true) : (Jvm.Cond.code ({ cls := "java/lang/String", name := "isEmpty", desc := "()Z" } : Jvm.MethodName) jdk_42_method_55_code (1 : Nat) (Option.some Jvm.ClassFile.FieldType.boolean)).before a0 Z = true := hw _ (List.mem_of_getElem? (i := 36) rfl)
theorem tw37 {Z : State} {a0 : Array Value} (hw : ∀ d ∈ tables_1, d.before a0 Z = true) : (Jvm.Cond.fieldLink "java/lang/String" (38 : Nat) "java/lang/String" "COMPACT_STRINGS" "Z").before a0 Z = true := hw _ (List.mem_of_getElem? (i := 37) rfl)
theorem tw38 {Z : State} {a0 : Array Value} (hw : ∀ d ∈ tables_1, d.before a0 Z = true) : (Jvm.Cond.methodLink "java/lang/String" (177 : Nat) ({ cls := "java/lang/StringUTF16", name := "compress", desc := "([CII)[B" } : Jvm.MethodName)).before a0 Z = true := hw _ (List.mem_of_getElem? (i := 38) rfl)
theorem tw39 {Z : State} {a0 : Array Value} (hw : ∀ d ∈ tables_1, d.before a0 Z = true) : (Jvm.Cond.static ({ cls := "java/lang/StringUTF16", name := "compress", desc := "([CII)[B" } : Jvm.MethodName)).before a0 Z = true := hw _ (List.mem_of_getElem? (i := 39) rfl)
theorem tw40 {Z : State} {a0 : Array Value} (hw : ∀ d ∈ tables_1, d.before a0 Z = true) : (Jvm.Cond.initialized "java/lang/StringUTF16").before a0 Z = true := hw _ (List.mem_of_getElem? (i := 40) rfl)
theorem tw41 {Z : State} {a0 : Array Value} (hw : ∀ d ∈ tables_1, d.before a0 Z = true) : (Jvm.Cond.code ({ cls := "java/lang/StringUTF16", name := "compress", desc := "([CII)[B" } : Jvm.MethodName) jdk_52_method_16_code (6 : Nat) (Option.some (Jvm.ClassFile.FieldType.array Jvm.ClassFile.FieldType.byte))).before a0 Z = true := hw _ (List.mem_of_getElem? (i := 41) rfl)
theorem tw42 {Z : State} {a0 : Array Value} (hw : ∀ d ∈ tables_1, d.before a0 Z = true) : (Jvm.Cond.methodLink "java/lang/StringUTF16" (115 : Nat) ({ cls := "java/lang/StringUTF16", name := "compress", desc := "([CI[BII)I" } : Jvm.MethodName)).before a0 Z = true := hw _ (List.mem_of_getElem? (i := 42) rfl)
theorem tw43 {Z : State} {a0 : Array Value} (hw : ∀ d ∈ tables_1, d.before a0 Z = true) : (Jvm.Cond.static ({ cls := "java/lang/StringUTF16", name := "compress", desc := "([CI[BII)I" } : Jvm.MethodName)).before a0 Z = true := hw _ (List.mem_of_getElem? (i := 43) rfl)
theorem tw44 {Z : State} {a0 : Array Value} (hw : ∀ d ∈ tables_1, d.before a0 Z = true) : (Jvm.Cond.code ({ cls := "java/lang/StringUTF16", name := "compress", desc := "([CI[BII)I" } : Jvm.MethodName) jdk_52_method_21_code (7 : Nat) (Option.some Jvm.ClassFile.FieldType.int)).before a0 Z = true := hw _ (List.mem_of_getElem? (i := 44) rfl)
theorem tw45 {Z : State} {a0 : Array Value} (hw : ∀ d ∈ tables_1, d.before a0 Z = true) : (Jvm.Cond.methodLink "java/lang/String" (47 : Nat) ({ cls := "java/lang/StringUTF16", name := "coderFromArrayLen", desc := "([BI)B" } : Jvm.MethodName)).before a0 Z = true := hw _ (List.mem_of_getElem? (i := 45) rfl)
theorem tw46 {Z : State} {a0 : Array Value} (hw : ∀ d ∈ tables_1, d.before a0 Z = true) : (Jvm.Cond.static ({ cls := "java/lang/StringUTF16", name := "coderFromArrayLen", desc := "([BI)B" } : Jvm.MethodName)).before a0 Z = true := hw _ (List.mem_of_getElem? (i := 46) rfl)
theorem tw47 {Z : State} {a0 : Array Value} (hw : ∀ d ∈ tables_1, d.before a0 Z = true) : (Jvm.Cond.code ({ cls := "java/lang/StringUTF16", name := "coderFromArrayLen", desc := "([BI)B" } : Jvm.MethodName) jdk_52_method_15_code (2 : Nat) (Option.some Jvm.ClassFile.FieldType.byte)).before a0 Z = true := hw _ (List.mem_of_getElem? (i := 47) rfl)
theorem tw48 {Z : State} {a0 : Array Value} (hw : ∀ d ∈ tables_1, d.before a0 Z = true) : (Jvm.Cond.methodLink "com/example/gate_to_handlers/gatetohandlers/MediaTypeIsTokenPinLaw" (19 : Nat) ({ cls := "com/example/gate_to_handlers/gatetohandlers/MediaTypeIsTokenPinLaw", name := "tokenChar", desc := "(C)Z" } : Jvm.MethodName)).before a0 Z = true := hw _ (List.mem_of_getElem? (i := 48) rfl)
theorem tw49 {Z : State} {a0 : Array Value} (hw : ∀ d ∈ tables_1, d.before a0 Z = true) : (Jvm.Cond.static ({ cls := "com/example/gate_to_handlers/gatetohandlers/MediaTypeIsTokenPinLaw", name := "tokenChar", desc := "(C)Z" } : Jvm.MethodName)).before a0 Z = true := hw _ (List.mem_of_getElem? (i := 49) rfl)
theorem tw50 {Z : State} {a0 : Array Value} (hw : ∀ d ∈ tables_1, d.before a0 Z = true) : (Jvm.Cond.code ({ cls := "com/example/gate_to_handlers/gatetohandlers/MediaTypeIsTokenPinLaw", name := "tokenChar", desc := "(C)Z" } : Jvm.MethodName) method_4_code (1 : Nat) (Option.some Jvm.ClassFile.FieldType.boolean)).before a0 Z = true := hw _ (List.mem_of_getElem? (i := 50) rfl)
theorem tw51 {Z : State} {a0 : Array Value} (hw : ∀ d ∈ tables_1, d.before a0 Z = true) : (Jvm.Cond.methodLink "com/example/gate_to_handlers/gatetohandlers/MediaType" (196 : Nat) ({ cls := "java/lang/String", name := "length", desc := "()I" } : Jvm.MethodName)).before a0 Z = true := hw _ (List.mem_of_getElem? (i := 51) rfl)
theorem tw52 {Z : State} {a0 : Array Value} (hw : ∀ d ∈ tables_1, d.before a0 Z = true) : (Jvm.Cond.declares ({ cls := "java/lang/String", name := "length", desc := "()I" } : Jvm.MethodName)).before a0 Z = true := hw _ (List.mem_of_getElem? (i := 52) rfl)
theorem tw53 {Z : State} {a0 : Array Value} (hw : ∀ d ∈ tables_1, d.before a0 Z = true) : (Jvm.Cond.instanceMethod ({ cls := "java/lang/String", name := "length", desc := "()I" } : Jvm.MethodName)).before a0 Z = true := hw _ (List.mem_of_getElem? (i := 53) rfl)
theorem tw54 {Z : State} {a0 : Array Value} (hw : ∀ d ∈ tables_1, d.before a0 Z = true) : (Jvm.Cond.selects "java/lang/String" ({ cls := "java/lang/String", name := "length", desc := "()I" } : Jvm.MethodName) ({ cls := "java/lang/String", name := "length", desc := "()I" } : Jvm.MethodName)).before a0 Z = true := hw _ (List.mem_of_getElem? (i := 54) rfl)
theorem tw55 {Z : State} {a0 : Array Value} (hw : ∀ d ∈ tables_1, d.before a0 Z = true) : (Jvm.Cond.code ({ cls := "java/lang/String", name := "length", desc := "()I" } : Jvm.MethodName) jdk_42_method_54_code (1 : Nat) (Option.some Jvm.ClassFile.FieldType.int)).before a0 Z = true := hw _ (List.mem_of_getElem? (i := 55) rfl)
theorem tw56 {Z : State} {a0 : Array Value} (hw : ∀ d ∈ tables_1, d.before a0 Z = true) : (Jvm.Cond.methodLink "java/lang/String" (335 : Nat) ({ cls := "java/lang/String", name := "coder", desc := "()B" } : Jvm.MethodName)).before a0 Z = true := hw _ (List.mem_of_getElem? (i := 56) rfl)
theorem tw57 {Z : State} {a0 : Array Value} (hw : ∀ d ∈ tables_1, d.before a0 Z = true) : (Jvm.Cond.declares ({ cls := "java/lang/String", name := "coder", desc := "()B" } : Jvm.MethodName)).before a0 Z = true := hw _ (List.mem_of_getElem? (i := 57) rfl)
theorem tw58 {Z : State} {a0 : Array Value} (hw : ∀ d ∈ tables_1, d.before a0 Z = true) : (Jvm.Cond.instanceMethod ({ cls := "java/lang/String", name := "coder", desc := "()B" } : Jvm.MethodName)).before a0 Z = true := hw _ (List.mem_of_getElem? (i := 58) rfl)
theorem tw59 {Z : State} {a0 : Array Value} (hw : ∀ d ∈ tables_1, d.before a0 Z = true) : (Jvm.Cond.selects "java/lang/String" ({ cls := "java/lang/String", name := "coder", desc := "()B" } : Jvm.MethodName) ({ cls := "java/lang/String", name := "coder", desc := "()B" } : Jvm.MethodName)).before a0 Z = true := hw _ (List.mem_of_getElem? (i := 59) rfl)
theorem tw60 {Z : State} {a0 : Array Value} (hw : ∀ d ∈ tables_1, d.before a0 Z = true) : (Jvm.Cond.code ({ cls := "java/lang/String", name := "coder", desc := "()B" } : Jvm.MethodName) jdk_42_method_152_code (1 : Nat) (Option.some Jvm.ClassFile.FieldType.byte)).before a0 Z = true := hw _ (List.mem_of_getElem? (i := 60) rfl)
theorem tw61 {Z : State} {a0 : Array Value} (hw : ∀ d ∈ tables_1, d.before a0 Z = true) : (Jvm.Cond.methodLink "com/example/gate_to_handlers/gatetohandlers/MediaType" (199 : Nat) ({ cls := "java/lang/String", name := "charAt", desc := "(I)C" } : Jvm.MethodName)).before a0 Z = true := hw _ (List.mem_of_getElem? (i := 61) rfl)
theorem tw62 {Z : State} {a0 : Array Value} (hw : ∀ d ∈ tables_1, d.before a0 Z = true) : (Jvm.Cond.declares ({ cls := "java/lang/String", name := "charAt", desc := "(I)C" } : Jvm.MethodName)).before a0 Z = true := hw _ (List.mem_of_getElem? (i := 62) rfl)
theorem tw63 {Z : State} {a0 : Array Value} (hw : ∀ d ∈ tables_1, d.before a0 Z = true) : (Jvm.Cond.instanceMethod ({ cls := "java/lang/String", name := "charAt", desc := "(I)C" } : Jvm.MethodName)).before a0 Z = true := hw _ (List.mem_of_getElem? (i := 63) rfl)
theorem tw64 {Z : State} {a0 : Array Value} (hw : ∀ d ∈ tables_1, d.before a0 Z = true) : (Jvm.Cond.selects "java/lang/String" ({ cls := "java/lang/String", name := "charAt", desc := "(I)C" } : Jvm.MethodName) ({ cls := "java/lang/String", name := "charAt", desc := "(I)C" } : Jvm.MethodName)).before a0 Z = true := hw _ (List.mem_of_getElem? (i := 64) rfl)
theorem tw65 {Z : State} {a0 : Array Value} (hw : ∀ d ∈ tables_1, d.before a0 Z = true) : (Jvm.Cond.code ({ cls := "java/lang/String", name := "charAt", desc := "(I)C" } : Jvm.MethodName) jdk_42_method_56_code (2 : Nat) (Option.some Jvm.ClassFile.FieldType.char)).before a0 Z = true := hw _ (List.mem_of_getElem? (i := 65) rfl)
theorem tw66 {Z : State} {a0 : Array Value} (hw : ∀ d ∈ tables_1, d.before a0 Z = true) : (Jvm.Cond.methodLink "java/lang/String" (492 : Nat) ({ cls := "java/lang/String", name := "isLatin1", desc := "()Z" } : Jvm.MethodName)).before a0 Z = true := hw _ (List.mem_of_getElem? (i := 66) rfl)
theorem tw67 {Z : State} {a0 : Array Value} (hw : ∀ d ∈ tables_1, d.before a0 Z = true) : (Jvm.Cond.declares ({ cls := "java/lang/String", name := "isLatin1", desc := "()Z" } : Jvm.MethodName)).before a0 Z = true := hw _ (List.mem_of_getElem? (i := 67) rfl)
theorem tw68 {Z : State} {a0 : Array Value} (hw : ∀ d ∈ tables_1, d.before a0 Z = true) : (Jvm.Cond.instanceMethod ({ cls := "java/lang/String", name := "isLatin1", desc := "()Z" } : Jvm.MethodName)).before a0 Z = true := hw _ (List.mem_of_getElem? (i := 68) rfl)
theorem tw69 {Z : State} {a0 : Array Value} (hw : ∀ d ∈ tables_1, d.before a0 Z = true) : (Jvm.Cond.selects "java/lang/String" ({ cls := "java/lang/String", name := "isLatin1", desc := "()Z" } : Jvm.MethodName) ({ cls := "java/lang/String", name := "isLatin1", desc := "()Z" } : Jvm.MethodName)).before a0 Z = true := hw _ (List.mem_of_getElem? (i := 69) rfl)
theorem tw70 {Z : State} {a0 : Array Value} (hw : ∀ d ∈ tables_1, d.before a0 Z = true) : (Jvm.Cond.code ({ cls := "java/lang/String", name := "isLatin1", desc := "()Z" } : Jvm.MethodName) jdk_42_method_154_code (1 : Nat) (Option.some Jvm.ClassFile.FieldType.boolean)).before a0 Z = true := hw _ (List.mem_of_getElem? (i := 70) rfl)
theorem tw71 {Z : State} {a0 : Array Value} (hw : ∀ d ∈ tables_1, d.before a0 Z = true) : (Jvm.Cond.methodLink "java/lang/String" (495 : Nat) ({ cls := "java/lang/StringLatin1", name := "charAt", desc := "([BI)C" } : Jvm.MethodName)).before a0 Z = true := hw _ (List.mem_of_getElem? (i := 71) rfl)
theorem tw72 {Z : State} {a0 : Array Value} (hw : ∀ d ∈ tables_1, d.before a0 Z = true) : (Jvm.Cond.static ({ cls := "java/lang/StringLatin1", name := "charAt", desc := "([BI)C" } : Jvm.MethodName)).before a0 Z = true := hw _ (List.mem_of_getElem? (i := 72) rfl)
theorem tw73 {Z : State} {a0 : Array Value} (hw : ∀ d ∈ tables_1, d.before a0 Z = true) : (Jvm.Cond.initialized "java/lang/StringLatin1").before a0 Z = true := hw _ (List.mem_of_getElem? (i := 73) rfl)
theorem tw74 {Z : State} {a0 : Array Value} (hw : ∀ d ∈ tables_1, d.before a0 Z = true) : (Jvm.Cond.code ({ cls := "java/lang/StringLatin1", name := "charAt", desc := "([BI)C" } : Jvm.MethodName) jdk_43_method_2_code (2 : Nat) (Option.some Jvm.ClassFile.FieldType.char)).before a0 Z = true := hw _ (List.mem_of_getElem? (i := 74) rfl)
theorem tw75 {Z : State} {a0 : Array Value} (hw : ∀ d ∈ tables_1, d.before a0 Z = true) : (Jvm.Cond.methodLink "java/lang/StringLatin1" (9 : Nat) ({ cls := "java/lang/String", name := "checkIndex", desc := "(II)V" } : Jvm.MethodName)).before a0 Z = true := hw _ (List.mem_of_getElem? (i := 75) rfl)
theorem tw76 {Z : State} {a0 : Array Value} (hw : ∀ d ∈ tables_1, d.before a0 Z = true) : (Jvm.Cond.static ({ cls := "java/lang/String", name := "checkIndex", desc := "(II)V" } : Jvm.MethodName)).before a0 Z = true := hw _ (List.mem_of_getElem? (i := 76) rfl)
theorem tw77 {Z : State} {a0 : Array Value} (hw : ∀ d ∈ tables_1, d.before a0 Z = true) : (Jvm.Cond.code ({ cls := "java/lang/String", name := "checkIndex", desc := "(II)V" } : Jvm.MethodName) jdk_42_method_155_code (2 : Nat) (Option.none : Option Jvm.ClassFile.FieldType)).before a0 Z = true := hw _ (List.mem_of_getElem? (i := 77) rfl)
theorem tw78 {Z : State} {a0 : Array Value} (hw : ∀ d ∈ tables_1, d.before a0 Z = true) : (Jvm.Cond.fieldLink "java/lang/String" (1053 : Nat) "jdk/internal/util/Preconditions" "SIOOBE_FORMATTER" "Ljava/util/function/BiFunction;").before a0 Z = true := hw _ (List.mem_of_getElem? (i := 78) rfl)
theorem tw79 {Z : State} {a0 : Array Value} (hw : ∀ d ∈ tables_1, d.before a0 Z = true) : (Jvm.Cond.initialized "jdk/internal/util/Preconditions").before a0 Z = true := hw _ (List.mem_of_getElem? (i := 79) rfl)
theorem tw80 {Z : State} {a0 : Array Value} (hw : ∀ d ∈ tables_1, d.before a0 Z = true) : (Jvm.Cond.methodLink "java/lang/String" (1059 : Nat) ({ cls := "jdk/internal/util/Preconditions", name := "checkIndex", desc := "(IILjava/util/function/BiFunction;)I" } : Jvm.MethodName)).before a0 Z = true := hw _ (List.mem_of_getElem? (i := 80) rfl)
theorem tw81 {Z : State} {a0 : Array Value} (hw : ∀ d ∈ tables_1, d.before a0 Z = true) : (Jvm.Cond.static ({ cls := "jdk/internal/util/Preconditions", name := "checkIndex", desc := "(IILjava/util/function/BiFunction;)I" } : Jvm.MethodName)).before a0 Z = true := hw _ (List.mem_of_getElem? (i := 81) rfl)
theorem tw82 {Z : State} {a0 : Array Value} (hw : ∀ d ∈ tables_1, d.before a0 Z = true) : (Jvm.Cond.code ({ cls := "jdk/internal/util/Preconditions", name := "checkIndex", desc := "(IILjava/util/function/BiFunction;)I" } : Jvm.MethodName) jdk_41_method_11_code (3 : Nat) (Option.some Jvm.ClassFile.FieldType.int)).before a0 Z = true := hw _ (List.mem_of_getElem? (i := 82) rfl)
theorem tw83 {Z : State} {a0 : Array Value} (hw : ∀ d ∈ tables_1, d.before a0 Z = true) : (Jvm.Cond.stringLink "com/example/gate_to_handlers/gatetohandlers/MediaType" (215 : Nat) "!#$%&'*+-.^_`|~").before a0 Z = true := hw _ (List.mem_of_getElem? (i := 83) rfl)
theorem tw84 {Z : State} {a0 : Array Value} (hw : ∀ d ∈ tables_1, d.before a0 Z = true) : (Jvm.Cond.methodLink "com/example/gate_to_handlers/gatetohandlers/MediaType" (136 : Nat) ({ cls := "java/lang/String", name := "indexOf", desc := "(I)I" } : Jvm.MethodName)).before a0 Z = true := hw _ (List.mem_of_getElem? (i := 84) rfl)
theorem tw85 {Z : State} {a0 : Array Value} (hw : ∀ d ∈ tables_1, d.before a0 Z = true) : (Jvm.Cond.declares ({ cls := "java/lang/String", name := "indexOf", desc := "(I)I" } : Jvm.MethodName)).before a0 Z = true := hw _ (List.mem_of_getElem? (i := 85) rfl)
theorem tw86 {Z : State} {a0 : Array Value} (hw : ∀ d ∈ tables_1, d.before a0 Z = true) : (Jvm.Cond.instanceMethod ({ cls := "java/lang/String", name := "indexOf", desc := "(I)I" } : Jvm.MethodName)).before a0 Z = true := hw _ (List.mem_of_getElem? (i := 86) rfl)
theorem tw87 {Z : State} {a0 : Array Value} (hw : ∀ d ∈ tables_1, d.before a0 Z = true) : (Jvm.Cond.selects "java/lang/String" ({ cls := "java/lang/String", name := "indexOf", desc := "(I)I" } : Jvm.MethodName) ({ cls := "java/lang/String", name := "indexOf", desc := "(I)I" } : Jvm.MethodName)).before a0 Z = true := hw _ (List.mem_of_getElem? (i := 87) rfl)
theorem tw88 {Z : State} {a0 : Array Value} (hw : ∀ d ∈ tables_1, d.before a0 Z = true) : (Jvm.Cond.code ({ cls := "java/lang/String", name := "indexOf", desc := "(I)I" } : Jvm.MethodName) jdk_42_method_79_code (2 : Nat) (Option.some Jvm.ClassFile.FieldType.int)).before a0 Z = true := hw _ (List.mem_of_getElem? (i := 88) rfl)
theorem tw89 {Z : State} {a0 : Array Value} (hw : ∀ d ∈ tables_1, d.before a0 Z = true) : (Jvm.Cond.methodLink "java/lang/String" (633 : Nat) ({ cls := "java/lang/String", name := "indexOf", desc := "(II)I" } : Jvm.MethodName)).before a0 Z = true := hw _ (List.mem_of_getElem? (i := 89) rfl)
theorem tw90 {Z : State} {a0 : Array Value} (hw : ∀ d ∈ tables_1, d.before a0 Z = true) : (Jvm.Cond.declares ({ cls := "java/lang/String", name := "indexOf", desc := "(II)I" } : Jvm.MethodName)).before a0 Z = true := hw _ (List.mem_of_getElem? (i := 90) rfl)
theorem tw91 {Z : State} {a0 : Array Value} (hw : ∀ d ∈ tables_1, d.before a0 Z = true) : (Jvm.Cond.instanceMethod ({ cls := "java/lang/String", name := "indexOf", desc := "(II)I" } : Jvm.MethodName)).before a0 Z = true := hw _ (List.mem_of_getElem? (i := 91) rfl)
theorem tw92 {Z : State} {a0 : Array Value} (hw : ∀ d ∈ tables_1, d.before a0 Z = true) : (Jvm.Cond.selects "java/lang/String" ({ cls := "java/lang/String", name := "indexOf", desc := "(II)I" } : Jvm.MethodName) ({ cls := "java/lang/String", name := "indexOf", desc := "(II)I" } : Jvm.MethodName)).before a0 Z = true := hw _ (List.mem_of_getElem? (i := 92) rfl)
theorem tw93 {Z : State} {a0 : Array Value} (hw : ∀ d ∈ tables_1, d.before a0 Z = true) : (Jvm.Cond.code ({ cls := "java/lang/String", name := "indexOf", desc := "(II)I" } : Jvm.MethodName) jdk_42_method_80_code (3 : Nat) (Option.some Jvm.ClassFile.FieldType.int)).before a0 Z = true := hw _ (List.mem_of_getElem? (i := 93) rfl)
theorem tw94 {Z : State} {a0 : Array Value} (hw : ∀ d ∈ tables_1, d.before a0 Z = true) : (Jvm.Cond.methodLink "java/lang/String" (505 : Nat) ({ cls := "java/lang/String", name := "length", desc := "()I" } : Jvm.MethodName)).before a0 Z = true := hw _ (List.mem_of_getElem? (i := 94) rfl)
theorem tw95 {Z : State} {a0 : Array Value} (hw : ∀ d ∈ tables_1, d.before a0 Z = true) : (Jvm.Cond.methodLink "java/lang/String" (637 : Nat) ({ cls := "java/lang/StringLatin1", name := "indexOf", desc := "([BIII)I" } : Jvm.MethodName)).before a0 Z = true := hw _ (List.mem_of_getElem? (i := 95) rfl)
theorem tw96 {Z : State} {a0 : Array Value} (hw : ∀ d ∈ tables_1, d.before a0 Z = true) : (Jvm.Cond.static ({ cls := "java/lang/StringLatin1", name := "indexOf", desc := "([BIII)I" } : Jvm.MethodName)).before a0 Z = true := hw _ (List.mem_of_getElem? (i := 96) rfl)
theorem tw97 {Z : State} {a0 : Array Value} (hw : ∀ d ∈ tables_1, d.before a0 Z = true) : (Jvm.Cond.code ({ cls := "java/lang/StringLatin1", name := "indexOf", desc := "([BIII)I" } : Jvm.MethodName) jdk_43_method_22_code (4 : Nat) (Option.some Jvm.ClassFile.FieldType.int)).before a0 Z = true := hw _ (List.mem_of_getElem? (i := 97) rfl)
theorem tw98 {Z : State} {a0 : Array Value} (hw : ∀ d ∈ tables_1, d.before a0 Z = true) : (Jvm.Cond.methodLink "java/lang/StringLatin1" (88 : Nat) ({ cls := "java/lang/StringLatin1", name := "canEncode", desc := "(I)Z" } : Jvm.MethodName)).before a0 Z = true := hw _ (List.mem_of_getElem? (i := 98) rfl)
theorem tw99 {Z : State} {a0 : Array Value} (hw : ∀ d ∈ tables_1, d.before a0 Z = true) : (Jvm.Cond.static ({ cls := "java/lang/StringLatin1", name := "canEncode", desc := "(I)Z" } : Jvm.MethodName)).before a0 Z = true := hw _ (List.mem_of_getElem? (i := 99) rfl)
theorem tw100 {Z : State} {a0 : Array Value} (hw : ∀ d ∈ tables_1, d.before a0 Z = true) : (Jvm.Cond.code ({ cls := "java/lang/StringLatin1", name := "canEncode", desc := "(I)Z" } : Jvm.MethodName) jdk_43_method_4_code (1 : Nat) (Option.some Jvm.ClassFile.FieldType.boolean)).before a0 Z = true := hw _ (List.mem_of_getElem? (i := 100) rfl)
theorem tw101 {Z : State} {a0 : Array Value} (hw : ∀ d ∈ tables_1, d.before a0 Z = true) : (Jvm.Cond.methodLink "java/lang/StringLatin1" (92 : Nat) ({ cls := "java/lang/Math", name := "max", desc := "(II)I" } : Jvm.MethodName)).before a0 Z = true := hw _ (List.mem_of_getElem? (i := 101) rfl)
theorem tw102 {Z : State} {a0 : Array Value} (hw : ∀ d ∈ tables_1, d.before a0 Z = true) : (Jvm.Cond.static ({ cls := "java/lang/Math", name := "max", desc := "(II)I" } : Jvm.MethodName)).before a0 Z = true := hw _ (List.mem_of_getElem? (i := 102) rfl)
theorem tw103 {Z : State} {a0 : Array Value} (hw : ∀ d ∈ tables_1, d.before a0 Z = true) : (Jvm.Cond.initialized "java/lang/Math").before a0 Z = true := hw _ (List.mem_of_getElem? (i := 103) rfl)
theorem tw104 {Z : State} {a0 : Array Value} (hw : ∀ d ∈ tables_1, d.before a0 Z = true) : (Jvm.Cond.code ({ cls := "java/lang/Math", name := "max", desc := "(II)I" } : Jvm.MethodName) jdk_29_method_65_code (2 : Nat) (Option.some Jvm.ClassFile.FieldType.int)).before a0 Z = true := hw _ (List.mem_of_getElem? (i := 104) rfl)
theorem tw105 {Z : State} {a0 : Array Value} (hw : ∀ d ∈ tables_1, d.before a0 Z = true) : (Jvm.Cond.methodLink "java/lang/StringLatin1" (38 : Nat) ({ cls := "java/lang/Math", name := "min", desc := "(II)I" } : Jvm.MethodName)).before a0 Z = true := hw _ (List.mem_of_getElem? (i := 105) rfl)
theorem tw106 {Z : State} {a0 : Array Value} (hw : ∀ d ∈ tables_1, d.before a0 Z = true) : (Jvm.Cond.static ({ cls := "java/lang/Math", name := "min", desc := "(II)I" } : Jvm.MethodName)).before a0 Z = true := hw _ (List.mem_of_getElem? (i := 106) rfl)
theorem tw107 {Z : State} {a0 : Array Value} (hw : ∀ d ∈ tables_1, d.before a0 Z = true) : (Jvm.Cond.code ({ cls := "java/lang/Math", name := "min", desc := "(II)I" } : Jvm.MethodName) jdk_29_method_69_code (2 : Nat) (Option.some Jvm.ClassFile.FieldType.int)).before a0 Z = true := hw _ (List.mem_of_getElem? (i := 107) rfl)
theorem tw108 {Z : State} {a0 : Array Value} (hw : ∀ d ∈ tables_1, d.before a0 Z = true) : (Jvm.Cond.methodLink "java/lang/StringLatin1" (95 : Nat) ({ cls := "java/lang/StringLatin1", name := "indexOfChar", desc := "([BIII)I" } : Jvm.MethodName)).before a0 Z = true := hw _ (List.mem_of_getElem? (i := 108) rfl)
theorem tw109 {Z : State} {a0 : Array Value} (hw : ∀ d ∈ tables_1, d.before a0 Z = true) : (Jvm.Cond.static ({ cls := "java/lang/StringLatin1", name := "indexOfChar", desc := "([BIII)I" } : Jvm.MethodName)).before a0 Z = true := hw _ (List.mem_of_getElem? (i := 109) rfl)
theorem tw110 {Z : State} {a0 : Array Value} (hw : ∀ d ∈ tables_1, d.before a0 Z = true) : (Jvm.Cond.code ({ cls := "java/lang/StringLatin1", name := "indexOfChar", desc := "([BIII)I" } : Jvm.MethodName) jdk_43_method_23_code (6 : Nat) (Option.some Jvm.ClassFile.FieldType.int)).before a0 Z = true := hw _ (List.mem_of_getElem? (i := 110) rfl)
theorem tw111 {Z : State} {a0 : Array Value} (hw : ∀ d ∈ tables_1, d.before a0 Z = true) : (Jvm.Cond.constant "com/example/gate_to_handlers/gatetohandlers/MediaTypeIsTokenPinLaw" (30 : Nat) (65535 : Int32)).before a0 Z = true := hw _ (List.mem_of_getElem? (i := 111) rfl)
theorem tw112 {Z : State} {a0 : Array Value} (hw : ∀ d ∈ tables_1, d.before a0 Z = true) : (Jvm.Cond.methodLink "java/lang/StringUTF16" (119 : Nat) ({ cls := "java/lang/StringUTF16", name := "toBytes", desc := "([CII)[B" } : Jvm.MethodName)).before a0 Z = true := hw _ (List.mem_of_getElem? (i := 112) rfl)
theorem tw113 {Z : State} {a0 : Array Value} (hw : ∀ d ∈ tables_1, d.before a0 Z = true) : (Jvm.Cond.static ({ cls := "java/lang/StringUTF16", name := "toBytes", desc := "([CII)[B" } : Jvm.MethodName)).before a0 Z = true := hw _ (List.mem_of_getElem? (i := 113) rfl)
theorem tw114 {Z : State} {a0 : Array Value} (hw : ∀ d ∈ tables_1, d.before a0 Z = true) : (Jvm.Cond.code ({ cls := "java/lang/StringUTF16", name := "toBytes", desc := "([CII)[B" } : Jvm.MethodName) jdk_52_method_14_code (5 : Nat) (Option.some (Jvm.ClassFile.FieldType.array Jvm.ClassFile.FieldType.byte))).before a0 Z = true := hw _ (List.mem_of_getElem? (i := 114) rfl)
theorem tw115 {Z : State} {a0 : Array Value} (hw : ∀ d ∈ tables_1, d.before a0 Z = true) : (Jvm.Cond.methodLink "java/lang/StringUTF16" (107 : Nat) ({ cls := "java/lang/StringUTF16", name := "newBytesFor", desc := "(I)[B" } : Jvm.MethodName)).before a0 Z = true := hw _ (List.mem_of_getElem? (i := 115) rfl)
theorem tw116 {Z : State} {a0 : Array Value} (hw : ∀ d ∈ tables_1, d.before a0 Z = true) : (Jvm.Cond.static ({ cls := "java/lang/StringUTF16", name := "newBytesFor", desc := "(I)[B" } : Jvm.MethodName)).before a0 Z = true := hw _ (List.mem_of_getElem? (i := 116) rfl)
theorem tw117 {Z : State} {a0 : Array Value} (hw : ∀ d ∈ tables_1, d.before a0 Z = true) : (Jvm.Cond.code ({ cls := "java/lang/StringUTF16", name := "newBytesFor", desc := "(I)[B" } : Jvm.MethodName) jdk_52_method_2_code (1 : Nat) (Option.some (Jvm.ClassFile.FieldType.array Jvm.ClassFile.FieldType.byte))).before a0 Z = true := hw _ (List.mem_of_getElem? (i := 117) rfl)
theorem tw118 {Z : State} {a0 : Array Value} (hw : ∀ d ∈ tables_1, d.before a0 Z = true) : (Jvm.Cond.methodLink "java/lang/StringUTF16" (11 : Nat) ({ cls := "java/lang/StringUTF16", name := "newBytesLength", desc := "(I)I" } : Jvm.MethodName)).before a0 Z = true := hw _ (List.mem_of_getElem? (i := 118) rfl)
theorem tw119 {Z : State} {a0 : Array Value} (hw : ∀ d ∈ tables_1, d.before a0 Z = true) : (Jvm.Cond.static ({ cls := "java/lang/StringUTF16", name := "newBytesLength", desc := "(I)I" } : Jvm.MethodName)).before a0 Z = true := hw _ (List.mem_of_getElem? (i := 119) rfl)
theorem tw120 {Z : State} {a0 : Array Value} (hw : ∀ d ∈ tables_1, d.before a0 Z = true) : (Jvm.Cond.code ({ cls := "java/lang/StringUTF16", name := "newBytesLength", desc := "(I)I" } : Jvm.MethodName) jdk_52_method_3_code (1 : Nat) (Option.some Jvm.ClassFile.FieldType.int)).before a0 Z = true := hw _ (List.mem_of_getElem? (i := 120) rfl)
theorem tw121 {Z : State} {a0 : Array Value} (hw : ∀ d ∈ tables_1, d.before a0 Z = true) : (Jvm.Cond.constant "java/lang/StringUTF16" (20 : Nat) (1073741823 : Int32)).before a0 Z = true := hw _ (List.mem_of_getElem? (i := 121) rfl)
theorem tw122 {Z : State} {a0 : Array Value} (hw : ∀ d ∈ tables_1, d.before a0 Z = true) : (Jvm.Cond.methodLink "java/lang/StringUTF16" (111 : Nat) ({ cls := "java/lang/StringUTF16", name := "putChar", desc := "([BII)V" } : Jvm.MethodName)).before a0 Z = true := hw _ (List.mem_of_getElem? (i := 122) rfl)
theorem tw123 {Z : State} {a0 : Array Value} (hw : ∀ d ∈ tables_1, d.before a0 Z = true) : (Jvm.Cond.static ({ cls := "java/lang/StringUTF16", name := "putChar", desc := "([BII)V" } : Jvm.MethodName)).before a0 Z = true := hw _ (List.mem_of_getElem? (i := 123) rfl)
theorem tw124 {Z : State} {a0 : Array Value} (hw : ∀ d ∈ tables_1, d.before a0 Z = true) : (Jvm.Cond.code ({ cls := "java/lang/StringUTF16", name := "putChar", desc := "([BII)V" } : Jvm.MethodName) jdk_52_method_4_code (3 : Nat) (Option.none : Option Jvm.ClassFile.FieldType)).before a0 Z = true := hw _ (List.mem_of_getElem? (i := 124) rfl)
theorem tw125 {Z : State} {a0 : Array Value} (hw : ∀ d ∈ tables_1, d.before a0 Z = true) : (Jvm.Cond.fieldLink "java/lang/StringUTF16" (44 : Nat) "java/lang/StringUTF16" "$assertionsDisabled" "Z").before a0 Z = true := hw _ (List.mem_of_getElem? (i := 125) rfl)
theorem tw126 {Z : State} {a0 : Array Value} (hw : ∀ d ∈ tables_1, d.before a0 Z = true) : (Jvm.Cond.fieldLink "java/lang/StringUTF16" (59 : Nat) "java/lang/StringUTF16" "HI_BYTE_SHIFT" "I").before a0 Z = true := hw _ (List.mem_of_getElem? (i := 126) rfl)
theorem tw127 {Z : State} {a0 : Array Value} (hw : ∀ d ∈ tables_1, d.before a0 Z = true) : (Jvm.Cond.fieldLink "java/lang/StringUTF16" (63 : Nat) "java/lang/StringUTF16" "LO_BYTE_SHIFT" "I").before a0 Z = true := hw _ (List.mem_of_getElem? (i := 127) rfl)
theorem tw128 {Z : State} {a0 : Array Value} (hw : ∀ d ∈ tables_1, d.before a0 Z = true) : (Jvm.Cond.methodLink "java/lang/StringUTF16" (71 : Nat) ({ cls := "java/lang/StringUTF16", name := "getChar", desc := "([BI)C" } : Jvm.MethodName)).before a0 Z = true := hw _ (List.mem_of_getElem? (i := 128) rfl)
theorem tw129 {Z : State} {a0 : Array Value} (hw : ∀ d ∈ tables_1, d.before a0 Z = true) : (Jvm.Cond.static ({ cls := "java/lang/StringUTF16", name := "getChar", desc := "([BI)C" } : Jvm.MethodName)).before a0 Z = true := hw _ (List.mem_of_getElem? (i := 129) rfl)
theorem tw130 {Z : State} {a0 : Array Value} (hw : ∀ d ∈ tables_1, d.before a0 Z = true) : (Jvm.Cond.code ({ cls := "java/lang/StringUTF16", name := "getChar", desc := "([BI)C" } : Jvm.MethodName) jdk_52_method_5_code (2 : Nat) (Option.some Jvm.ClassFile.FieldType.char)).before a0 Z = true := hw _ (List.mem_of_getElem? (i := 130) rfl)
theorem tw131 {Z : State} {a0 : Array Value} (hw : ∀ d ∈ tables_1, d.before a0 Z = true) : (Jvm.Cond.methodLink "java/lang/String" (498 : Nat) ({ cls := "java/lang/StringUTF16", name := "charAt", desc := "([BI)C" } : Jvm.MethodName)).before a0 Z = true := hw _ (List.mem_of_getElem? (i := 131) rfl)
theorem tw132 {Z : State} {a0 : Array Value} (hw : ∀ d ∈ tables_1, d.before a0 Z = true) : (Jvm.Cond.static ({ cls := "java/lang/StringUTF16", name := "charAt", desc := "([BI)C" } : Jvm.MethodName)).before a0 Z = true := hw _ (List.mem_of_getElem? (i := 132) rfl)
theorem tw133 {Z : State} {a0 : Array Value} (hw : ∀ d ∈ tables_1, d.before a0 Z = true) : (Jvm.Cond.code ({ cls := "java/lang/StringUTF16", name := "charAt", desc := "([BI)C" } : Jvm.MethodName) jdk_52_method_83_code (2 : Nat) (Option.some Jvm.ClassFile.FieldType.char)).before a0 Z = true := hw _ (List.mem_of_getElem? (i := 133) rfl)
theorem tw134 {Z : State} {a0 : Array Value} (hw : ∀ d ∈ tables_1, d.before a0 Z = true) : (Jvm.Cond.methodLink "java/lang/StringUTF16" (67 : Nat) ({ cls := "java/lang/StringUTF16", name := "checkIndex", desc := "(I[B)V" } : Jvm.MethodName)).before a0 Z = true := hw _ (List.mem_of_getElem? (i := 134) rfl)
theorem tw135 {Z : State} {a0 : Array Value} (hw : ∀ d ∈ tables_1, d.before a0 Z = true) : (Jvm.Cond.static ({ cls := "java/lang/StringUTF16", name := "checkIndex", desc := "(I[B)V" } : Jvm.MethodName)).before a0 Z = true := hw _ (List.mem_of_getElem? (i := 135) rfl)
theorem tw136 {Z : State} {a0 : Array Value} (hw : ∀ d ∈ tables_1, d.before a0 Z = true) : (Jvm.Cond.code ({ cls := "java/lang/StringUTF16", name := "checkIndex", desc := "(I[B)V" } : Jvm.MethodName) jdk_52_method_91_code (2 : Nat) (Option.none : Option Jvm.ClassFile.FieldType)).before a0 Z = true := hw _ (List.mem_of_getElem? (i := 136) rfl)
theorem tw137 {Z : State} {a0 : Array Value} (hw : ∀ d ∈ tables_1, d.before a0 Z = true) : (Jvm.Cond.methodLink "java/lang/StringUTF16" (48 : Nat) ({ cls := "java/lang/StringUTF16", name := "length", desc := "([B)I" } : Jvm.MethodName)).before a0 Z = true := hw _ (List.mem_of_getElem? (i := 137) rfl)
theorem tw138 {Z : State} {a0 : Array Value} (hw : ∀ d ∈ tables_1, d.before a0 Z = true) : (Jvm.Cond.static ({ cls := "java/lang/StringUTF16", name := "length", desc := "([B)I" } : Jvm.MethodName)).before a0 Z = true := hw _ (List.mem_of_getElem? (i := 138) rfl)
theorem tw139 {Z : State} {a0 : Array Value} (hw : ∀ d ∈ tables_1, d.before a0 Z = true) : (Jvm.Cond.code ({ cls := "java/lang/StringUTF16", name := "length", desc := "([B)I" } : Jvm.MethodName) jdk_52_method_6_code (1 : Nat) (Option.some Jvm.ClassFile.FieldType.int)).before a0 Z = true := hw _ (List.mem_of_getElem? (i := 139) rfl)
theorem tw140 {Z : State} {a0 : Array Value} (hw : ∀ d ∈ tables_1, d.before a0 Z = true) : (Jvm.Cond.methodLink "java/lang/StringUTF16" (414 : Nat) ({ cls := "java/lang/String", name := "checkIndex", desc := "(II)V" } : Jvm.MethodName)).before a0 Z = true := hw _ (List.mem_of_getElem? (i := 140) rfl)
theorem d0_0 : decode method_3_code 0 = .ok (.iload_n 0, 1) := by decide +kernel
theorem d0_1 : decode method_3_code 1 = .ok (.ldc 29, 2) := by decide +kernel
theorem d0_3 : decode method_3_code 3 = .ok (.iand, 1) := by decide +kernel
theorem d0_4 : decode method_3_code 4 = .ok (.ifCond .ne 9, 3) := by decide +kernel
theorem d0_7 : decode method_3_code 7 = .ok (.iload_n 0, 1) := by decide +kernel
theorem d0_8 : decode method_3_code 8 = .ok (.bipush 127, 2) := by decide +kernel
theorem d0_10 : decode method_3_code 10 = .ok (.iand, 1) := by decide +kernel
theorem d0_11 : decode method_3_code 11 = .ok (.i2c, 1) := by decide +kernel
theorem d0_12 : decode method_3_code 12 = .ok (.ireturn, 1) := by decide +kernel
theorem d0_13 : decode method_3_code 13 = .ok (.iload_n 0, 1) := by decide +kernel
theorem d0_14 : decode method_3_code 14 = .ok (.ldc 30, 2) := by decide +kernel
theorem d0_16 : decode method_3_code 16 = .ok (.iand, 1) := by decide +kernel
theorem d0_17 : decode method_3_code 17 = .ok (.i2c, 1) := by decide +kernel
theorem d0_18 : decode method_3_code 18 = .ok (.ireturn, 1) := by decide +kernel
theorem pn_0 : plainName "com/example/gate_to_handlers/gatetohandlers/MediaTypeIsTokenPinLaw" = true := by first | (simp [plainName, overriddenIn]; done) | decide +kernel
theorem d1_0 : decode method_4_code 0 = .ok (.iload_n 0, 1) := by decide +kernel
theorem d1_1 : decode method_4_code 1 = .ok (.bipush 97, 2) := by decide +kernel
theorem d1_14 : decode method_4_code 14 = .ok (.iload_n 0, 1) := by decide +kernel
theorem d1_15 : decode method_4_code 15 = .ok (.bipush 65, 2) := by decide +kernel
theorem d1_28 : decode method_4_code 28 = .ok (.iload_n 0, 1) := by decide +kernel
theorem d1_29 : decode method_4_code 29 = .ok (.bipush 48, 2) := by decide +kernel
theorem d1_42 : decode method_4_code 42 = .ok (.iload_n 0, 1) := by decide +kernel
theorem d1_43 : decode method_4_code 43 = .ok (.bipush 33, 2) := by decide +kernel
theorem d1_45 : decode method_4_code 45 = .ok (.if_icmp .eq 87, 3) := by decide +kernel
theorem d1_132 : decode method_4_code 132 = .ok (.iconst 1, 1) := by decide +kernel
theorem d1_133 : decode method_4_code 133 = .ok (.goto 4, 3) := by decide +kernel
theorem d1_137 : decode method_4_code 137 = .ok (.ireturn, 1) := by decide +kernel
theorem d1_48 : decode method_4_code 48 = .ok (.iload_n 0, 1) := by decide +kernel
theorem d1_49 : decode method_4_code 49 = .ok (.bipush 35, 2) := by decide +kernel
theorem d1_51 : decode method_4_code 51 = .ok (.if_icmp .eq 81, 3) := by decide +kernel
theorem d1_54 : decode method_4_code 54 = .ok (.iload_n 0, 1) := by decide +kernel
theorem d1_55 : decode method_4_code 55 = .ok (.bipush 36, 2) := by decide +kernel
theorem d1_57 : decode method_4_code 57 = .ok (.if_icmp .eq 75, 3) := by decide +kernel
theorem d1_60 : decode method_4_code 60 = .ok (.iload_n 0, 1) := by decide +kernel
theorem d1_61 : decode method_4_code 61 = .ok (.bipush 37, 2) := by decide +kernel
theorem d1_63 : decode method_4_code 63 = .ok (.if_icmp .eq 69, 3) := by decide +kernel
theorem d1_66 : decode method_4_code 66 = .ok (.iload_n 0, 1) := by decide +kernel
theorem d1_67 : decode method_4_code 67 = .ok (.bipush 38, 2) := by decide +kernel
theorem d1_69 : decode method_4_code 69 = .ok (.if_icmp .eq 63, 3) := by decide +kernel
theorem d1_72 : decode method_4_code 72 = .ok (.iload_n 0, 1) := by decide +kernel
theorem d1_73 : decode method_4_code 73 = .ok (.bipush 39, 2) := by decide +kernel
theorem d1_75 : decode method_4_code 75 = .ok (.if_icmp .eq 57, 3) := by decide +kernel
theorem d1_78 : decode method_4_code 78 = .ok (.iload_n 0, 1) := by decide +kernel
theorem d1_79 : decode method_4_code 79 = .ok (.bipush 42, 2) := by decide +kernel
theorem d1_81 : decode method_4_code 81 = .ok (.if_icmp .eq 51, 3) := by decide +kernel
theorem d1_84 : decode method_4_code 84 = .ok (.iload_n 0, 1) := by decide +kernel
theorem d1_85 : decode method_4_code 85 = .ok (.bipush 43, 2) := by decide +kernel
theorem d1_87 : decode method_4_code 87 = .ok (.if_icmp .eq 45, 3) := by decide +kernel
theorem d1_90 : decode method_4_code 90 = .ok (.iload_n 0, 1) := by decide +kernel
theorem d1_91 : decode method_4_code 91 = .ok (.bipush 45, 2) := by decide +kernel
theorem d1_93 : decode method_4_code 93 = .ok (.if_icmp .eq 39, 3) := by decide +kernel
theorem d1_96 : decode method_4_code 96 = .ok (.iload_n 0, 1) := by decide +kernel
theorem d1_97 : decode method_4_code 97 = .ok (.bipush 46, 2) := by decide +kernel
theorem d1_99 : decode method_4_code 99 = .ok (.if_icmp .eq 33, 3) := by decide +kernel
theorem d1_102 : decode method_4_code 102 = .ok (.iload_n 0, 1) := by decide +kernel
theorem d1_103 : decode method_4_code 103 = .ok (.bipush 94, 2) := by decide +kernel
theorem d1_105 : decode method_4_code 105 = .ok (.if_icmp .eq 27, 3) := by decide +kernel
theorem d1_108 : decode method_4_code 108 = .ok (.iload_n 0, 1) := by decide +kernel
theorem d1_109 : decode method_4_code 109 = .ok (.bipush 95, 2) := by decide +kernel
theorem d1_111 : decode method_4_code 111 = .ok (.if_icmp .eq 21, 3) := by decide +kernel
theorem d1_114 : decode method_4_code 114 = .ok (.iload_n 0, 1) := by decide +kernel
theorem d1_115 : decode method_4_code 115 = .ok (.bipush 96, 2) := by decide +kernel
theorem d1_117 : decode method_4_code 117 = .ok (.if_icmp .eq 15, 3) := by decide +kernel
theorem d1_120 : decode method_4_code 120 = .ok (.iload_n 0, 1) := by decide +kernel
theorem d1_121 : decode method_4_code 121 = .ok (.bipush 124, 2) := by decide +kernel
theorem d1_123 : decode method_4_code 123 = .ok (.if_icmp .eq 9, 3) := by decide +kernel
theorem d1_126 : decode method_4_code 126 = .ok (.iload_n 0, 1) := by decide +kernel
theorem d1_127 : decode method_4_code 127 = .ok (.bipush 126, 2) := by decide +kernel
theorem d1_129 : decode method_4_code 129 = .ok (.if_icmp .ne 7, 3) := by decide +kernel
theorem d1_136 : decode method_4_code 136 = .ok (.iconst 0, 1) := by decide +kernel
theorem d1_31 : decode method_4_code 31 = .ok (.if_icmp .lt 11, 3) := by decide +kernel
theorem d1_34 : decode method_4_code 34 = .ok (.iload_n 0, 1) := by decide +kernel
theorem d1_35 : decode method_4_code 35 = .ok (.bipush 57, 2) := by decide +kernel
theorem d1_37 : decode method_4_code 37 = .ok (.if_icmp .gt 5, 3) := by decide +kernel
theorem d1_40 : decode method_4_code 40 = .ok (.iconst 1, 1) := by decide +kernel
theorem d1_41 : decode method_4_code 41 = .ok (.ireturn, 1) := by decide +kernel
theorem d1_17 : decode method_4_code 17 = .ok (.if_icmp .lt 11, 3) := by decide +kernel
theorem d1_20 : decode method_4_code 20 = .ok (.iload_n 0, 1) := by decide +kernel
theorem d1_21 : decode method_4_code 21 = .ok (.bipush 90, 2) := by decide +kernel
theorem d1_23 : decode method_4_code 23 = .ok (.if_icmp .gt 5, 3) := by decide +kernel
theorem d1_26 : decode method_4_code 26 = .ok (.iconst 1, 1) := by decide +kernel
theorem d1_27 : decode method_4_code 27 = .ok (.ireturn, 1) := by decide +kernel
theorem d1_3 : decode method_4_code 3 = .ok (.if_icmp .lt 11, 3) := by decide +kernel
theorem d1_6 : decode method_4_code 6 = .ok (.iload_n 0, 1) := by decide +kernel
theorem d1_7 : decode method_4_code 7 = .ok (.bipush 122, 2) := by decide +kernel
theorem d1_9 : decode method_4_code 9 = .ok (.if_icmp .gt 5, 3) := by decide +kernel
theorem d1_12 : decode method_4_code 12 = .ok (.iconst 1, 1) := by decide +kernel
theorem d1_13 : decode method_4_code 13 = .ok (.ireturn, 1) := by decide +kernel
theorem d2_0 : decode jdk_42_method_152_code 0 = .ok (.getstatic 38, 3) := by decide +kernel
theorem d2_3 : decode jdk_42_method_152_code 3 = .ok (.ifCond .eq 10, 3) := by decide +kernel
theorem d2_6 : decode jdk_42_method_152_code 6 = .ok (.aload_n 0, 1) := by decide +kernel
theorem d2_7 : decode jdk_42_method_152_code 7 = .ok (.getfield 15, 3) := by decide +kernel
theorem d2_10 : decode jdk_42_method_152_code 10 = .ok (.goto 4, 3) := by decide +kernel
theorem d2_14 : decode jdk_42_method_152_code 14 = .ok (.ireturn, 1) := by decide +kernel
theorem pn_1 : plainName "java/lang/String" = true := by first | (simp [plainName, overriddenIn]; done) | decide +kernel
theorem d3_0 : decode jdk_42_method_154_code 0 = .ok (.getstatic 38, 3) := by decide +kernel
theorem d3_3 : decode jdk_42_method_154_code 3 = .ok (.ifCond .eq 14, 3) := by decide +kernel
theorem d3_6 : decode jdk_42_method_154_code 6 = .ok (.aload_n 0, 1) := by decide +kernel
theorem d3_7 : decode jdk_42_method_154_code 7 = .ok (.getfield 15, 3) := by decide +kernel
theorem d3_10 : decode jdk_42_method_154_code 10 = .ok (.ifCond .ne 7, 3) := by decide +kernel
theorem d3_13 : decode jdk_42_method_154_code 13 = .ok (.iconst 1, 1) := by decide +kernel
theorem d3_14 : decode jdk_42_method_154_code 14 = .ok (.goto 4, 3) := by decide +kernel
theorem d3_18 : decode jdk_42_method_154_code 18 = .ok (.ireturn, 1) := by decide +kernel
theorem d3_17 : decode jdk_42_method_154_code 17 = .ok (.iconst 0, 1) := by decide +kernel
theorem d4_0 : decode jdk_42_method_54_code 0 = .ok (.aload_n 0, 1) := by decide +kernel
theorem d4_1 : decode jdk_42_method_54_code 1 = .ok (.getfield 9, 3) := by decide +kernel
theorem d4_4 : decode jdk_42_method_54_code 4 = .ok (.arraylength, 1) := by decide +kernel
theorem d4_5 : decode jdk_42_method_54_code 5 = .ok (.aload_n 0, 1) := by decide +kernel
theorem pd_0 : parseMethodDescriptor "()B" = some ⟨[], some .byte⟩ := by decide +kernel
theorem d4_6 : decode jdk_42_method_54_code 6 = .ok (.invokevirtual 335, 3) := by decide +kernel
theorem d4_9 : decode jdk_42_method_54_code 9 = .ok (.ishr, 1) := by decide +kernel
theorem d4_10 : decode jdk_42_method_54_code 10 = .ok (.ireturn, 1) := by decide +kernel
theorem d5_0 : decode jdk_42_method_55_code 0 = .ok (.aload_n 0, 1) := by decide +kernel
theorem d5_1 : decode jdk_42_method_55_code 1 = .ok (.getfield 9, 3) := by decide +kernel
theorem d5_4 : decode jdk_42_method_55_code 4 = .ok (.arraylength, 1) := by decide +kernel
theorem d5_5 : decode jdk_42_method_55_code 5 = .ok (.ifCond .ne 7, 3) := by decide +kernel
theorem d5_8 : decode jdk_42_method_55_code 8 = .ok (.iconst 1, 1) := by decide +kernel
theorem d5_9 : decode jdk_42_method_55_code 9 = .ok (.goto 4, 3) := by decide +kernel
theorem d5_13 : decode jdk_42_method_55_code 13 = .ok (.ireturn, 1) := by decide +kernel
theorem d5_12 : decode jdk_42_method_55_code 12 = .ok (.iconst 0, 1) := by decide +kernel
theorem d6_0 : decode jdk_29_method_65_code 0 = .ok (.iload_n 0, 1) := by decide +kernel
theorem d6_1 : decode jdk_29_method_65_code 1 = .ok (.iload_n 1, 1) := by decide +kernel
theorem d6_2 : decode jdk_29_method_65_code 2 = .ok (.if_icmp .lt 7, 3) := by decide +kernel
theorem d6_5 : decode jdk_29_method_65_code 5 = .ok (.iload_n 0, 1) := by decide +kernel
theorem d6_6 : decode jdk_29_method_65_code 6 = .ok (.goto 4, 3) := by decide +kernel
theorem d6_10 : decode jdk_29_method_65_code 10 = .ok (.ireturn, 1) := by decide +kernel
theorem d7_0 : decode jdk_29_method_69_code 0 = .ok (.iload_n 0, 1) := by decide +kernel
theorem d7_1 : decode jdk_29_method_69_code 1 = .ok (.iload_n 1, 1) := by decide +kernel
theorem d7_2 : decode jdk_29_method_69_code 2 = .ok (.if_icmp .gt 7, 3) := by decide +kernel
theorem d7_5 : decode jdk_29_method_69_code 5 = .ok (.iload_n 0, 1) := by decide +kernel
theorem d7_6 : decode jdk_29_method_69_code 6 = .ok (.goto 4, 3) := by decide +kernel
theorem d7_10 : decode jdk_29_method_69_code 10 = .ok (.ireturn, 1) := by decide +kernel
theorem d8_0 : decode jdk_43_method_4_code 0 = .ok (.iload_n 0, 1) := by decide +kernel
theorem d8_1 : decode jdk_43_method_4_code 1 = .ok (.ifCond .lt 14, 3) := by decide +kernel
theorem d8_4 : decode jdk_43_method_4_code 4 = .ok (.iload_n 0, 1) := by decide +kernel
theorem d8_5 : decode jdk_43_method_4_code 5 = .ok (.sipush 255, 3) := by decide +kernel
theorem d8_8 : decode jdk_43_method_4_code 8 = .ok (.if_icmp .gt 7, 3) := by decide +kernel
theorem d8_15 : decode jdk_43_method_4_code 15 = .ok (.iconst 0, 1) := by decide +kernel
theorem d8_16 : decode jdk_43_method_4_code 16 = .ok (.ireturn, 1) := by decide +kernel
theorem d8_11 : decode jdk_43_method_4_code 11 = .ok (.iconst 1, 1) := by decide +kernel
theorem d8_12 : decode jdk_43_method_4_code 12 = .ok (.goto 4, 3) := by decide +kernel
theorem pn_2 : plainName "java/lang/StringLatin1" = true := by first | (simp [plainName, overriddenIn]; done) | decide +kernel
theorem d9_0 : decode jdk_43_method_23_code 0 = .ok (.iload_n 1, 1) := by decide +kernel
theorem d9_1 : decode jdk_43_method_23_code 1 = .ok (.i2b, 1) := by decide +kernel
theorem d9_2 : decode jdk_43_method_23_code 2 = .ok (.istore 4, 2) := by decide +kernel
theorem d9_4 : decode jdk_43_method_23_code 4 = .ok (.iload_n 2, 1) := by decide +kernel
theorem d9_5 : decode jdk_43_method_23_code 5 = .ok (.istore 5, 2) := by decide +kernel
theorem d9_7 : decode jdk_43_method_23_code 7 = .ok (.iload 5, 2) := by decide +kernel
theorem d9_9 : decode jdk_43_method_23_code 9 = .ok (.iload_n 3, 1) := by decide +kernel
theorem d9_10 : decode jdk_43_method_23_code 10 = .ok (.if_icmp .ge 21, 3) := by decide +kernel
theorem d9_13 : decode jdk_43_method_23_code 13 = .ok (.aload_n 0, 1) := by decide +kernel
theorem d9_14 : decode jdk_43_method_23_code 14 = .ok (.iload 5, 2) := by decide +kernel
theorem d9_16 : decode jdk_43_method_23_code 16 = .ok (.baload, 1) := by decide +kernel
theorem d9_17 : decode jdk_43_method_23_code 17 = .ok (.iload 4, 2) := by decide +kernel
theorem d9_19 : decode jdk_43_method_23_code 19 = .ok (.if_icmp .ne 6, 3) := by decide +kernel
theorem d9_22 : decode jdk_43_method_23_code 22 = .ok (.iload 5, 2) := by decide +kernel
theorem d9_24 : decode jdk_43_method_23_code 24 = .ok (.ireturn, 1) := by decide +kernel
theorem d9_25 : decode jdk_43_method_23_code 25 = .ok (.iinc 5 1, 3) := by decide +kernel
theorem d9_28 : decode jdk_43_method_23_code 28 = .ok (.goto (-21), 3) := by decide +kernel
theorem d9_31 : decode jdk_43_method_23_code 31 = .ok (.iconst (-1), 1) := by decide +kernel
theorem d9_32 : decode jdk_43_method_23_code 32 = .ok (.ireturn, 1) := by decide +kernel
theorem d10_0 : decode jdk_43_method_22_code 0 = .ok (.iload_n 1, 1) := by decide +kernel
theorem pd_1 : parseMethodDescriptor "(I)Z" = some ⟨[.int], some .boolean⟩ := by decide +kernel
theorem d10_1 : decode jdk_43_method_22_code 1 = .ok (.invokestatic 88, 3) := by decide +kernel
theorem d10_4 : decode jdk_43_method_22_code 4 = .ok (.ifCond .ne 5, 3) := by decide +kernel
theorem d10_9 : decode jdk_43_method_22_code 9 = .ok (.iload_n 2, 1) := by decide +kernel
theorem d10_10 : decode jdk_43_method_22_code 10 = .ok (.iconst 0, 1) := by decide +kernel
theorem pd_2 : parseMethodDescriptor "(II)I" = some ⟨[.int, .int], some .int⟩ := by decide +kernel
theorem d10_11 : decode jdk_43_method_22_code 11 = .ok (.invokestatic 92, 3) := by decide +kernel
theorem d10_14 : decode jdk_43_method_22_code 14 = .ok (.istore_n 2, 1) := by decide +kernel
theorem d10_15 : decode jdk_43_method_22_code 15 = .ok (.iload_n 3, 1) := by decide +kernel
theorem d10_16 : decode jdk_43_method_22_code 16 = .ok (.aload_n 0, 1) := by decide +kernel
theorem d10_17 : decode jdk_43_method_22_code 17 = .ok (.arraylength, 1) := by decide +kernel
theorem d10_18 : decode jdk_43_method_22_code 18 = .ok (.invokestatic 38, 3) := by decide +kernel
theorem d10_21 : decode jdk_43_method_22_code 21 = .ok (.istore_n 3, 1) := by decide +kernel
theorem d10_22 : decode jdk_43_method_22_code 22 = .ok (.iload_n 2, 1) := by decide +kernel
theorem d10_23 : decode jdk_43_method_22_code 23 = .ok (.iload_n 3, 1) := by decide +kernel
theorem d10_24 : decode jdk_43_method_22_code 24 = .ok (.if_icmp .lt 5, 3) := by decide +kernel
theorem d10_29 : decode jdk_43_method_22_code 29 = .ok (.aload_n 0, 1) := by decide +kernel
theorem d10_30 : decode jdk_43_method_22_code 30 = .ok (.iload_n 1, 1) := by decide +kernel
theorem d10_31 : decode jdk_43_method_22_code 31 = .ok (.iload_n 2, 1) := by decide +kernel
theorem d10_32 : decode jdk_43_method_22_code 32 = .ok (.iload_n 3, 1) := by decide +kernel
theorem pd_3 : parseMethodDescriptor "([BIII)I" = some ⟨[(.array .byte), .int, .int, .int], some .int⟩ := by decide +kernel
theorem d10_33 : decode jdk_43_method_22_code 33 = .ok (.invokestatic 95, 3) := by decide +kernel
theorem d10_36 : decode jdk_43_method_22_code 36 = .ok (.ireturn, 1) := by decide +kernel
theorem d10_7 : decode jdk_43_method_22_code 7 = .ok (.iconst (-1), 1) := by decide +kernel
theorem d10_8 : decode jdk_43_method_22_code 8 = .ok (.ireturn, 1) := by decide +kernel
theorem d11_0 : decode jdk_42_method_80_code 0 = .ok (.aload_n 0, 1) := by decide +kernel
theorem pd_4 : parseMethodDescriptor "()Z" = some ⟨[], some .boolean⟩ := by decide +kernel
theorem d11_1 : decode jdk_42_method_80_code 1 = .ok (.invokevirtual 492, 3) := by decide +kernel
theorem d11_4 : decode jdk_42_method_80_code 4 = .ok (.ifCond .eq 19, 3) := by decide +kernel
theorem d11_7 : decode jdk_42_method_80_code 7 = .ok (.aload_n 0, 1) := by decide +kernel
theorem d11_8 : decode jdk_42_method_80_code 8 = .ok (.getfield 9, 3) := by decide +kernel
theorem d11_11 : decode jdk_42_method_80_code 11 = .ok (.iload_n 1, 1) := by decide +kernel
theorem d11_12 : decode jdk_42_method_80_code 12 = .ok (.iload_n 2, 1) := by decide +kernel
theorem d11_13 : decode jdk_42_method_80_code 13 = .ok (.aload_n 0, 1) := by decide +kernel
theorem pd_5 : parseMethodDescriptor "()I" = some ⟨[], some .int⟩ := by decide +kernel
theorem d11_14 : decode jdk_42_method_80_code 14 = .ok (.invokevirtual 505, 3) := by decide +kernel
theorem d11_17 : decode jdk_42_method_80_code 17 = .ok (.invokestatic 637, 3) := by decide +kernel
theorem d11_20 : decode jdk_42_method_80_code 20 = .ok (.goto 16, 3) := by decide +kernel
theorem d11_36 : decode jdk_42_method_80_code 36 = .ok (.ireturn, 1) := by decide +kernel
theorem d12_0 : decode jdk_42_method_79_code 0 = .ok (.aload_n 0, 1) := by decide +kernel
theorem d12_1 : decode jdk_42_method_79_code 1 = .ok (.iload_n 1, 1) := by decide +kernel
theorem d12_2 : decode jdk_42_method_79_code 2 = .ok (.iconst 0, 1) := by decide +kernel
theorem d12_3 : decode jdk_42_method_79_code 3 = .ok (.invokevirtual 633, 3) := by decide +kernel
theorem d12_6 : decode jdk_42_method_79_code 6 = .ok (.ireturn, 1) := by decide +kernel
theorem d13_0 : decode jdk_41_method_11_code 0 = .ok (.iload_n 0, 1) := by decide +kernel
theorem d13_1 : decode jdk_41_method_11_code 1 = .ok (.ifCond .lt 8, 3) := by decide +kernel
theorem d13_4 : decode jdk_41_method_11_code 4 = .ok (.iload_n 0, 1) := by decide +kernel
theorem d13_5 : decode jdk_41_method_11_code 5 = .ok (.iload_n 1, 1) := by decide +kernel
theorem d13_6 : decode jdk_41_method_11_code 6 = .ok (.if_icmp .lt 10, 3) := by decide +kernel
theorem d13_16 : decode jdk_41_method_11_code 16 = .ok (.iload_n 0, 1) := by decide +kernel
theorem d13_17 : decode jdk_41_method_11_code 17 = .ok (.ireturn, 1) := by decide +kernel
theorem pn_3 : plainName "jdk/internal/util/Preconditions" = true := by first | (simp [plainName, overriddenIn]; done) | decide +kernel
theorem d14_0 : decode jdk_42_method_155_code 0 = .ok (.iload_n 0, 1) := by decide +kernel
theorem d14_1 : decode jdk_42_method_155_code 1 = .ok (.iload_n 1, 1) := by decide +kernel
theorem d14_2 : decode jdk_42_method_155_code 2 = .ok (.getstatic 1053, 3) := by decide +kernel
theorem pd_6 : parseMethodDescriptor "(IILjava/util/function/BiFunction;)I" = some ⟨[.int, .int, (.object "java/util/function/BiFunction")], some .int⟩ := by decide +kernel
theorem d14_5 : decode jdk_42_method_155_code 5 = .ok (.invokestatic 1059, 3) := by decide +kernel
theorem d14_8 : decode jdk_42_method_155_code 8 = .ok (.pop, 1) := by decide +kernel
theorem d14_9 : decode jdk_42_method_155_code 9 = .ok (.return_, 1) := by decide +kernel
theorem d15_0 : decode jdk_43_method_2_code 0 = .ok (.iload_n 1, 1) := by decide +kernel
theorem d15_1 : decode jdk_43_method_2_code 1 = .ok (.aload_n 0, 1) := by decide +kernel
theorem d15_2 : decode jdk_43_method_2_code 2 = .ok (.arraylength, 1) := by decide +kernel
theorem pd_7 : parseMethodDescriptor "(II)V" = some ⟨[.int, .int], none⟩ := by decide +kernel
theorem d15_3 : decode jdk_43_method_2_code 3 = .ok (.invokestatic 9, 3) := by decide +kernel
theorem d15_6 : decode jdk_43_method_2_code 6 = .ok (.aload_n 0, 1) := by decide +kernel
theorem d15_7 : decode jdk_43_method_2_code 7 = .ok (.iload_n 1, 1) := by decide +kernel
theorem d15_8 : decode jdk_43_method_2_code 8 = .ok (.baload, 1) := by decide +kernel
theorem d15_9 : decode jdk_43_method_2_code 9 = .ok (.sipush 255, 3) := by decide +kernel
theorem d15_12 : decode jdk_43_method_2_code 12 = .ok (.iand, 1) := by decide +kernel
theorem d15_13 : decode jdk_43_method_2_code 13 = .ok (.i2c, 1) := by decide +kernel
theorem d15_14 : decode jdk_43_method_2_code 14 = .ok (.ireturn, 1) := by decide +kernel
theorem d16_0 : decode jdk_52_method_6_code 0 = .ok (.aload_n 0, 1) := by decide +kernel
theorem d16_1 : decode jdk_52_method_6_code 1 = .ok (.arraylength, 1) := by decide +kernel
theorem d16_2 : decode jdk_52_method_6_code 2 = .ok (.iconst 1, 1) := by decide +kernel
theorem d16_3 : decode jdk_52_method_6_code 3 = .ok (.ishr, 1) := by decide +kernel
theorem d16_4 : decode jdk_52_method_6_code 4 = .ok (.ireturn, 1) := by decide +kernel
theorem pn_4 : plainName "java/lang/StringUTF16" = true := by first | (simp [plainName, overriddenIn]; done) | decide +kernel
theorem d17_0 : decode jdk_52_method_91_code 0 = .ok (.iload_n 0, 1) := by decide +kernel
theorem d17_1 : decode jdk_52_method_91_code 1 = .ok (.aload_n 1, 1) := by decide +kernel
theorem pd_8 : parseMethodDescriptor "([B)I" = some ⟨[(.array .byte)], some .int⟩ := by decide +kernel
theorem d17_2 : decode jdk_52_method_91_code 2 = .ok (.invokestatic 48, 3) := by decide +kernel
theorem d17_5 : decode jdk_52_method_91_code 5 = .ok (.invokestatic 414, 3) := by decide +kernel
theorem d17_8 : decode jdk_52_method_91_code 8 = .ok (.return_, 1) := by decide +kernel
theorem d18_0 : decode jdk_52_method_5_code 0 = .ok (.getstatic 44, 3) := by decide +kernel
theorem d18_3 : decode jdk_52_method_5_code 3 = .ok (.ifCond .ne 25, 3) := by decide +kernel
theorem d18_28 : decode jdk_52_method_5_code 28 = .ok (.iload_n 1, 1) := by decide +kernel
theorem d18_29 : decode jdk_52_method_5_code 29 = .ok (.iconst 1, 1) := by decide +kernel
theorem d18_30 : decode jdk_52_method_5_code 30 = .ok (.ishl, 1) := by decide +kernel
theorem d18_31 : decode jdk_52_method_5_code 31 = .ok (.istore_n 1, 1) := by decide +kernel
theorem d18_32 : decode jdk_52_method_5_code 32 = .ok (.aload_n 0, 1) := by decide +kernel
theorem d18_33 : decode jdk_52_method_5_code 33 = .ok (.iload_n 1, 1) := by decide +kernel
theorem d18_34 : decode jdk_52_method_5_code 34 = .ok (.iinc 1 1, 3) := by decide +kernel
theorem d18_37 : decode jdk_52_method_5_code 37 = .ok (.baload, 1) := by decide +kernel
theorem d18_38 : decode jdk_52_method_5_code 38 = .ok (.sipush 255, 3) := by decide +kernel
theorem d18_41 : decode jdk_52_method_5_code 41 = .ok (.iand, 1) := by decide +kernel
theorem d18_42 : decode jdk_52_method_5_code 42 = .ok (.getstatic 59, 3) := by decide +kernel
theorem d18_45 : decode jdk_52_method_5_code 45 = .ok (.ishl, 1) := by decide +kernel
theorem d18_46 : decode jdk_52_method_5_code 46 = .ok (.aload_n 0, 1) := by decide +kernel
theorem d18_47 : decode jdk_52_method_5_code 47 = .ok (.iload_n 1, 1) := by decide +kernel
theorem d18_48 : decode jdk_52_method_5_code 48 = .ok (.baload, 1) := by decide +kernel
theorem d18_49 : decode jdk_52_method_5_code 49 = .ok (.sipush 255, 3) := by decide +kernel
theorem d18_52 : decode jdk_52_method_5_code 52 = .ok (.iand, 1) := by decide +kernel
theorem d18_53 : decode jdk_52_method_5_code 53 = .ok (.getstatic 63, 3) := by decide +kernel
theorem d18_56 : decode jdk_52_method_5_code 56 = .ok (.ishl, 1) := by decide +kernel
theorem d18_57 : decode jdk_52_method_5_code 57 = .ok (.ior, 1) := by decide +kernel
theorem d18_58 : decode jdk_52_method_5_code 58 = .ok (.i2c, 1) := by decide +kernel
theorem d18_59 : decode jdk_52_method_5_code 59 = .ok (.ireturn, 1) := by decide +kernel
theorem d19_0 : decode jdk_52_method_83_code 0 = .ok (.iload_n 1, 1) := by decide +kernel
theorem d19_1 : decode jdk_52_method_83_code 1 = .ok (.aload_n 0, 1) := by decide +kernel
theorem pd_9 : parseMethodDescriptor "(I[B)V" = some ⟨[.int, (.array .byte)], none⟩ := by decide +kernel
theorem d19_2 : decode jdk_52_method_83_code 2 = .ok (.invokestatic 67, 3) := by decide +kernel
theorem d19_5 : decode jdk_52_method_83_code 5 = .ok (.aload_n 0, 1) := by decide +kernel
theorem d19_6 : decode jdk_52_method_83_code 6 = .ok (.iload_n 1, 1) := by decide +kernel
theorem pd_10 : parseMethodDescriptor "([BI)C" = some ⟨[(.array .byte), .int], some .char⟩ := by decide +kernel
theorem d19_7 : decode jdk_52_method_83_code 7 = .ok (.invokestatic 71, 3) := by decide +kernel
theorem d19_10 : decode jdk_52_method_83_code 10 = .ok (.ireturn, 1) := by decide +kernel
theorem d20_0 : decode jdk_42_method_56_code 0 = .ok (.aload_n 0, 1) := by decide +kernel
theorem d20_1 : decode jdk_42_method_56_code 1 = .ok (.invokevirtual 492, 3) := by decide +kernel
theorem d20_4 : decode jdk_42_method_56_code 4 = .ok (.ifCond .eq 12, 3) := by decide +kernel
theorem d20_7 : decode jdk_42_method_56_code 7 = .ok (.aload_n 0, 1) := by decide +kernel
theorem d20_8 : decode jdk_42_method_56_code 8 = .ok (.getfield 9, 3) := by decide +kernel
theorem d20_11 : decode jdk_42_method_56_code 11 = .ok (.iload_n 1, 1) := by decide +kernel
theorem d20_12 : decode jdk_42_method_56_code 12 = .ok (.invokestatic 495, 3) := by decide +kernel
theorem d20_15 : decode jdk_42_method_56_code 15 = .ok (.ireturn, 1) := by decide +kernel
theorem d20_16 : decode jdk_42_method_56_code 16 = .ok (.aload_n 0, 1) := by decide +kernel
theorem d20_17 : decode jdk_42_method_56_code 17 = .ok (.getfield 9, 3) := by decide +kernel
theorem d20_20 : decode jdk_42_method_56_code 20 = .ok (.iload_n 1, 1) := by decide +kernel
theorem d20_21 : decode jdk_42_method_56_code 21 = .ok (.invokestatic 498, 3) := by decide +kernel
theorem d20_24 : decode jdk_42_method_56_code 24 = .ok (.ireturn, 1) := by decide +kernel
theorem d21_0 : decode jdk_52_method_3_code 0 = .ok (.iload_n 0, 1) := by decide +kernel
theorem d21_1 : decode jdk_52_method_3_code 1 = .ok (.ifCond .ge 11, 3) := by decide +kernel
theorem d21_12 : decode jdk_52_method_3_code 12 = .ok (.iload_n 0, 1) := by decide +kernel
theorem d21_13 : decode jdk_52_method_3_code 13 = .ok (.ldc 20, 2) := by decide +kernel
theorem d21_15 : decode jdk_52_method_3_code 15 = .ok (.if_icmp .lt 40, 3) := by decide +kernel
theorem d21_55 : decode jdk_52_method_3_code 55 = .ok (.iload_n 0, 1) := by decide +kernel
theorem d21_56 : decode jdk_52_method_3_code 56 = .ok (.iconst 1, 1) := by decide +kernel
theorem d21_57 : decode jdk_52_method_3_code 57 = .ok (.ishl, 1) := by decide +kernel
theorem d21_58 : decode jdk_52_method_3_code 58 = .ok (.ireturn, 1) := by decide +kernel
theorem d22_0 : decode jdk_52_method_2_code 0 = .ok (.iload_n 0, 1) := by decide +kernel
theorem pd_11 : parseMethodDescriptor "(I)I" = some ⟨[.int], some .int⟩ := by decide +kernel
theorem d22_1 : decode jdk_52_method_2_code 1 = .ok (.invokestatic 11, 3) := by decide +kernel
theorem d22_4 : decode jdk_52_method_2_code 4 = .ok (.newarray .byte, 2) := by decide +kernel
theorem d22_6 : decode jdk_52_method_2_code 6 = .ok (.areturn, 1) := by decide +kernel
theorem d23_0 : decode jdk_52_method_4_code 0 = .ok (.getstatic 44, 3) := by decide +kernel
theorem d23_3 : decode jdk_52_method_4_code 3 = .ok (.ifCond .ne 25, 3) := by decide +kernel
theorem d23_28 : decode jdk_52_method_4_code 28 = .ok (.iload_n 1, 1) := by decide +kernel
theorem d23_29 : decode jdk_52_method_4_code 29 = .ok (.iconst 1, 1) := by decide +kernel
theorem d23_30 : decode jdk_52_method_4_code 30 = .ok (.ishl, 1) := by decide +kernel
theorem d23_31 : decode jdk_52_method_4_code 31 = .ok (.istore_n 1, 1) := by decide +kernel
theorem d23_32 : decode jdk_52_method_4_code 32 = .ok (.aload_n 0, 1) := by decide +kernel
theorem d23_33 : decode jdk_52_method_4_code 33 = .ok (.iload_n 1, 1) := by decide +kernel
theorem d23_34 : decode jdk_52_method_4_code 34 = .ok (.iinc 1 1, 3) := by decide +kernel
theorem d23_37 : decode jdk_52_method_4_code 37 = .ok (.iload_n 2, 1) := by decide +kernel
theorem d23_38 : decode jdk_52_method_4_code 38 = .ok (.getstatic 59, 3) := by decide +kernel
theorem d23_41 : decode jdk_52_method_4_code 41 = .ok (.ishr, 1) := by decide +kernel
theorem d23_42 : decode jdk_52_method_4_code 42 = .ok (.i2b, 1) := by decide +kernel
theorem d23_43 : decode jdk_52_method_4_code 43 = .ok (.bastore, 1) := by decide +kernel
theorem d23_44 : decode jdk_52_method_4_code 44 = .ok (.aload_n 0, 1) := by decide +kernel
theorem d23_45 : decode jdk_52_method_4_code 45 = .ok (.iload_n 1, 1) := by decide +kernel
theorem d23_46 : decode jdk_52_method_4_code 46 = .ok (.iload_n 2, 1) := by decide +kernel
theorem d23_47 : decode jdk_52_method_4_code 47 = .ok (.getstatic 63, 3) := by decide +kernel
theorem d23_50 : decode jdk_52_method_4_code 50 = .ok (.ishr, 1) := by decide +kernel
theorem d23_51 : decode jdk_52_method_4_code 51 = .ok (.i2b, 1) := by decide +kernel
theorem d23_52 : decode jdk_52_method_4_code 52 = .ok (.bastore, 1) := by decide +kernel
theorem d23_53 : decode jdk_52_method_4_code 53 = .ok (.return_, 1) := by decide +kernel
theorem d24_0 : decode jdk_52_method_14_code 0 = .ok (.iload_n 2, 1) := by decide +kernel
theorem pd_12 : parseMethodDescriptor "(I)[B" = some ⟨[.int], some (.array .byte)⟩ := by decide +kernel
theorem d24_1 : decode jdk_52_method_14_code 1 = .ok (.invokestatic 107, 3) := by decide +kernel
theorem d24_4 : decode jdk_52_method_14_code 4 = .ok (.astore_n 3, 1) := by decide +kernel
theorem d24_5 : decode jdk_52_method_14_code 5 = .ok (.iconst 0, 1) := by decide +kernel
theorem d24_6 : decode jdk_52_method_14_code 6 = .ok (.istore 4, 2) := by decide +kernel
theorem d24_8 : decode jdk_52_method_14_code 8 = .ok (.iload 4, 2) := by decide +kernel
theorem d24_10 : decode jdk_52_method_14_code 10 = .ok (.iload_n 2, 1) := by decide +kernel
theorem d24_11 : decode jdk_52_method_14_code 11 = .ok (.if_icmp .ge 21, 3) := by decide +kernel
theorem d24_14 : decode jdk_52_method_14_code 14 = .ok (.aload_n 3, 1) := by decide +kernel
theorem d24_15 : decode jdk_52_method_14_code 15 = .ok (.iload 4, 2) := by decide +kernel
theorem d24_17 : decode jdk_52_method_14_code 17 = .ok (.aload_n 0, 1) := by decide +kernel
theorem d24_18 : decode jdk_52_method_14_code 18 = .ok (.iload_n 1, 1) := by decide +kernel
theorem d24_19 : decode jdk_52_method_14_code 19 = .ok (.caload, 1) := by decide +kernel
theorem pd_13 : parseMethodDescriptor "([BII)V" = some ⟨[(.array .byte), .int, .int], none⟩ := by decide +kernel
theorem d24_20 : decode jdk_52_method_14_code 20 = .ok (.invokestatic 111, 3) := by decide +kernel
theorem d24_23 : decode jdk_52_method_14_code 23 = .ok (.iinc 1 1, 3) := by decide +kernel
theorem d24_26 : decode jdk_52_method_14_code 26 = .ok (.iinc 4 1, 3) := by decide +kernel
theorem d24_29 : decode jdk_52_method_14_code 29 = .ok (.goto (-21), 3) := by decide +kernel
theorem d24_32 : decode jdk_52_method_14_code 32 = .ok (.aload_n 3, 1) := by decide +kernel
theorem d24_33 : decode jdk_52_method_14_code 33 = .ok (.areturn, 1) := by decide +kernel
theorem d25_0 : decode jdk_52_method_21_code 0 = .ok (.iconst 0, 1) := by decide +kernel
theorem d25_1 : decode jdk_52_method_21_code 1 = .ok (.istore 5, 2) := by decide +kernel
theorem d25_3 : decode jdk_52_method_21_code 3 = .ok (.iload 5, 2) := by decide +kernel
theorem d25_5 : decode jdk_52_method_21_code 5 = .ok (.iload 4, 2) := by decide +kernel
theorem d25_7 : decode jdk_52_method_21_code 7 = .ok (.if_icmp .ge 37, 3) := by decide +kernel
theorem d25_10 : decode jdk_52_method_21_code 10 = .ok (.aload_n 0, 1) := by decide +kernel
theorem d25_11 : decode jdk_52_method_21_code 11 = .ok (.iload_n 1, 1) := by decide +kernel
theorem d25_12 : decode jdk_52_method_21_code 12 = .ok (.caload, 1) := by decide +kernel
theorem d25_13 : decode jdk_52_method_21_code 13 = .ok (.istore 6, 2) := by decide +kernel
theorem d25_15 : decode jdk_52_method_21_code 15 = .ok (.iload 6, 2) := by decide +kernel
theorem d25_17 : decode jdk_52_method_21_code 17 = .ok (.sipush 255, 3) := by decide +kernel
theorem d25_20 : decode jdk_52_method_21_code 20 = .ok (.if_icmp .le 6, 3) := by decide +kernel
theorem d25_23 : decode jdk_52_method_21_code 23 = .ok (.iload 5, 2) := by decide +kernel
theorem d25_25 : decode jdk_52_method_21_code 25 = .ok (.ireturn, 1) := by decide +kernel
theorem d25_26 : decode jdk_52_method_21_code 26 = .ok (.aload_n 2, 1) := by decide +kernel
theorem d25_27 : decode jdk_52_method_21_code 27 = .ok (.iload_n 3, 1) := by decide +kernel
theorem d25_28 : decode jdk_52_method_21_code 28 = .ok (.iload 6, 2) := by decide +kernel
theorem d25_30 : decode jdk_52_method_21_code 30 = .ok (.i2b, 1) := by decide +kernel
theorem d25_31 : decode jdk_52_method_21_code 31 = .ok (.bastore, 1) := by decide +kernel
theorem d25_32 : decode jdk_52_method_21_code 32 = .ok (.iinc 1 1, 3) := by decide +kernel
theorem d25_35 : decode jdk_52_method_21_code 35 = .ok (.iinc 3 1, 3) := by decide +kernel
theorem d25_38 : decode jdk_52_method_21_code 38 = .ok (.iinc 5 1, 3) := by decide +kernel
theorem d25_41 : decode jdk_52_method_21_code 41 = .ok (.goto (-38), 3) := by decide +kernel
theorem d25_44 : decode jdk_52_method_21_code 44 = .ok (.iload 4, 2) := by decide +kernel
theorem d25_46 : decode jdk_52_method_21_code 46 = .ok (.ireturn, 1) := by decide +kernel
theorem d26_0 : decode jdk_52_method_16_code 0 = .ok (.iload_n 2, 1) := by decide +kernel
theorem d26_1 : decode jdk_52_method_16_code 1 = .ok (.newarray .byte, 2) := by decide +kernel
theorem d26_3 : decode jdk_52_method_16_code 3 = .ok (.astore_n 3, 1) := by decide +kernel
theorem d26_4 : decode jdk_52_method_16_code 4 = .ok (.aload_n 0, 1) := by decide +kernel
theorem d26_5 : decode jdk_52_method_16_code 5 = .ok (.iload_n 1, 1) := by decide +kernel
theorem d26_6 : decode jdk_52_method_16_code 6 = .ok (.aload_n 3, 1) := by decide +kernel
theorem d26_7 : decode jdk_52_method_16_code 7 = .ok (.iconst 0, 1) := by decide +kernel
theorem d26_8 : decode jdk_52_method_16_code 8 = .ok (.iload_n 2, 1) := by decide +kernel
theorem pd_14 : parseMethodDescriptor "([CI[BII)I" = some ⟨[(.array .char), .int, (.array .byte), .int, .int], some .int⟩ := by decide +kernel
theorem d26_9 : decode jdk_52_method_16_code 9 = .ok (.invokestatic 115, 3) := by decide +kernel
theorem d26_12 : decode jdk_52_method_16_code 12 = .ok (.istore 4, 2) := by decide +kernel
theorem d26_14 : decode jdk_52_method_16_code 14 = .ok (.iload 4, 2) := by decide +kernel
theorem d26_16 : decode jdk_52_method_16_code 16 = .ok (.iload_n 2, 1) := by decide +kernel
theorem d26_17 : decode jdk_52_method_16_code 17 = .ok (.if_icmp .eq 40, 3) := by decide +kernel
theorem d26_57 : decode jdk_52_method_16_code 57 = .ok (.aload_n 3, 1) := by decide +kernel
theorem d26_58 : decode jdk_52_method_16_code 58 = .ok (.areturn, 1) := by decide +kernel
theorem d26_20 : decode jdk_52_method_16_code 20 = .ok (.aload_n 0, 1) := by decide +kernel
theorem d26_21 : decode jdk_52_method_16_code 21 = .ok (.iload_n 1, 1) := by decide +kernel
theorem d26_22 : decode jdk_52_method_16_code 22 = .ok (.iload_n 2, 1) := by decide +kernel
theorem pd_15 : parseMethodDescriptor "([CII)[B" = some ⟨[(.array .char), .int, .int], some (.array .byte)⟩ := by decide +kernel
theorem d26_23 : decode jdk_52_method_16_code 23 = .ok (.invokestatic 119, 3) := by decide +kernel
theorem d26_26 : decode jdk_52_method_16_code 26 = .ok (.astore 5, 2) := by decide +kernel
theorem d26_28 : decode jdk_52_method_16_code 28 = .ok (.aload 5, 2) := by decide +kernel
theorem d26_30 : decode jdk_52_method_16_code 30 = .ok (.iload 4, 2) := by decide +kernel
theorem d26_32 : decode jdk_52_method_16_code 32 = .ok (.invokestatic 71, 3) := by decide +kernel
theorem d26_35 : decode jdk_52_method_16_code 35 = .ok (.sipush 255, 3) := by decide +kernel
theorem d26_38 : decode jdk_52_method_16_code 38 = .ok (.if_icmp .gt 16, 3) := by decide +kernel
theorem d26_54 : decode jdk_52_method_16_code 54 = .ok (.aload 5, 2) := by decide +kernel
theorem d26_56 : decode jdk_52_method_16_code 56 = .ok (.areturn, 1) := by decide +kernel
theorem d27_0 : decode jdk_52_method_15_code 0 = .ok (.iload_n 1, 1) := by decide +kernel
theorem d27_1 : decode jdk_52_method_15_code 1 = .ok (.aload_n 0, 1) := by decide +kernel
theorem d27_2 : decode jdk_52_method_15_code 2 = .ok (.arraylength, 1) := by decide +kernel
theorem d27_3 : decode jdk_52_method_15_code 3 = .ok (.isub, 1) := by decide +kernel
theorem d27_4 : decode jdk_52_method_15_code 4 = .ok (.bipush 31, 2) := by decide +kernel
theorem d27_6 : decode jdk_52_method_15_code 6 = .ok (.iushr, 1) := by decide +kernel
theorem d27_7 : decode jdk_52_method_15_code 7 = .ok (.i2b, 1) := by decide +kernel
theorem d27_8 : decode jdk_52_method_15_code 8 = .ok (.ireturn, 1) := by decide +kernel
theorem d28_0 : decode jdk_42_method_149_code 0 = .ok (.aload_n 0, 1) := by decide +kernel
theorem d28_1 : decode jdk_42_method_149_code 1 = .ok (.invokespecial 1, 3) := by decide +kernel
theorem d28_4 : decode jdk_42_method_149_code 4 = .ok (.iload_n 3, 1) := by decide +kernel
theorem d28_5 : decode jdk_42_method_149_code 5 = .ok (.ifCond .ne 22, 3) := by decide +kernel
theorem d28_8 : decode jdk_42_method_149_code 8 = .ok (.aload_n 0, 1) := by decide +kernel
theorem d28_9 : decode jdk_42_method_149_code 9 = .ok (.ldc 7, 2) := by decide +kernel
theorem d28_11 : decode jdk_42_method_149_code 11 = .ok (.getfield 9, 3) := by decide +kernel
theorem d28_14 : decode jdk_42_method_149_code 14 = .ok (.putfield 9, 3) := by decide +kernel
theorem d28_17 : decode jdk_42_method_149_code 17 = .ok (.aload_n 0, 1) := by decide +kernel
theorem d28_18 : decode jdk_42_method_149_code 18 = .ok (.ldc 7, 2) := by decide +kernel
theorem d28_20 : decode jdk_42_method_149_code 20 = .ok (.getfield 15, 3) := by decide +kernel
theorem d28_23 : decode jdk_42_method_149_code 23 = .ok (.putfield 15, 3) := by decide +kernel
theorem d28_26 : decode jdk_42_method_149_code 26 = .ok (.return_, 1) := by decide +kernel
theorem d29_0 : decode jdk_42_method_3_code 0 = .ok (.aload_n 0, 1) := by decide +kernel
theorem d29_1 : decode jdk_42_method_3_code 1 = .ok (.aload_n 1, 1) := by decide +kernel
theorem d29_2 : decode jdk_42_method_3_code 2 = .ok (.iconst 0, 1) := by decide +kernel
theorem d29_3 : decode jdk_42_method_3_code 3 = .ok (.aload_n 1, 1) := by decide +kernel
theorem d29_4 : decode jdk_42_method_3_code 4 = .ok (.arraylength, 1) := by decide +kernel
theorem d29_5 : decode jdk_42_method_3_code 5 = .ok (.aconst_null, 1) := by decide +kernel
theorem pd_16 : parseMethodDescriptor "([CIILjava/lang/Void;)V" = some ⟨[(.array .char), .int, .int, (.object "java/lang/Void")], none⟩ := by decide +kernel
theorem d29_6 : decode jdk_42_method_3_code 6 = .ok (.invokespecial 27, 3) := by decide +kernel
theorem d29_9 : decode jdk_42_method_3_code 9 = .ok (.return_, 1) := by decide +kernel
theorem d28_27 : decode jdk_42_method_149_code 27 = .ok (.getstatic 38, 3) := by decide +kernel
theorem d28_30 : decode jdk_42_method_149_code 30 = .ok (.ifCond .eq 28, 3) := by decide +kernel
theorem d28_33 : decode jdk_42_method_149_code 33 = .ok (.aload_n 1, 1) := by decide +kernel
theorem d28_34 : decode jdk_42_method_149_code 34 = .ok (.iload_n 2, 1) := by decide +kernel
theorem d28_35 : decode jdk_42_method_149_code 35 = .ok (.iload_n 3, 1) := by decide +kernel
theorem d28_36 : decode jdk_42_method_149_code 36 = .ok (.invokestatic 177, 3) := by decide +kernel
theorem d28_39 : decode jdk_42_method_149_code 39 = .ok (.astore 5, 2) := by decide +kernel
theorem d28_41 : decode jdk_42_method_149_code 41 = .ok (.aload_n 0, 1) := by decide +kernel
theorem d28_42 : decode jdk_42_method_149_code 42 = .ok (.aload 5, 2) := by decide +kernel
theorem d28_44 : decode jdk_42_method_149_code 44 = .ok (.iload_n 3, 1) := by decide +kernel
theorem pd_17 : parseMethodDescriptor "([BI)B" = some ⟨[(.array .byte), .int], some .byte⟩ := by decide +kernel
theorem d28_45 : decode jdk_42_method_149_code 45 = .ok (.invokestatic 47, 3) := by decide +kernel
theorem d28_48 : decode jdk_42_method_149_code 48 = .ok (.putfield 15, 3) := by decide +kernel
theorem d28_51 : decode jdk_42_method_149_code 51 = .ok (.aload_n 0, 1) := by decide +kernel
theorem d28_52 : decode jdk_42_method_149_code 52 = .ok (.aload 5, 2) := by decide +kernel
theorem d28_54 : decode jdk_42_method_149_code 54 = .ok (.putfield 9, 3) := by decide +kernel
theorem d28_57 : decode jdk_42_method_149_code 57 = .ok (.return_, 1) := by decide +kernel
theorem d30_0 : decode prog_69_method_11_code 0 = .ok (.aload_n 0, 1) := by decide +kernel
theorem d30_1 : decode prog_69_method_11_code 1 = .ok (.invokevirtual 171, 3) := by decide +kernel
theorem d30_4 : decode prog_69_method_11_code 4 = .ok (.ifCond .ne 7, 3) := by decide +kernel
theorem d30_11 : decode prog_69_method_11_code 11 = .ok (.iconst 0, 1) := by decide +kernel
theorem d30_12 : decode prog_69_method_11_code 12 = .ok (.istore_n 1, 1) := by decide +kernel
theorem d30_13 : decode prog_69_method_11_code 13 = .ok (.iconst 0, 1) := by decide +kernel
theorem d30_14 : decode prog_69_method_11_code 14 = .ok (.istore_n 2, 1) := by decide +kernel
theorem d30_15 : decode prog_69_method_11_code 15 = .ok (.iload_n 1, 1) := by decide +kernel
theorem d30_16 : decode prog_69_method_11_code 16 = .ok (.ifCond .eq 74, 3) := by decide +kernel
theorem d30_90 : decode prog_69_method_11_code 90 = .ok (.iload_n 1, 1) := by decide +kernel
theorem d30_91 : decode prog_69_method_11_code 91 = .ok (.ireturn, 1) := by decide +kernel
theorem pn_5 : plainName "com/example/gate_to_handlers/gatetohandlers/MediaType" = true := by first | (simp [plainName, overriddenIn]; done) | decide +kernel
theorem d30_7 : decode prog_69_method_11_code 7 = .ok (.iconst 1, 1) := by decide +kernel
theorem d30_8 : decode prog_69_method_11_code 8 = .ok (.goto 4, 3) := by decide +kernel
theorem d30_19 : decode prog_69_method_11_code 19 = .ok (.iload_n 2, 1) := by decide +kernel
theorem d30_20 : decode prog_69_method_11_code 20 = .ok (.aload_n 0, 1) := by decide +kernel
theorem d30_21 : decode prog_69_method_11_code 21 = .ok (.invokevirtual 196, 3) := by decide +kernel
theorem d30_24 : decode prog_69_method_11_code 24 = .ok (.if_icmp .ge 66, 3) := by decide +kernel
theorem d30_27 : decode prog_69_method_11_code 27 = .ok (.aload_n 0, 1) := by decide +kernel
theorem d30_28 : decode prog_69_method_11_code 28 = .ok (.iload_n 2, 1) := by decide +kernel
theorem pd_18 : parseMethodDescriptor "(I)C" = some ⟨[.int], some .char⟩ := by decide +kernel
theorem d30_29 : decode prog_69_method_11_code 29 = .ok (.invokevirtual 199, 3) := by decide +kernel
theorem d30_32 : decode prog_69_method_11_code 32 = .ok (.istore_n 3, 1) := by decide +kernel
theorem d30_33 : decode prog_69_method_11_code 33 = .ok (.iload_n 3, 1) := by decide +kernel
theorem d30_34 : decode prog_69_method_11_code 34 = .ok (.bipush 97, 2) := by decide +kernel
theorem d30_45 : decode prog_69_method_11_code 45 = .ok (.iload_n 3, 1) := by decide +kernel
theorem d30_46 : decode prog_69_method_11_code 46 = .ok (.bipush 65, 2) := by decide +kernel
theorem d30_57 : decode prog_69_method_11_code 57 = .ok (.iload_n 3, 1) := by decide +kernel
theorem d30_58 : decode prog_69_method_11_code 58 = .ok (.bipush 48, 2) := by decide +kernel
theorem d30_69 : decode prog_69_method_11_code 69 = .ok (.ldc 215, 2) := by decide +kernel
theorem d30_71 : decode prog_69_method_11_code 71 = .ok (.iload_n 3, 1) := by decide +kernel
theorem d30_72 : decode prog_69_method_11_code 72 = .ok (.invokevirtual 136, 3) := by decide +kernel
theorem d30_75 : decode prog_69_method_11_code 75 = .ok (.ifCond .lt 7, 3) := by decide +kernel
theorem d30_82 : decode prog_69_method_11_code 82 = .ok (.iconst 0, 1) := by decide +kernel
theorem d30_83 : decode prog_69_method_11_code 83 = .ok (.istore_n 1, 1) := by decide +kernel
theorem d30_84 : decode prog_69_method_11_code 84 = .ok (.iinc 2 1, 3) := by decide +kernel
theorem d30_87 : decode prog_69_method_11_code 87 = .ok (.goto (-72), 3) := by decide +kernel
theorem d30_78 : decode prog_69_method_11_code 78 = .ok (.iconst 1, 1) := by decide +kernel
theorem d30_79 : decode prog_69_method_11_code 79 = .ok (.goto 4, 3) := by decide +kernel
theorem d30_60 : decode prog_69_method_11_code 60 = .ok (.if_icmp .lt 9, 3) := by decide +kernel
theorem d30_63 : decode prog_69_method_11_code 63 = .ok (.iload_n 3, 1) := by decide +kernel
theorem d30_64 : decode prog_69_method_11_code 64 = .ok (.bipush 57, 2) := by decide +kernel
theorem d30_66 : decode prog_69_method_11_code 66 = .ok (.if_icmp .le 12, 3) := by decide +kernel
theorem d30_48 : decode prog_69_method_11_code 48 = .ok (.if_icmp .lt 9, 3) := by decide +kernel
theorem d30_51 : decode prog_69_method_11_code 51 = .ok (.iload_n 3, 1) := by decide +kernel
theorem d30_52 : decode prog_69_method_11_code 52 = .ok (.bipush 90, 2) := by decide +kernel
theorem d30_54 : decode prog_69_method_11_code 54 = .ok (.if_icmp .le 24, 3) := by decide +kernel
theorem d30_36 : decode prog_69_method_11_code 36 = .ok (.if_icmp .lt 9, 3) := by decide +kernel
theorem d30_39 : decode prog_69_method_11_code 39 = .ok (.iload_n 3, 1) := by decide +kernel
theorem d30_40 : decode prog_69_method_11_code 40 = .ok (.bipush 122, 2) := by decide +kernel
theorem d30_42 : decode prog_69_method_11_code 42 = .ok (.if_icmp .le 36, 3) := by decide +kernel
theorem pd_19 : parseMethodDescriptor "([C)V" = some ⟨[(.array .char)], none⟩ := by decide +kernel
theorem pd_20 : parseMethodDescriptor "(Ljava/lang/String;)Z" = some ⟨[(.object "java/lang/String")], some .boolean⟩ := by decide +kernel
theorem pd_21 : parseMethodDescriptor "(C)Z" = some ⟨[.char], some .boolean⟩ := by decide +kernel
abbrev EL : List (String × Nat) := [("com/example/gate_to_handlers/gatetohandlers/MediaType", 215), ("java/lang/String", 7)]
theorem elA {Z : State} {a0 : Array Value} (H : Ev Z a0) : EW Z a0 EL := (EW.cons (H.1 _ (List.mem_of_getElem? (i := 83) rfl)) (by decide) (EW.cons (H.1 _ (List.mem_of_getElem? (i := 20) rfl)) (by decide) EW.nil))
theorem strsA {Z : State} {a0 : Array Value} (H : Ev Z a0) : ∀ d ∈ Bundle.stringAtoms, d.before a0 Z = true := fun d hd => H.1 d ((by decide +kernel : ∀ d ∈ Bundle.stringAtoms, d ∈ tables_1) d hd)
/-! Strings of chars 0 to 255 -/
def StrA (Z : State) (h : Heap) (x : Addr) (cs : List Int32) : Prop := Exa Z h x "java/lang/String" ∧ Fld Z h x "java/lang/String" "coder" "B" (.int 0) ∧ (∃ (t : Addr) (kb : ClassId), Fld Z h x "java/lang/String" "value" "[B" (.ref t) ∧ Arv Z h t kb .byte (Int32.ofNat cs.length) ((cs.map fun c => c.toInt8.toInt32).map Value.int) (.int 0)) ∧ (∀ c ∈ cs, ¬ c < 0 ∧ ¬ (255 : Int32) < c) ∧ cs.length ≤ 4000
theorem StrA.ext {Z : State} {h h' : Heap} {x : Addr} {cs : List Int32} (F : StrA Z h x cs) (E : Ext h h') : StrA Z h' x cs := by
  obtain ⟨h1, h2, ⟨t, kb, h3, h4⟩, h5⟩ := F
  exact ⟨h1.ext E, h2.ext E, ⟨t, kb, h3.ext E, h4.ext E⟩, h5⟩
theorem StrA.keepO {Z : State} {h h' : Heap} {x a : Addr} {cs : List Int32} {C : String} {q : Nat} {a0 : Array Value} (F : StrA Z h x cs) (K : Keep h h' [a]) (E : Exa Z h a C) (hC : C ≠ "java/lang/String") (wi : (Cond.instantiable C q).before a0 Z = true) : StrA Z h' x cs := by
  obtain ⟨h1, h2, ⟨t, kb, h3, h4⟩, h5⟩ := F
  have n1 : x ∉ [a] := ninS (fun e => ne_exa E h1 hC e.symm) nin0
  have n2 : t ∉ [a] := ninS (Ne.symm (Exa.neArv E h4 wi)) nin0
  exact ⟨h1.keep K, h2.keep K n1, ⟨t, kb, h3.keep K n1, h4.keep K n2⟩, h5⟩
theorem StrA.lt {Z : State} {h : Heap} {x : Addr} {cs : List Int32} (F : StrA Z h x cs) : x < h.size := F.1.lt
theorem lo8_inj {x y : Int32} (hx : ¬ x < 0 ∧ ¬ (255 : Int32) < x) (hy : ¬ y < 0 ∧ ¬ (255 : Int32) < y) (h : x.toInt8.toInt32 = y.toInt8.toInt32) : x = y := by
  have a := c_i2b x; have b := c_i2b y; have e : (255 : Int32).toInt = 255 := rfl; have e0 : (0 : Int32).toInt = 0 := rfl
  simp only [Int32.lt_iff_toInt_lt] at hx hy
  rw [h] at a
  exact i32e (by omega)
theorem map_inj8 : ∀ (cs ds : List Int32), (∀ c ∈ cs, ¬ c < 0 ∧ ¬ (255 : Int32) < c) → (∀ c ∈ ds, ¬ c < 0 ∧ ¬ (255 : Int32) < c) → (cs.map fun c => c.toInt8.toInt32) = (ds.map fun c => c.toInt8.toInt32) → cs = ds
  | [], [], _, _, _ => rfl
  | [], _ :: _, _, _, h => by simp at h
  | _ :: _, [], _, _, h => by simp at h
  | c :: cs, d :: ds, hc, hd, h => by
    simp only [List.map_cons, List.cons.injEq] at h
    rw [lo8_inj (hc c (List.mem_cons_self ..)) (hd d (List.mem_cons_self ..)) h.1, map_inj8 cs ds (fun x hx => hc x (List.mem_cons_of_mem _ hx)) (fun x hx => hd x (List.mem_cons_of_mem _ hx)) h.2]
theorem n32' {n : Nat} (h : n ≤ 4000) : (Int32.ofNat n).toNatClampNeg = n := by
  have q : n.toInt32.toInt = n := len_toInt (by omega)
  show (Int32.ofNat n).toInt.toNat = n
  have r : (Int32.ofNat n).toInt = n := q
  rw [r]; rfl
theorem StrA.inj {Z : State} {h : Heap} {x : Addr} {cs ds : List Int32} (F : StrA Z h x cs) (G : StrA Z h x ds) : cs = ds := by
  obtain ⟨-, -, ⟨t, kb, h3, c, A, -, S, -, H, -⟩, h5, h6⟩ := F
  obtain ⟨-, -, ⟨t', kb', g3, c', A', -, S', -, H', -⟩, g5, g6⟩ := G
  have et : t = t' := by
    apply Decidable.byContradiction; intro q
    exact Fld.ne h3 g3 (fun e => q (by injection e)) rfl
  subst et
  cases A.1.symm.trans A'.1
  rw [n32' h6] at S; rw [n32' g6] at S'
  have el : cs.length = ds.length := S.symm.trans S'
  apply map_inj8 cs ds h5 g5
  apply List.ext_getElem (by simp [el])
  intro i hi hi'
  simp only [List.length_map] at hi hi'
  have a := H i (by omega); have b := H' i (by omega)
  rw [a] at b
  simpa [List.getD_eq_getElem?_getD, hi, hi'] using b
section StrPay
variable {l : Launch} {R : Room} {p : Program} {e : Env} {below : List Frame} {s : State} {args : Array Value} {Z : State} {a0 : Array Value} {h : Heap} {n0 Wd : Nat} {vm0 : Vm}
end StrPay
def R16 (c : Int32) : Prop := ¬ c < 0 ∧ ¬ (65535 : Int32) < c
theorem r16n (y : Int32) : R16 (nar .char y) := by
  have r := c_i2c y; have e : (65535 : Int32).toInt = 65535 := rfl; have e0 : (0 : Int32).toInt = 0 := rfl
  show ¬ y.toUInt32.toUInt16.toUInt32.toInt32 < 0 ∧ ¬ (65535 : Int32) < y.toUInt32.toUInt16.toUInt32.toInt32
  rw [Int32.lt_iff_toInt_lt, Int32.lt_iff_toInt_lt]; omega
theorem R16.nar {c : Int32} (h : R16 c) : nar .char c = c := by
  have r := c_i2c c; have e : (65535 : Int32).toInt = 65535 := rfl; have e0 : (0 : Int32).toInt = 0 := rfl
  obtain ⟨h1, h2⟩ := h; rw [Int32.lt_iff_toInt_lt] at h1 h2
  exact i32e (by show c.toUInt32.toUInt16.toUInt32.toInt32.toInt = c.toInt; omega)
abbrev LITS : List Int32 := [(33 : Int32), (35 : Int32), (36 : Int32), (37 : Int32), (38 : Int32), (39 : Int32), (42 : Int32), (43 : Int32), (45 : Int32), (46 : Int32), (94 : Int32), (95 : Int32), (96 : Int32), (124 : Int32), (126 : Int32)]
def tokP (c : Int32) : Prop := (¬ c < (97 : Int32) ∧ ¬ (122 : Int32) < c) ∨ (¬ c < (65 : Int32) ∧ ¬ (90 : Int32) < c) ∨ (¬ c < (48 : Int32) ∧ ¬ (57 : Int32) < c) ∨ c ∈ LITS
theorem nn0 {c : Int32} : c ∉ ([] : List Int32) := fun h => nomatch h
theorem nnS {c k : Int32} {L : List Int32} (h : ¬ c = k) (r : c ∉ L) : c ∉ k :: L := fun m => (List.mem_cons.mp m).elim h r
theorem symI {c k : Int32} (h : c = k) (m : k ∈ LITS) : c ∈ LITS := by rw [h]; exact m
theorem symB {c : Int32} (h : (255 : Int32) < c) : c ∉ LITS := fun m => (by decide : ∀ x ∈ LITS, ¬ (255 : Int32) < x) c m h
theorem i8e {c k : Int32} (hc : ¬ c < 0 ∧ ¬ (255 : Int32) < c) (hk : 0 ≤ k.toInt ∧ k.toInt < 128) (h : k = c.toInt8.toInt32) : c = k := by
  have a := c_i2b c; have e : (255 : Int32).toInt = 255 := rfl; have e0 : (0 : Int32).toInt = 0 := rfl
  obtain ⟨h1, h2⟩ := hc; rw [Int32.lt_iff_toInt_lt] at h1 h2
  rw [← h] at a
  exact i32e (by omega)
theorem i8n {c k : Int32} (hk : k = k.toInt8.toInt32) (h : ¬ k = c.toInt8.toInt32) : ¬ c = k := fun q => h (by rw [q]; exact hk)
theorem shl1 {j : Nat} (h : j < 4) : Int32.ofNat j <<< ((1 : Int32) &&& 31) = Int32.ofNat (2 * j) := by
  match j, h with
  | 0, _ => rfl
  | 1, _ => rfl
  | 2, _ => rfl
  | 3, _ => rfl
/-- the bytes of a Latin-1 and of a wide String -/
def lo8 (c : Int32) : Value := .int (nar .byte (c.toInt8.toInt32))
def hi8 (c : Int32) : Value := .int (nar .byte ((c >>> ((8 : Int32) &&& 31)).toInt8.toInt32))
def wid : List Int32 → List Value
  | [] => []
  | c :: cs => lo8 c :: hi8 c :: wid cs
def lat (cs : List Int32) : List Value := cs.map lo8
theorem wid_lo : ∀ (cs : List Int32) (j : Nat) (d : Value), j < cs.length → (wid cs).getD (2 * j) d = lo8 (cs.getD j 0)
  | [], _, _, h => absurd h (Nat.not_lt_zero _)
  | _ :: _, 0, _, _ => rfl
  | _ :: cs, j + 1, d, h => by
    have q := wid_lo cs j d (by simpa using h)
    rw [show 2 * (j + 1) = 2 * j + 2 from by omega]
    simpa [wid, List.getD_cons_succ] using q
theorem wid_hi : ∀ (cs : List Int32) (j : Nat) (d : Value), j < cs.length → (wid cs).getD (2 * j + 1) d = hi8 (cs.getD j 0)
  | [], _, _, h => absurd h (Nat.not_lt_zero _)
  | _ :: _, 0, _, _ => rfl
  | _ :: cs, j + 1, d, h => by
    have q := wid_hi cs j d (by simpa using h)
    rw [show 2 * (j + 1) + 1 = 2 * j + 1 + 2 from by omega]
    simpa [wid, List.getD_cons_succ] using q
theorem lat_at : ∀ (cs : List Int32) (j : Nat) (d : Value), j < cs.length → (lat cs).getD j d = lo8 (cs.getD j 0)
  | [], _, _, h => absurd h (Nat.not_lt_zero _)
  | _ :: _, 0, _, _ => rfl
  | _ :: cs, j + 1, d, h => by
    have q := lat_at cs j d (by simpa using h)
    simpa [lat, List.getD_cons_succ] using q
theorem mix8 {c : Int32} (h : ¬ c < 0 ∧ ¬ (255 : Int32) < c) : nar .char (((nar .byte (c.toInt8.toInt32)) &&& (255 : Int32)).toUInt32.toUInt16.toUInt32.toInt32) = c := by
  have a := c_i2b c; have b := c_i2b c.toInt8.toInt32; have e : (255 : Int32).toInt = 255 := rfl; have e0 : (0 : Int32).toInt = 0 := rfl
  obtain ⟨h1, h2⟩ := h; rw [Int32.lt_iff_toInt_lt] at h1 h2
  rw [c8n]
  have m := c_mask (nar .byte (c.toInt8.toInt32)) 255 8 (by decide) (by decide)
  have n : (nar .byte (c.toInt8.toInt32)) = c.toInt8.toInt32.toInt8.toInt32 := rfl
  rw [n] at m ⊢
  exact i32e (by omega)
theorem mix16 {c : Int32} (h : R16 c) : nar .char (((((nar .byte (c.toInt8.toInt32)) &&& (255 : Int32))) ||| (((nar .byte ((c >>> ((8 : Int32) &&& 31)).toInt8.toInt32)) &&& (255 : Int32)) <<< ((8 : Int32) &&& 31))).toUInt32.toUInt16.toUInt32.toInt32) = c := by
  have a := c_i2b c; have b := c_i2b c.toInt8.toInt32; have e : (65535 : Int32).toInt = 65535 := rfl; have e0 : (0 : Int32).toInt = 0 := rfl
  obtain ⟨h1, h2⟩ := h; rw [Int32.lt_iff_toInt_lt] at h1 h2
  have m := c_mask (nar .byte (c.toInt8.toInt32)) 255 8 (by decide) (by decide)
  have n : (nar .byte (c.toInt8.toInt32)) = c.toInt8.toInt32.toInt8.toInt32 := rfl
  have s := c_ishr c 8 8 rfl
  have a2 := c_i2b (c >>> ((8 : Int32) &&& 31)); have b2 := c_i2b (c >>> ((8 : Int32) &&& 31)).toInt8.toInt32
  have m2 := c_mask (nar .byte ((c >>> ((8 : Int32) &&& 31)).toInt8.toInt32)) 255 8 (by decide) (by decide)
  have n2 : (nar .byte ((c >>> ((8 : Int32) &&& 31)).toInt8.toInt32)) = (c >>> ((8 : Int32) &&& 31)).toInt8.toInt32.toInt8.toInt32 := rfl
  rw [n] at m; rw [n2] at m2
  generalize hx : (nar .byte (c.toInt8.toInt32)) &&& (255 : Int32) = x
  generalize hy : (nar .byte ((c >>> ((8 : Int32) &&& 31)).toInt8.toInt32)) &&& (255 : Int32) = y
  rw [n] at hx; rw [n2] at hy; rw [hx] at m; rw [hy] at m2
  have l := c_ishl y 8 8 rfl
  have yb : 0 ≤ y.toInt ∧ y.toInt < 256 := by omega
  have rl := rng32 (y <<< ((8 : Int32) &&& 31))
  have le : (y <<< ((8 : Int32) &&& 31)).toInt = y.toInt * 256 := by omega
  have o := c_or' x (y <<< ((8 : Int32) &&& 31)) 8 (by decide) 256 rfl (by omega) (by omega) (by omega)
  generalize hz : x ||| (y <<< ((8 : Int32) &&& 31)) = z
  rw [hz] at o
  have rz := rng32 z; have i1 := c_i2c z; have i2 := c_i2c z.toUInt32.toUInt16.toUInt32.toInt32
  exact i32e (by show z.toUInt32.toUInt16.toUInt32.toInt32.toUInt32.toUInt16.toUInt32.toInt32.toInt = c.toInt; omega)
def StrU (Z : State) (h : Heap) (a : Addr) (cs : List Int32) : Prop := Exa Z h a "java/lang/String" ∧ ∃ (b : Addr) (k : ClassId), Fld Z h a "java/lang/String" "value" "[B" (.ref b) ∧
  ((Fld Z h a "java/lang/String" "coder" "B" (.int 0) ∧ Arv Z h b k .byte (Int32.ofNat cs.length) (lat cs) (.int 0) ∧ ∀ c ∈ cs, ¬ c < 0 ∧ ¬ (255 : Int32) < c) ∨
   (Fld Z h a "java/lang/String" "coder" "B" (.int 1) ∧ Arv Z h b k .byte (Int32.ofNat (2 * cs.length)) (wid cs) (.int 0) ∧ 0 < cs.length))
theorem StrU.ext {Z : State} {h h' : Heap} {x : Addr} {cs : List Int32} (F : StrU Z h x cs) (E : Ext h h') : StrU Z h' x cs := by
  obtain ⟨h1, b, k, h2, h3⟩ := F
  refine ⟨h1.ext E, b, k, h2.ext E, h3.elim (fun q => Or.inl ⟨q.1.ext E, q.2.1.ext E, q.2.2⟩) (fun q => Or.inr ⟨q.1.ext E, q.2.1.ext E, q.2.2⟩)⟩
theorem StrU.lt {Z : State} {h : Heap} {x : Addr} {cs : List Int32} (F : StrU Z h x cs) : x < h.size := F.1.lt
theorem mem_at {cs : List Int32} {j : Nat} (h : j < cs.length) : cs.getD j 0 ∈ cs := by
  rw [List.getD_eq_getElem?_getD, List.getElem?_eq_getElem h]; exact List.getElem_mem h
theorem rem5 (x : Int32) : (x &&& (2147483647 : Int32)) - ((x &&& (2147483647 : Int32)) / (5 : Int32)) * (5 : Int32) = 0 ∨ (x &&& (2147483647 : Int32)) - ((x &&& (2147483647 : Int32)) / (5 : Int32)) * (5 : Int32) = 1 ∨ (x &&& (2147483647 : Int32)) - ((x &&& (2147483647 : Int32)) / (5 : Int32)) * (5 : Int32) = 2 ∨ (x &&& (2147483647 : Int32)) - ((x &&& (2147483647 : Int32)) / (5 : Int32)) * (5 : Int32) = 3 ∨ (x &&& (2147483647 : Int32)) - ((x &&& (2147483647 : Int32)) / (5 : Int32)) * (5 : Int32) = 4 := by
  have q := c_and x 2147483647 (by decide); generalize (x &&& (2147483647 : Int32)) = y at q ⊢
  have e : (5 : Int32).toInt = 5 := rfl
  have d := (c_idiv y 5 5 rfl (by decide)).1 q.1
  have m := c_imul (y / 5) 5; rw [e] at m; have s := c_isub y (y / 5 * 5); have r1 := rng32 (y / 5 * 5); have r2 := rng32 (y - y / 5 * 5); have ry := rng32 y
  generalize y - y / 5 * 5 = z at s r2 ⊢
  have e1 : (1 : Int32).toInt = 1 := rfl; have e2 : (2 : Int32).toInt = 2 := rfl; have e3 : (3 : Int32).toInt = 3 := rfl; have e4 : (4 : Int32).toInt = 4 := rfl; have e0 : (0 : Int32).toInt = 0 := rfl
  have f : z.toInt = 0 ∨ z.toInt = 1 ∨ z.toInt = 2 ∨ z.toInt = 3 ∨ z.toInt = 4 := by omega
  rcases f with f | f | f | f | f
  · exact Or.inl (i32e (by omega))
  · exact Or.inr (Or.inl (i32e (by omega)))
  · exact Or.inr (Or.inr (Or.inl (i32e (by omega))))
  · exact Or.inr (Or.inr (Or.inr (Or.inl (i32e (by omega)))))
  · exact Or.inr (Or.inr (Or.inr (Or.inr (i32e (by omega)))))
theorem half4 {n : Nat} (h : n ≤ 4) : Int32.ofNat (2 * n) >>> ((1 : Int32) &&& 31) = Int32.ofNat n := by
  match n, h with
  | 0, _ => rfl
  | 1, _ => rfl
  | 2, _ => rfl
  | 3, _ => rfl
  | 4, _ => rfl
theorem n_ne {j n : Nat} (h : j < n) (hn : n ≤ 4) : ¬ Int32.ofNat j = Int32.ofNat n := fun e => by
  have a := n_clamp (a := j) (by omega); have b := n_clamp (a := n) (by omega)
  rw [e, b] at a; omega
theorem ef_draw (m : MethodId) (y0 : Int32) : entryFrame m #[(.int y0)] 1 = mkF m 0 #[vI y0] [] := by first | (simp [entryFrame, mkF, argsToLocals, vI, vA, Value.category, maxLocals]; done) | rfl
def Q_draw (Z : State) (p0 : Int32) (h0 : Heap) (v : Option Value) (h : Heap) : Prop := ∃ z, v = some (.int z) ∧ h = h0 ∧ R16 z
def rm_draw : Room := { frames := 0, cells := 0, slots := 0, locals := 0 }
set_option maxRecDepth 65536 in
set_option maxHeartbeats 40000000 in
theorem ct_draw {l : Launch} {Z : State} {a0 : Array Value} (H : Ev Z a0) (p0 : Int32) {h0 : Heap} {n0 : Nat} (O0 : Old Z n0 h0) : CtrN l Z (⟨"com/example/gate_to_handlers/gatetohandlers/MediaTypeIsTokenPinLaw", "draw", "(I)C"⟩ : MethodName) method_3_code 1 (some .char) [] rm_draw #[(.int p0)] h0 [] n0 (Q_draw Z p0 h0) := by
  refine enterN (a0 := a0) (plainFor_of_name pn_0) O0 all0 ?_
  intro p e s m below meth c T0 hx hby hml hrt hnm hlk A0
  replace A0 : Wk false Z a0 [] n0 h0 [] "com/example/gate_to_handlers/gatetohandlers/MediaTypeIsTokenPinLaw" p l e rm_draw s m #[(.int p0)] below meth c [] T0 h0 0 0 := A0
  refine Run.st (T0.setTop (mkF m 0 #[vI p0] [])) (fun _ k => castTop (ef_draw m p0) k) ?_
  refine Run.st (T0.setTop (mkF m 1 #[vI p0] [.int p0])) (fun _ k => XS.iloadN A0.here hx rfl (hb hby d0_0) rfl k) ?_
  refine Run.st (T0.setTop (mkF m 3 #[vI p0] [.int 65536, .int p0])) (A0.ldcI hx (tw5 H.1) (g := (mkF m 1 #[vI p0] [.int p0])) rfl (hb hby d0_1)) ?_
  refine Run.st (T0.setTop (mkF m 4 #[vI p0] [.int (p0 &&& (65536 : Int32))])) (fun _ k => XS.iand A0.here hx rfl (hb hby d0_3) rfl k) ?_
  by_cases c1 : (p0 &&& (65536 : Int32)) = (0 : Int32)
  · refine Run.st (T0.setTop (mkF m 12 #[vI p0] [.int ((p0 &&& (127 : Int32)).toUInt32.toUInt16.toUInt32.toInt32)])) (fun _ k => XS.ifNo A0.here hx rfl (hb hby d0_4) rfl (by rw [if0]; exact (teq c1).2) (XS.iloadN A0.here hx rfl (hb hby d0_7) rfl (XS.bipush A0.here hx rfl (hb hby d0_8) (XS.iand A0.here hx rfl (hb hby d0_10) rfl (XS.i2c A0.here hx rfl (hb hby d0_11) rfl k))))) ?_
    exact A0.leaveN hlk (some (.int (nar .char ((p0 &&& (127 : Int32)).toUInt32.toUInt16.toUInt32.toInt32)))) (fun q => by rw [hrt] at q; cases q) (by decide) (by decide) ⟨_, rfl, rfl, r16n _⟩ (fun X hr => retN X hx (t := .char) hrt (by simp) (hb hby d0_12) hr)
  · refine Run.st (T0.setTop (mkF m 14 #[vI p0] [.int p0])) (fun _ k => XS.ifYes A0.here hx rfl (pc0 := 4) (pc' := 13) rfl (hb hby d0_4) rfl (by rw [if0]; exact (feq c1).2) (by decide) (by decide) (XS.iloadN A0.here hx rfl (hb hby d0_13) rfl k)) ?_
    refine Run.st (T0.setTop (mkF m 16 #[vI p0] [.int 65535, .int p0])) (A0.ldcI hx (tw111 H.1) (g := (mkF m 14 #[vI p0] [.int p0])) rfl (hb hby d0_14)) ?_
    refine Run.st (T0.setTop (mkF m 18 #[vI p0] [.int ((p0 &&& (65535 : Int32)).toUInt32.toUInt16.toUInt32.toInt32)])) (fun _ k => XS.iand A0.here hx rfl (hb hby d0_16) rfl (XS.i2c A0.here hx rfl (hb hby d0_17) rfl k)) ?_
    exact A0.leaveN hlk (some (.int (nar .char ((p0 &&& (65535 : Int32)).toUInt32.toUInt16.toUInt32.toInt32)))) (fun q => by rw [hrt] at q; cases q) (by decide) (by decide) ⟨_, rfl, rfl, r16n _⟩ (fun X hr => retN X hx (t := .char) hrt (by simp) (hb hby d0_18) hr)
theorem ef_tokc (m : MethodId) (y0 : Int32) : entryFrame m #[(.int y0)] 1 = mkF m 0 #[vI y0] [] := by first | (simp [entryFrame, mkF, argsToLocals, vI, vA, Value.category, maxLocals]; done) | rfl
def Q_tokc (Z : State) (p0 : Int32) (h0 : Heap) (v : Option Value) (h : Heap) : Prop := ∃ z, v = some (.int z) ∧ h = h0 ∧ (tokP p0 ∧ z = 1 ∨ ¬ tokP p0 ∧ z = 0)
def rm_tokc : Room := { frames := 0, cells := 0, slots := 0, locals := 0 }
set_option maxRecDepth 65536 in
set_option maxHeartbeats 40000000 in
theorem ct_tokc {l : Launch} {Z : State} {a0 : Array Value} (H : Ev Z a0) (p0 : Int32) {h0 : Heap} {n0 : Nat} (O0 : Old Z n0 h0) : CtrN l Z (⟨"com/example/gate_to_handlers/gatetohandlers/MediaTypeIsTokenPinLaw", "tokenChar", "(C)Z"⟩ : MethodName) method_4_code 1 (some .boolean) [] rm_tokc #[(.int p0)] h0 [] n0 (Q_tokc Z p0 h0) := by
  refine enterN (a0 := a0) (plainFor_of_name pn_0) O0 all0 ?_
  intro p e s m below meth c T0 hx hby hml hrt hnm hlk A0
  replace A0 : Wk false Z a0 [] n0 h0 [] "com/example/gate_to_handlers/gatetohandlers/MediaTypeIsTokenPinLaw" p l e rm_tokc s m #[(.int p0)] below meth c [] T0 h0 0 0 := A0
  refine Run.st (T0.setTop (mkF m 0 #[vI p0] [])) (fun _ k => castTop (ef_tokc m p0) k) ?_
  refine Run.st (T0.setTop (mkF m 3 #[vI p0] [.int 97, .int p0])) (fun _ k => XS.iloadN A0.here hx rfl (hb hby d1_0) rfl (XS.bipush A0.here hx rfl (hb hby d1_1) k)) ?_
  have jn3 : ∀ (T3 : State), Wk false Z a0 [] n0 h0 [] "com/example/gate_to_handlers/gatetohandlers/MediaTypeIsTokenPinLaw" p l e rm_tokc s m #[(.int p0)] below meth c [] T3 h0 0 0 → (¬ (¬ p0 < (97 : Int32) ∧ ¬ (122 : Int32) < p0)) → Run p.tables e below (EndN s h0 [] n0 rm_tokc (Q_tokc Z p0 h0)) (T3.setTop (mkF m 14 #[vI p0] [])) := by
    intro T3 A3 nr2
    refine Run.st (T3.setTop (mkF m 17 #[vI p0] [.int 65, .int p0])) (fun _ k => XS.iloadN A3.here hx rfl (hb hby d1_14) rfl (XS.bipush A3.here hx rfl (hb hby d1_15) k)) ?_
    have jn5 : ∀ (T5 : State), Wk false Z a0 [] n0 h0 [] "com/example/gate_to_handlers/gatetohandlers/MediaTypeIsTokenPinLaw" p l e rm_tokc s m #[(.int p0)] below meth c [] T5 h0 0 0 → (¬ (¬ p0 < (65 : Int32) ∧ ¬ (90 : Int32) < p0)) → Run p.tables e below (EndN s h0 [] n0 rm_tokc (Q_tokc Z p0 h0)) (T5.setTop (mkF m 28 #[vI p0] [])) := by
      intro T5 A5 nr4
      refine Run.st (T5.setTop (mkF m 31 #[vI p0] [.int 48, .int p0])) (fun _ k => XS.iloadN A5.here hx rfl (hb hby d1_28) rfl (XS.bipush A5.here hx rfl (hb hby d1_29) k)) ?_
      have jn7 : ∀ (T7 : State), Wk false Z a0 [] n0 h0 [] "com/example/gate_to_handlers/gatetohandlers/MediaTypeIsTokenPinLaw" p l e rm_tokc s m #[(.int p0)] below meth c [] T7 h0 0 0 → (¬ (¬ p0 < (48 : Int32) ∧ ¬ (57 : Int32) < p0)) → Run p.tables e below (EndN s h0 [] n0 rm_tokc (Q_tokc Z p0 h0)) (T7.setTop (mkF m 42 #[vI p0] [])) := by
        intro T7 A7 nr6
        refine Run.st (T7.setTop (mkF m 45 #[vI p0] [.int 33, .int p0])) (fun _ k => XS.iloadN A7.here hx rfl (hb hby d1_42) rfl (XS.bipush A7.here hx rfl (hb hby d1_43) k)) ?_
        by_cases c8 : p0 = (33 : Int32)
        · refine Run.st (T7.setTop (mkF m 137 #[vI p0] [.int 1])) (fun _ k => XS.icmpYes A7.here hx rfl (pc0 := 45) (pc' := 132) rfl (hb hby d1_45) rfl (teq c8).1 (by decide) (by decide) (XS.iconst A7.here hx rfl (hb hby d1_132) (XS.goto A7.here hx rfl (pc0 := 133) (pc' := 137) rfl (hb hby d1_133) (by decide) (by decide) k))) ?_
          exact A7.leaveN hlk (some (.int (1 : Int32))) (fun q => by rw [hrt] at q; cases q) (by decide) (by decide) ⟨_, rfl, rfl, Or.inl ⟨Or.inr (Or.inr (Or.inr (symI c8 (by decide)))), rfl⟩⟩ (fun X hr => retN X hx (t := .boolean) hrt (by simp) (hb hby d1_137) hr)
        · refine Run.st (T7.setTop (mkF m 51 #[vI p0] [.int 35, .int p0])) (fun _ k => XS.icmpNo A7.here hx rfl (hb hby d1_45) rfl (feq c8).1 (XS.iloadN A7.here hx rfl (hb hby d1_48) rfl (XS.bipush A7.here hx rfl (hb hby d1_49) k))) ?_
          by_cases c9 : p0 = (35 : Int32)
          · refine Run.st (T7.setTop (mkF m 137 #[vI p0] [.int 1])) (fun _ k => XS.icmpYes A7.here hx rfl (pc0 := 51) (pc' := 132) rfl (hb hby d1_51) rfl (teq c9).1 (by decide) (by decide) (XS.iconst A7.here hx rfl (hb hby d1_132) (XS.goto A7.here hx rfl (pc0 := 133) (pc' := 137) rfl (hb hby d1_133) (by decide) (by decide) k))) ?_
            exact A7.leaveN hlk (some (.int (1 : Int32))) (fun q => by rw [hrt] at q; cases q) (by decide) (by decide) ⟨_, rfl, rfl, Or.inl ⟨Or.inr (Or.inr (Or.inr (symI c9 (by decide)))), rfl⟩⟩ (fun X hr => retN X hx (t := .boolean) hrt (by simp) (hb hby d1_137) hr)
          · refine Run.st (T7.setTop (mkF m 57 #[vI p0] [.int 36, .int p0])) (fun _ k => XS.icmpNo A7.here hx rfl (hb hby d1_51) rfl (feq c9).1 (XS.iloadN A7.here hx rfl (hb hby d1_54) rfl (XS.bipush A7.here hx rfl (hb hby d1_55) k))) ?_
            by_cases c10 : p0 = (36 : Int32)
            · refine Run.st (T7.setTop (mkF m 137 #[vI p0] [.int 1])) (fun _ k => XS.icmpYes A7.here hx rfl (pc0 := 57) (pc' := 132) rfl (hb hby d1_57) rfl (teq c10).1 (by decide) (by decide) (XS.iconst A7.here hx rfl (hb hby d1_132) (XS.goto A7.here hx rfl (pc0 := 133) (pc' := 137) rfl (hb hby d1_133) (by decide) (by decide) k))) ?_
              exact A7.leaveN hlk (some (.int (1 : Int32))) (fun q => by rw [hrt] at q; cases q) (by decide) (by decide) ⟨_, rfl, rfl, Or.inl ⟨Or.inr (Or.inr (Or.inr (symI c10 (by decide)))), rfl⟩⟩ (fun X hr => retN X hx (t := .boolean) hrt (by simp) (hb hby d1_137) hr)
            · refine Run.st (T7.setTop (mkF m 63 #[vI p0] [.int 37, .int p0])) (fun _ k => XS.icmpNo A7.here hx rfl (hb hby d1_57) rfl (feq c10).1 (XS.iloadN A7.here hx rfl (hb hby d1_60) rfl (XS.bipush A7.here hx rfl (hb hby d1_61) k))) ?_
              by_cases c11 : p0 = (37 : Int32)
              · refine Run.st (T7.setTop (mkF m 137 #[vI p0] [.int 1])) (fun _ k => XS.icmpYes A7.here hx rfl (pc0 := 63) (pc' := 132) rfl (hb hby d1_63) rfl (teq c11).1 (by decide) (by decide) (XS.iconst A7.here hx rfl (hb hby d1_132) (XS.goto A7.here hx rfl (pc0 := 133) (pc' := 137) rfl (hb hby d1_133) (by decide) (by decide) k))) ?_
                exact A7.leaveN hlk (some (.int (1 : Int32))) (fun q => by rw [hrt] at q; cases q) (by decide) (by decide) ⟨_, rfl, rfl, Or.inl ⟨Or.inr (Or.inr (Or.inr (symI c11 (by decide)))), rfl⟩⟩ (fun X hr => retN X hx (t := .boolean) hrt (by simp) (hb hby d1_137) hr)
              · refine Run.st (T7.setTop (mkF m 69 #[vI p0] [.int 38, .int p0])) (fun _ k => XS.icmpNo A7.here hx rfl (hb hby d1_63) rfl (feq c11).1 (XS.iloadN A7.here hx rfl (hb hby d1_66) rfl (XS.bipush A7.here hx rfl (hb hby d1_67) k))) ?_
                by_cases c12 : p0 = (38 : Int32)
                · refine Run.st (T7.setTop (mkF m 137 #[vI p0] [.int 1])) (fun _ k => XS.icmpYes A7.here hx rfl (pc0 := 69) (pc' := 132) rfl (hb hby d1_69) rfl (teq c12).1 (by decide) (by decide) (XS.iconst A7.here hx rfl (hb hby d1_132) (XS.goto A7.here hx rfl (pc0 := 133) (pc' := 137) rfl (hb hby d1_133) (by decide) (by decide) k))) ?_
                  exact A7.leaveN hlk (some (.int (1 : Int32))) (fun q => by rw [hrt] at q; cases q) (by decide) (by decide) ⟨_, rfl, rfl, Or.inl ⟨Or.inr (Or.inr (Or.inr (symI c12 (by decide)))), rfl⟩⟩ (fun X hr => retN X hx (t := .boolean) hrt (by simp) (hb hby d1_137) hr)
                · refine Run.st (T7.setTop (mkF m 75 #[vI p0] [.int 39, .int p0])) (fun _ k => XS.icmpNo A7.here hx rfl (hb hby d1_69) rfl (feq c12).1 (XS.iloadN A7.here hx rfl (hb hby d1_72) rfl (XS.bipush A7.here hx rfl (hb hby d1_73) k))) ?_
                  by_cases c13 : p0 = (39 : Int32)
                  · refine Run.st (T7.setTop (mkF m 137 #[vI p0] [.int 1])) (fun _ k => XS.icmpYes A7.here hx rfl (pc0 := 75) (pc' := 132) rfl (hb hby d1_75) rfl (teq c13).1 (by decide) (by decide) (XS.iconst A7.here hx rfl (hb hby d1_132) (XS.goto A7.here hx rfl (pc0 := 133) (pc' := 137) rfl (hb hby d1_133) (by decide) (by decide) k))) ?_
                    exact A7.leaveN hlk (some (.int (1 : Int32))) (fun q => by rw [hrt] at q; cases q) (by decide) (by decide) ⟨_, rfl, rfl, Or.inl ⟨Or.inr (Or.inr (Or.inr (symI c13 (by decide)))), rfl⟩⟩ (fun X hr => retN X hx (t := .boolean) hrt (by simp) (hb hby d1_137) hr)
                  · refine Run.st (T7.setTop (mkF m 81 #[vI p0] [.int 42, .int p0])) (fun _ k => XS.icmpNo A7.here hx rfl (hb hby d1_75) rfl (feq c13).1 (XS.iloadN A7.here hx rfl (hb hby d1_78) rfl (XS.bipush A7.here hx rfl (hb hby d1_79) k))) ?_
                    by_cases c14 : p0 = (42 : Int32)
                    · refine Run.st (T7.setTop (mkF m 137 #[vI p0] [.int 1])) (fun _ k => XS.icmpYes A7.here hx rfl (pc0 := 81) (pc' := 132) rfl (hb hby d1_81) rfl (teq c14).1 (by decide) (by decide) (XS.iconst A7.here hx rfl (hb hby d1_132) (XS.goto A7.here hx rfl (pc0 := 133) (pc' := 137) rfl (hb hby d1_133) (by decide) (by decide) k))) ?_
                      exact A7.leaveN hlk (some (.int (1 : Int32))) (fun q => by rw [hrt] at q; cases q) (by decide) (by decide) ⟨_, rfl, rfl, Or.inl ⟨Or.inr (Or.inr (Or.inr (symI c14 (by decide)))), rfl⟩⟩ (fun X hr => retN X hx (t := .boolean) hrt (by simp) (hb hby d1_137) hr)
                    · refine Run.st (T7.setTop (mkF m 87 #[vI p0] [.int 43, .int p0])) (fun _ k => XS.icmpNo A7.here hx rfl (hb hby d1_81) rfl (feq c14).1 (XS.iloadN A7.here hx rfl (hb hby d1_84) rfl (XS.bipush A7.here hx rfl (hb hby d1_85) k))) ?_
                      by_cases c15 : p0 = (43 : Int32)
                      · refine Run.st (T7.setTop (mkF m 137 #[vI p0] [.int 1])) (fun _ k => XS.icmpYes A7.here hx rfl (pc0 := 87) (pc' := 132) rfl (hb hby d1_87) rfl (teq c15).1 (by decide) (by decide) (XS.iconst A7.here hx rfl (hb hby d1_132) (XS.goto A7.here hx rfl (pc0 := 133) (pc' := 137) rfl (hb hby d1_133) (by decide) (by decide) k))) ?_
                        exact A7.leaveN hlk (some (.int (1 : Int32))) (fun q => by rw [hrt] at q; cases q) (by decide) (by decide) ⟨_, rfl, rfl, Or.inl ⟨Or.inr (Or.inr (Or.inr (symI c15 (by decide)))), rfl⟩⟩ (fun X hr => retN X hx (t := .boolean) hrt (by simp) (hb hby d1_137) hr)
                      · refine Run.st (T7.setTop (mkF m 93 #[vI p0] [.int 45, .int p0])) (fun _ k => XS.icmpNo A7.here hx rfl (hb hby d1_87) rfl (feq c15).1 (XS.iloadN A7.here hx rfl (hb hby d1_90) rfl (XS.bipush A7.here hx rfl (hb hby d1_91) k))) ?_
                        by_cases c16 : p0 = (45 : Int32)
                        · refine Run.st (T7.setTop (mkF m 137 #[vI p0] [.int 1])) (fun _ k => XS.icmpYes A7.here hx rfl (pc0 := 93) (pc' := 132) rfl (hb hby d1_93) rfl (teq c16).1 (by decide) (by decide) (XS.iconst A7.here hx rfl (hb hby d1_132) (XS.goto A7.here hx rfl (pc0 := 133) (pc' := 137) rfl (hb hby d1_133) (by decide) (by decide) k))) ?_
                          exact A7.leaveN hlk (some (.int (1 : Int32))) (fun q => by rw [hrt] at q; cases q) (by decide) (by decide) ⟨_, rfl, rfl, Or.inl ⟨Or.inr (Or.inr (Or.inr (symI c16 (by decide)))), rfl⟩⟩ (fun X hr => retN X hx (t := .boolean) hrt (by simp) (hb hby d1_137) hr)
                        · refine Run.st (T7.setTop (mkF m 99 #[vI p0] [.int 46, .int p0])) (fun _ k => XS.icmpNo A7.here hx rfl (hb hby d1_93) rfl (feq c16).1 (XS.iloadN A7.here hx rfl (hb hby d1_96) rfl (XS.bipush A7.here hx rfl (hb hby d1_97) k))) ?_
                          by_cases c17 : p0 = (46 : Int32)
                          · refine Run.st (T7.setTop (mkF m 137 #[vI p0] [.int 1])) (fun _ k => XS.icmpYes A7.here hx rfl (pc0 := 99) (pc' := 132) rfl (hb hby d1_99) rfl (teq c17).1 (by decide) (by decide) (XS.iconst A7.here hx rfl (hb hby d1_132) (XS.goto A7.here hx rfl (pc0 := 133) (pc' := 137) rfl (hb hby d1_133) (by decide) (by decide) k))) ?_
                            exact A7.leaveN hlk (some (.int (1 : Int32))) (fun q => by rw [hrt] at q; cases q) (by decide) (by decide) ⟨_, rfl, rfl, Or.inl ⟨Or.inr (Or.inr (Or.inr (symI c17 (by decide)))), rfl⟩⟩ (fun X hr => retN X hx (t := .boolean) hrt (by simp) (hb hby d1_137) hr)
                          · refine Run.st (T7.setTop (mkF m 105 #[vI p0] [.int 94, .int p0])) (fun _ k => XS.icmpNo A7.here hx rfl (hb hby d1_99) rfl (feq c17).1 (XS.iloadN A7.here hx rfl (hb hby d1_102) rfl (XS.bipush A7.here hx rfl (hb hby d1_103) k))) ?_
                            by_cases c18 : p0 = (94 : Int32)
                            · refine Run.st (T7.setTop (mkF m 137 #[vI p0] [.int 1])) (fun _ k => XS.icmpYes A7.here hx rfl (pc0 := 105) (pc' := 132) rfl (hb hby d1_105) rfl (teq c18).1 (by decide) (by decide) (XS.iconst A7.here hx rfl (hb hby d1_132) (XS.goto A7.here hx rfl (pc0 := 133) (pc' := 137) rfl (hb hby d1_133) (by decide) (by decide) k))) ?_
                              exact A7.leaveN hlk (some (.int (1 : Int32))) (fun q => by rw [hrt] at q; cases q) (by decide) (by decide) ⟨_, rfl, rfl, Or.inl ⟨Or.inr (Or.inr (Or.inr (symI c18 (by decide)))), rfl⟩⟩ (fun X hr => retN X hx (t := .boolean) hrt (by simp) (hb hby d1_137) hr)
                            · refine Run.st (T7.setTop (mkF m 111 #[vI p0] [.int 95, .int p0])) (fun _ k => XS.icmpNo A7.here hx rfl (hb hby d1_105) rfl (feq c18).1 (XS.iloadN A7.here hx rfl (hb hby d1_108) rfl (XS.bipush A7.here hx rfl (hb hby d1_109) k))) ?_
                              by_cases c19 : p0 = (95 : Int32)
                              · refine Run.st (T7.setTop (mkF m 137 #[vI p0] [.int 1])) (fun _ k => XS.icmpYes A7.here hx rfl (pc0 := 111) (pc' := 132) rfl (hb hby d1_111) rfl (teq c19).1 (by decide) (by decide) (XS.iconst A7.here hx rfl (hb hby d1_132) (XS.goto A7.here hx rfl (pc0 := 133) (pc' := 137) rfl (hb hby d1_133) (by decide) (by decide) k))) ?_
                                exact A7.leaveN hlk (some (.int (1 : Int32))) (fun q => by rw [hrt] at q; cases q) (by decide) (by decide) ⟨_, rfl, rfl, Or.inl ⟨Or.inr (Or.inr (Or.inr (symI c19 (by decide)))), rfl⟩⟩ (fun X hr => retN X hx (t := .boolean) hrt (by simp) (hb hby d1_137) hr)
                              · refine Run.st (T7.setTop (mkF m 117 #[vI p0] [.int 96, .int p0])) (fun _ k => XS.icmpNo A7.here hx rfl (hb hby d1_111) rfl (feq c19).1 (XS.iloadN A7.here hx rfl (hb hby d1_114) rfl (XS.bipush A7.here hx rfl (hb hby d1_115) k))) ?_
                                by_cases c20 : p0 = (96 : Int32)
                                · refine Run.st (T7.setTop (mkF m 137 #[vI p0] [.int 1])) (fun _ k => XS.icmpYes A7.here hx rfl (pc0 := 117) (pc' := 132) rfl (hb hby d1_117) rfl (teq c20).1 (by decide) (by decide) (XS.iconst A7.here hx rfl (hb hby d1_132) (XS.goto A7.here hx rfl (pc0 := 133) (pc' := 137) rfl (hb hby d1_133) (by decide) (by decide) k))) ?_
                                  exact A7.leaveN hlk (some (.int (1 : Int32))) (fun q => by rw [hrt] at q; cases q) (by decide) (by decide) ⟨_, rfl, rfl, Or.inl ⟨Or.inr (Or.inr (Or.inr (symI c20 (by decide)))), rfl⟩⟩ (fun X hr => retN X hx (t := .boolean) hrt (by simp) (hb hby d1_137) hr)
                                · refine Run.st (T7.setTop (mkF m 123 #[vI p0] [.int 124, .int p0])) (fun _ k => XS.icmpNo A7.here hx rfl (hb hby d1_117) rfl (feq c20).1 (XS.iloadN A7.here hx rfl (hb hby d1_120) rfl (XS.bipush A7.here hx rfl (hb hby d1_121) k))) ?_
                                  by_cases c21 : p0 = (124 : Int32)
                                  · refine Run.st (T7.setTop (mkF m 137 #[vI p0] [.int 1])) (fun _ k => XS.icmpYes A7.here hx rfl (pc0 := 123) (pc' := 132) rfl (hb hby d1_123) rfl (teq c21).1 (by decide) (by decide) (XS.iconst A7.here hx rfl (hb hby d1_132) (XS.goto A7.here hx rfl (pc0 := 133) (pc' := 137) rfl (hb hby d1_133) (by decide) (by decide) k))) ?_
                                    exact A7.leaveN hlk (some (.int (1 : Int32))) (fun q => by rw [hrt] at q; cases q) (by decide) (by decide) ⟨_, rfl, rfl, Or.inl ⟨Or.inr (Or.inr (Or.inr (symI c21 (by decide)))), rfl⟩⟩ (fun X hr => retN X hx (t := .boolean) hrt (by simp) (hb hby d1_137) hr)
                                  · refine Run.st (T7.setTop (mkF m 129 #[vI p0] [.int 126, .int p0])) (fun _ k => XS.icmpNo A7.here hx rfl (hb hby d1_123) rfl (feq c21).1 (XS.iloadN A7.here hx rfl (hb hby d1_126) rfl (XS.bipush A7.here hx rfl (hb hby d1_127) k))) ?_
                                    by_cases c22 : p0 = (126 : Int32)
                                    · refine Run.st (T7.setTop (mkF m 137 #[vI p0] [.int 1])) (fun _ k => XS.icmpNo A7.here hx rfl (hb hby d1_129) rfl (teq c22).2 (XS.iconst A7.here hx rfl (hb hby d1_132) (XS.goto A7.here hx rfl (pc0 := 133) (pc' := 137) rfl (hb hby d1_133) (by decide) (by decide) k))) ?_
                                      exact A7.leaveN hlk (some (.int (1 : Int32))) (fun q => by rw [hrt] at q; cases q) (by decide) (by decide) ⟨_, rfl, rfl, Or.inl ⟨Or.inr (Or.inr (Or.inr (symI c22 (by decide)))), rfl⟩⟩ (fun X hr => retN X hx (t := .boolean) hrt (by simp) (hb hby d1_137) hr)
                                    · refine Run.st (T7.setTop (mkF m 137 #[vI p0] [.int 0])) (fun _ k => XS.icmpYes A7.here hx rfl (pc0 := 129) (pc' := 136) rfl (hb hby d1_129) rfl (feq c22).2 (by decide) (by decide) (XS.iconst A7.here hx rfl (hb hby d1_136) k)) ?_
                                      exact A7.leaveN hlk (some (.int (0 : Int32))) (fun q => by rw [hrt] at q; cases q) (by decide) (by decide) ⟨_, rfl, rfl, Or.inr ⟨fun k => k.elim nr2 fun k => k.elim nr4 fun k => k.elim nr6 (nnS c8 (nnS c9 (nnS c10 (nnS c11 (nnS c12 (nnS c13 (nnS c14 (nnS c15 (nnS c16 (nnS c17 (nnS c18 (nnS c19 (nnS c20 (nnS c21 (nnS c22 nn0))))))))))))))), rfl⟩⟩ (fun X hr => retN X hx (t := .boolean) hrt (by simp) (hb hby d1_137) hr)
      by_cases c23 : p0 < (48 : Int32)
      · refine Run.st (T5.setTop (mkF m 42 #[vI p0] [])) (fun _ k => XS.icmpYes A5.here hx rfl (pc0 := 31) (pc' := 42) rfl (hb hby d1_31) rfl (tlt c23).1 (by decide) (by decide) k) ?_
        exact jn7 T5 (A5.mono (by decide) (by decide)) (fun k => k.1 c23)
      · refine Run.st (T5.setTop (mkF m 37 #[vI p0] [.int 57, .int p0])) (fun _ k => XS.icmpNo A5.here hx rfl (hb hby d1_31) rfl (flt c23).1 (XS.iloadN A5.here hx rfl (hb hby d1_34) rfl (XS.bipush A5.here hx rfl (hb hby d1_35) k))) ?_
        by_cases c24 : (57 : Int32) < p0
        · refine Run.st (T5.setTop (mkF m 42 #[vI p0] [])) (fun _ k => XS.icmpYes A5.here hx rfl (pc0 := 37) (pc' := 42) rfl (hb hby d1_37) rfl (tlt c24).2.2.1 (by decide) (by decide) k) ?_
          exact jn7 T5 (A5.mono (by decide) (by decide)) (fun k => k.2 c24)
        · refine Run.st (T5.setTop (mkF m 41 #[vI p0] [.int 1])) (fun _ k => XS.icmpNo A5.here hx rfl (hb hby d1_37) rfl (flt c24).2.2.1 (XS.iconst A5.here hx rfl (hb hby d1_40) k)) ?_
          exact A5.leaveN hlk (some (.int (1 : Int32))) (fun q => by rw [hrt] at q; cases q) (by decide) (by decide) ⟨_, rfl, rfl, Or.inl ⟨(Or.inr ((Or.inr (Or.inl ⟨c23, c24⟩)))), rfl⟩⟩ (fun X hr => retN X hx (t := .boolean) hrt (by simp) (hb hby d1_41) hr)
    by_cases c25 : p0 < (65 : Int32)
    · refine Run.st (T3.setTop (mkF m 28 #[vI p0] [])) (fun _ k => XS.icmpYes A3.here hx rfl (pc0 := 17) (pc' := 28) rfl (hb hby d1_17) rfl (tlt c25).1 (by decide) (by decide) k) ?_
      exact jn5 T3 (A3.mono (by decide) (by decide)) (fun k => k.1 c25)
    · refine Run.st (T3.setTop (mkF m 23 #[vI p0] [.int 90, .int p0])) (fun _ k => XS.icmpNo A3.here hx rfl (hb hby d1_17) rfl (flt c25).1 (XS.iloadN A3.here hx rfl (hb hby d1_20) rfl (XS.bipush A3.here hx rfl (hb hby d1_21) k))) ?_
      by_cases c26 : (90 : Int32) < p0
      · refine Run.st (T3.setTop (mkF m 28 #[vI p0] [])) (fun _ k => XS.icmpYes A3.here hx rfl (pc0 := 23) (pc' := 28) rfl (hb hby d1_23) rfl (tlt c26).2.2.1 (by decide) (by decide) k) ?_
        exact jn5 T3 (A3.mono (by decide) (by decide)) (fun k => k.2 c26)
      · refine Run.st (T3.setTop (mkF m 27 #[vI p0] [.int 1])) (fun _ k => XS.icmpNo A3.here hx rfl (hb hby d1_23) rfl (flt c26).2.2.1 (XS.iconst A3.here hx rfl (hb hby d1_26) k)) ?_
        exact A3.leaveN hlk (some (.int (1 : Int32))) (fun q => by rw [hrt] at q; cases q) (by decide) (by decide) ⟨_, rfl, rfl, Or.inl ⟨(Or.inr (Or.inl ⟨c25, c26⟩)), rfl⟩⟩ (fun X hr => retN X hx (t := .boolean) hrt (by simp) (hb hby d1_27) hr)
  by_cases c27 : p0 < (97 : Int32)
  · refine Run.st (T0.setTop (mkF m 14 #[vI p0] [])) (fun _ k => XS.icmpYes A0.here hx rfl (pc0 := 3) (pc' := 14) rfl (hb hby d1_3) rfl (tlt c27).1 (by decide) (by decide) k) ?_
    exact jn3 T0 (A0.mono (by decide) (by decide)) (fun k => k.1 c27)
  · refine Run.st (T0.setTop (mkF m 9 #[vI p0] [.int 122, .int p0])) (fun _ k => XS.icmpNo A0.here hx rfl (hb hby d1_3) rfl (flt c27).1 (XS.iloadN A0.here hx rfl (hb hby d1_6) rfl (XS.bipush A0.here hx rfl (hb hby d1_7) k))) ?_
    by_cases c28 : (122 : Int32) < p0
    · refine Run.st (T0.setTop (mkF m 14 #[vI p0] [])) (fun _ k => XS.icmpYes A0.here hx rfl (pc0 := 9) (pc' := 14) rfl (hb hby d1_9) rfl (tlt c28).2.2.1 (by decide) (by decide) k) ?_
      exact jn3 T0 (A0.mono (by decide) (by decide)) (fun k => k.2 c28)
    · refine Run.st (T0.setTop (mkF m 13 #[vI p0] [.int 1])) (fun _ k => XS.icmpNo A0.here hx rfl (hb hby d1_9) rfl (flt c28).2.2.1 (XS.iconst A0.here hx rfl (hb hby d1_12) k)) ?_
      exact A0.leaveN hlk (some (.int (1 : Int32))) (fun q => by rw [hrt] at q; cases q) (by decide) (by decide) ⟨_, rfl, rfl, Or.inl ⟨Or.inl ⟨c27, c28⟩, rfl⟩⟩ (fun X hr => retN X hx (t := .boolean) hrt (by simp) (hb hby d1_13) hr)
theorem ef_coder0 (m : MethodId) (y0 : Addr) : entryFrame m #[(.ref y0)] 1 = mkF m 0 #[vA y0] [] := by first | (simp [entryFrame, mkF, argsToLocals, vI, vA, Value.category, maxLocals]; done) | rfl
def Q_coder0 (Z : State) (a1 : Addr) (h0 : Heap) (v : Option Value) (h : Heap) : Prop := v = some (.int 0) ∧ h = h0
def rm_coder0 : Room := { frames := 0, cells := 0, slots := 0, locals := 0 }
set_option maxRecDepth 65536 in
set_option maxHeartbeats 40000000 in
theorem ct_coder0 {l : Launch} {Z : State} {a0 : Array Value} (H : Ev Z a0) (a1 : Addr) {h0 : Heap} {n0 : Nat} (O0 : Old Z n0 h0) (F1 : Fld Z h0 a1 "java/lang/String" "coder" "B" (.int 0)) : CtrN l Z (⟨"java/lang/String", "coder", "()B"⟩ : MethodName) jdk_42_method_152_code 1 (some .byte) [] rm_coder0 #[(.ref a1)] h0 [] n0 (Q_coder0 Z a1 h0) := by
  refine enterN (a0 := a0) (plainFor_of_name pn_1) O0 all0 ?_
  intro p e s m below meth c T0 hx hby hml hrt hnm hlk A0
  replace A0 : Wk false Z a0 [] n0 h0 [] "java/lang/String" p l e rm_coder0 s m #[(.ref a1)] below meth c [] T0 h0 0 0 := A0
  refine Run.st (T0.setTop (mkF m 0 #[vA a1] [])) (fun _ k => castTop (ef_coder0 m a1) k) ?_
  obtain ⟨zc, Sc, hzc⟩ := H.2.1
  obtain ⟨fm, Sfm, rfm⟩ := H.2.2.1
  obtain ⟨T29, A29, st29⟩ := A0.getS hx (tw37 H.1) Via.refl (Sc.ext A0.old.2) (g := (mkF m 0 #[vA a1] [])) rfl (hb hby d2_0)
  refine Run.st (T29.setTop (mkF m 3 #[vA a1] [.int zc])) st29 ?_
  refine Run.st (T29.setTop (mkF m 7 #[vA a1] [(.ref a1)])) (fun _ k => XS.ifNo A29.here hx rfl (hb hby d2_3) rfl (by rw [if0]; exact (feq hzc).1) (XS.aloadN A29.here hx rfl (hb hby d2_6) rfl rfl k)) ?_
  obtain ⟨T30, A30, st30⟩ := A29.getF hx (tw27 H.1) Via.refl F1 (g := (mkF m 7 #[vA a1] [(.ref a1)])) rfl rfl (hb hby d2_7)
  refine Run.st (T30.setTop (mkF m 10 #[vA a1] [.int 0])) st30 ?_
  refine Run.st (T30.setTop (mkF m 14 #[vA a1] [.int 0])) (fun _ k => XS.goto A30.here hx rfl (pc0 := 10) (pc' := 14) rfl (hb hby d2_10) (by decide) (by decide) k) ?_
  exact A30.leaveN hlk (some (.int (0 : Int32))) (fun q => by rw [hrt] at q; cases q) (by decide) (by decide) ⟨rfl, rfl⟩ (fun X hr => retN X hx (t := .byte) hrt (by simp) (hb hby d2_14) hr)
theorem ef_coder1 (m : MethodId) (y0 : Addr) : entryFrame m #[(.ref y0)] 1 = mkF m 0 #[vA y0] [] := by first | (simp [entryFrame, mkF, argsToLocals, vI, vA, Value.category, maxLocals]; done) | rfl
def Q_coder1 (Z : State) (a1 : Addr) (h0 : Heap) (v : Option Value) (h : Heap) : Prop := v = some (.int 1) ∧ h = h0
def rm_coder1 : Room := { frames := 0, cells := 0, slots := 0, locals := 0 }
set_option maxRecDepth 65536 in
set_option maxHeartbeats 40000000 in
theorem ct_coder1 {l : Launch} {Z : State} {a0 : Array Value} (H : Ev Z a0) (a1 : Addr) {h0 : Heap} {n0 : Nat} (O0 : Old Z n0 h0) (F1 : Fld Z h0 a1 "java/lang/String" "coder" "B" (.int 1)) : CtrN l Z (⟨"java/lang/String", "coder", "()B"⟩ : MethodName) jdk_42_method_152_code 1 (some .byte) [] rm_coder1 #[(.ref a1)] h0 [] n0 (Q_coder1 Z a1 h0) := by
  refine enterN (a0 := a0) (plainFor_of_name pn_1) O0 all0 ?_
  intro p e s m below meth c T0 hx hby hml hrt hnm hlk A0
  replace A0 : Wk false Z a0 [] n0 h0 [] "java/lang/String" p l e rm_coder1 s m #[(.ref a1)] below meth c [] T0 h0 0 0 := A0
  refine Run.st (T0.setTop (mkF m 0 #[vA a1] [])) (fun _ k => castTop (ef_coder1 m a1) k) ?_
  obtain ⟨zc, Sc, hzc⟩ := H.2.1
  obtain ⟨fm, Sfm, rfm⟩ := H.2.2.1
  obtain ⟨T31, A31, st31⟩ := A0.getS hx (tw37 H.1) Via.refl (Sc.ext A0.old.2) (g := (mkF m 0 #[vA a1] [])) rfl (hb hby d2_0)
  refine Run.st (T31.setTop (mkF m 3 #[vA a1] [.int zc])) st31 ?_
  refine Run.st (T31.setTop (mkF m 7 #[vA a1] [(.ref a1)])) (fun _ k => XS.ifNo A31.here hx rfl (hb hby d2_3) rfl (by rw [if0]; exact (feq hzc).1) (XS.aloadN A31.here hx rfl (hb hby d2_6) rfl rfl k)) ?_
  obtain ⟨T32, A32, st32⟩ := A31.getF hx (tw27 H.1) Via.refl F1 (g := (mkF m 7 #[vA a1] [(.ref a1)])) rfl rfl (hb hby d2_7)
  refine Run.st (T32.setTop (mkF m 10 #[vA a1] [.int 1])) st32 ?_
  refine Run.st (T32.setTop (mkF m 14 #[vA a1] [.int 1])) (fun _ k => XS.goto A32.here hx rfl (pc0 := 10) (pc' := 14) rfl (hb hby d2_10) (by decide) (by decide) k) ?_
  exact A32.leaveN hlk (some (.int (1 : Int32))) (fun q => by rw [hrt] at q; cases q) (by decide) (by decide) ⟨rfl, rfl⟩ (fun X hr => retN X hx (t := .byte) hrt (by simp) (hb hby d2_14) hr)
theorem ef_isLatin10 (m : MethodId) (y0 : Addr) : entryFrame m #[(.ref y0)] 1 = mkF m 0 #[vA y0] [] := by first | (simp [entryFrame, mkF, argsToLocals, vI, vA, Value.category, maxLocals]; done) | rfl
def Q_isLatin10 (Z : State) (a1 : Addr) (h0 : Heap) (v : Option Value) (h : Heap) : Prop := v = some (.int 1) ∧ h = h0
def rm_isLatin10 : Room := { frames := 0, cells := 0, slots := 0, locals := 0 }
set_option maxRecDepth 65536 in
set_option maxHeartbeats 40000000 in
theorem ct_isLatin10 {l : Launch} {Z : State} {a0 : Array Value} (H : Ev Z a0) (a1 : Addr) {h0 : Heap} {n0 : Nat} (O0 : Old Z n0 h0) (F1 : Fld Z h0 a1 "java/lang/String" "coder" "B" (.int 0)) : CtrN l Z (⟨"java/lang/String", "isLatin1", "()Z"⟩ : MethodName) jdk_42_method_154_code 1 (some .boolean) [] rm_isLatin10 #[(.ref a1)] h0 [] n0 (Q_isLatin10 Z a1 h0) := by
  refine enterN (a0 := a0) (plainFor_of_name pn_1) O0 all0 ?_
  intro p e s m below meth c T0 hx hby hml hrt hnm hlk A0
  replace A0 : Wk false Z a0 [] n0 h0 [] "java/lang/String" p l e rm_isLatin10 s m #[(.ref a1)] below meth c [] T0 h0 0 0 := A0
  refine Run.st (T0.setTop (mkF m 0 #[vA a1] [])) (fun _ k => castTop (ef_isLatin10 m a1) k) ?_
  obtain ⟨zc, Sc, hzc⟩ := H.2.1
  obtain ⟨fm, Sfm, rfm⟩ := H.2.2.1
  obtain ⟨T33, A33, st33⟩ := A0.getS hx (tw37 H.1) Via.refl (Sc.ext A0.old.2) (g := (mkF m 0 #[vA a1] [])) rfl (hb hby d3_0)
  refine Run.st (T33.setTop (mkF m 3 #[vA a1] [.int zc])) st33 ?_
  refine Run.st (T33.setTop (mkF m 7 #[vA a1] [(.ref a1)])) (fun _ k => XS.ifNo A33.here hx rfl (hb hby d3_3) rfl (by rw [if0]; exact (feq hzc).1) (XS.aloadN A33.here hx rfl (hb hby d3_6) rfl rfl k)) ?_
  obtain ⟨T34, A34, st34⟩ := A33.getF hx (tw27 H.1) Via.refl F1 (g := (mkF m 7 #[vA a1] [(.ref a1)])) rfl rfl (hb hby d3_7)
  refine Run.st (T34.setTop (mkF m 10 #[vA a1] [.int 0])) st34 ?_
  refine Run.st (T34.setTop (mkF m 18 #[vA a1] [.int 1])) (fun _ k => XS.ifNo A34.here hx rfl (hb hby d3_10) rfl (by decide) (XS.iconst A34.here hx rfl (hb hby d3_13) (XS.goto A34.here hx rfl (pc0 := 14) (pc' := 18) rfl (hb hby d3_14) (by decide) (by decide) k))) ?_
  exact A34.leaveN hlk (some (.int (1 : Int32))) (fun q => by rw [hrt] at q; cases q) (by decide) (by decide) ⟨rfl, rfl⟩ (fun X hr => retN X hx (t := .boolean) hrt (by simp) (hb hby d3_18) hr)
theorem ef_isLatin11 (m : MethodId) (y0 : Addr) : entryFrame m #[(.ref y0)] 1 = mkF m 0 #[vA y0] [] := by first | (simp [entryFrame, mkF, argsToLocals, vI, vA, Value.category, maxLocals]; done) | rfl
def Q_isLatin11 (Z : State) (a1 : Addr) (h0 : Heap) (v : Option Value) (h : Heap) : Prop := v = some (.int 0) ∧ h = h0
def rm_isLatin11 : Room := { frames := 0, cells := 0, slots := 0, locals := 0 }
set_option maxRecDepth 65536 in
set_option maxHeartbeats 40000000 in
theorem ct_isLatin11 {l : Launch} {Z : State} {a0 : Array Value} (H : Ev Z a0) (a1 : Addr) {h0 : Heap} {n0 : Nat} (O0 : Old Z n0 h0) (F1 : Fld Z h0 a1 "java/lang/String" "coder" "B" (.int 1)) : CtrN l Z (⟨"java/lang/String", "isLatin1", "()Z"⟩ : MethodName) jdk_42_method_154_code 1 (some .boolean) [] rm_isLatin11 #[(.ref a1)] h0 [] n0 (Q_isLatin11 Z a1 h0) := by
  refine enterN (a0 := a0) (plainFor_of_name pn_1) O0 all0 ?_
  intro p e s m below meth c T0 hx hby hml hrt hnm hlk A0
  replace A0 : Wk false Z a0 [] n0 h0 [] "java/lang/String" p l e rm_isLatin11 s m #[(.ref a1)] below meth c [] T0 h0 0 0 := A0
  refine Run.st (T0.setTop (mkF m 0 #[vA a1] [])) (fun _ k => castTop (ef_isLatin11 m a1) k) ?_
  obtain ⟨zc, Sc, hzc⟩ := H.2.1
  obtain ⟨fm, Sfm, rfm⟩ := H.2.2.1
  obtain ⟨T35, A35, st35⟩ := A0.getS hx (tw37 H.1) Via.refl (Sc.ext A0.old.2) (g := (mkF m 0 #[vA a1] [])) rfl (hb hby d3_0)
  refine Run.st (T35.setTop (mkF m 3 #[vA a1] [.int zc])) st35 ?_
  refine Run.st (T35.setTop (mkF m 7 #[vA a1] [(.ref a1)])) (fun _ k => XS.ifNo A35.here hx rfl (hb hby d3_3) rfl (by rw [if0]; exact (feq hzc).1) (XS.aloadN A35.here hx rfl (hb hby d3_6) rfl rfl k)) ?_
  obtain ⟨T36, A36, st36⟩ := A35.getF hx (tw27 H.1) Via.refl F1 (g := (mkF m 7 #[vA a1] [(.ref a1)])) rfl rfl (hb hby d3_7)
  refine Run.st (T36.setTop (mkF m 10 #[vA a1] [.int 1])) st36 ?_
  refine Run.st (T36.setTop (mkF m 18 #[vA a1] [.int 0])) (fun _ k => XS.ifYes A36.here hx rfl (pc0 := 10) (pc' := 17) rfl (hb hby d3_10) rfl (by decide) (by decide) (by decide) (XS.iconst A36.here hx rfl (hb hby d3_17) k)) ?_
  exact A36.leaveN hlk (some (.int (0 : Int32))) (fun q => by rw [hrt] at q; cases q) (by decide) (by decide) ⟨rfl, rfl⟩ (fun X hr => retN X hx (t := .boolean) hrt (by simp) (hb hby d3_18) hr)
theorem ef_length0 (m : MethodId) (y0 : Addr) : entryFrame m #[(.ref y0)] 1 = mkF m 0 #[vA y0] [] := by first | (simp [entryFrame, mkF, argsToLocals, vI, vA, Value.category, maxLocals]; done) | rfl
def Q_length0 (Z : State) (a1 : Addr) (h0 : Heap) (v : Option Value) (h : Heap) : Prop := v = some (.int 0) ∧ h = h0
def rm_length0 : Room := { frames := 1, cells := 0, slots := 0, locals := 13 }
set_option maxRecDepth 65536 in
set_option maxHeartbeats 40000000 in
theorem ct_length0 {l : Launch} {Z : State} {a0 : Array Value} (H : Ev Z a0) (a1 : Addr) {h0 : Heap} {n0 : Nat} (O0 : Old Z n0 h0) (S1 : StrU Z h0 a1 []) : CtrN l Z (⟨"java/lang/String", "length", "()I"⟩ : MethodName) jdk_42_method_54_code 1 (some .int) [] rm_length0 #[(.ref a1)] h0 [] n0 (Q_length0 Z a1 h0) := by
  refine enterN (a0 := a0) (plainFor_of_name pn_1) O0 all0 ?_
  intro p e s m below meth c T0 hx hby hml hrt hnm hlk A0
  replace A0 : Wk false Z a0 [] n0 h0 [] "java/lang/String" p l e rm_length0 s m #[(.ref a1)] below meth c [] T0 h0 0 0 := A0
  refine Run.st (T0.setTop (mkF m 0 #[vA a1] [])) (fun _ k => castTop (ef_length0 m a1) k) ?_
  obtain ⟨zc, Sc, hzc⟩ := H.2.1
  obtain ⟨fm, Sfm, rfm⟩ := H.2.2.1
  obtain ⟨E1, b1, k1, Fv1, S2⟩ := S1
  rcases S2 with ⟨Fc1, Va1, hr1⟩ | ⟨Fc1, Va1, hp1⟩
  · refine Run.st (T0.setTop (mkF m 1 #[vA a1] [(.ref a1)])) (fun _ k => XS.aloadN A0.here hx rfl (hb hby d4_0) rfl rfl k) ?_
    obtain ⟨T37, A37, st37⟩ := A0.getF hx (tw26 H.1) Via.refl Fv1 (g := (mkF m 1 #[vA a1] [(.ref a1)])) rfl rfl (hb hby d4_1)
    refine Run.st (T37.setTop (mkF m 4 #[vA a1] [(.ref b1)])) st37 ?_
    refine Run.st (T37.setTop (mkF m 5 #[vA a1] [.int 0])) (A37.alen hx Va1 (g := (mkF m 4 #[vA a1] [(.ref b1)])) rfl rfl (hb hby d4_4)) ?_
    refine Run.st (T37.setTop (mkF m 6 #[vA a1] [(.ref a1), .int 0])) (fun _ k => XS.aloadN A37.here hx rfl (hb hby d4_5) rfl rfl k) ?_
    obtain ⟨v38, T38, h38, AA38, K38, ⟨L38, Q38⟩, st38⟩ := A37.callV hx (y := (⟨"java/lang/String", "coder", "()B"⟩ : MethodName)) (z := (⟨"java/lang/String", "coder", "()B"⟩ : MethodName)) (tw56 H.1) (tw57 H.1) (tw59 H.1) (tw58 H.1) (nfSel (tw59 H.1)) (by decide) E1 (g := (mkF m 6 #[vA a1] [(.ref a1), .int 0])) rfl (by rw [hml]; rfl) [] [(.int (0 : Int32))] (lenOf pd_0 rfl) rfl (Wd := 1) (Nat.le_refl _) (hb hby d4_6) (by decide) (by decide) [] (fun _ _ _ q => q.2) all0 (fun vm0 hZ => payN (ct_coder0 H a1 A37.old Fc1) (tw60 H.1) (tw8 H.1) (by decide) (by decide) hZ)
    obtain ⟨Q38, N38, -⟩ := Q38
    obtain ⟨rfl, q38⟩ := Q38
    have q38 := q38.symm
    subst q38
    have A38 := AA38 [] all0
    refine Run.st (T38.setTop (mkF m 9 #[vA a1] [.int 0, .int 0])) st38 ?_
    refine Run.st (T38.setTop (mkF m 10 #[vA a1] [.int ((0 : Int32) >>> ((0 : Int32) &&& 31))])) (fun _ k => XS.ishr A38.here hx rfl (hb hby d4_9) rfl k) ?_
    rw [show ((0 : Int32) >>> ((0 : Int32) &&& 31)) = (0 : Int32) from shr0 (0 : Int32)]
    exact A38.leaveN hlk (some (.int (0 : Int32))) (fun q => by rw [hrt] at q; cases q) (by decide) (by decide) ⟨rfl, rfl⟩ (fun X hr => retOut X hx (w := (.int (0 : Int32))) (t := .int) hrt rfl (Or.inl ⟨rfl, Or.inl rfl, _, rfl⟩) (hb hby d4_10) hr)
  · exact absurd hp1 (by decide)
theorem ef_length1 (m : MethodId) (y0 : Addr) : entryFrame m #[(.ref y0)] 1 = mkF m 0 #[vA y0] [] := by first | (simp [entryFrame, mkF, argsToLocals, vI, vA, Value.category, maxLocals]; done) | rfl
def Q_length1 (Z : State) (a1 : Addr) (c1 : Int32) (h0 : Heap) (v : Option Value) (h : Heap) : Prop := v = some (.int 1) ∧ h = h0
def rm_length1 : Room := { frames := 1, cells := 0, slots := 0, locals := 13 }
set_option maxRecDepth 65536 in
set_option maxHeartbeats 40000000 in
theorem ct_length1 {l : Launch} {Z : State} {a0 : Array Value} (H : Ev Z a0) (a1 : Addr) (c1 : Int32) {h0 : Heap} {n0 : Nat} (O0 : Old Z n0 h0) (S1 : StrU Z h0 a1 [c1]) : CtrN l Z (⟨"java/lang/String", "length", "()I"⟩ : MethodName) jdk_42_method_54_code 1 (some .int) [] rm_length1 #[(.ref a1)] h0 [] n0 (Q_length1 Z a1 c1 h0) := by
  refine enterN (a0 := a0) (plainFor_of_name pn_1) O0 all0 ?_
  intro p e s m below meth c T0 hx hby hml hrt hnm hlk A0
  replace A0 : Wk false Z a0 [] n0 h0 [] "java/lang/String" p l e rm_length1 s m #[(.ref a1)] below meth c [] T0 h0 0 0 := A0
  refine Run.st (T0.setTop (mkF m 0 #[vA a1] [])) (fun _ k => castTop (ef_length1 m a1) k) ?_
  obtain ⟨zc, Sc, hzc⟩ := H.2.1
  obtain ⟨fm, Sfm, rfm⟩ := H.2.2.1
  obtain ⟨E1, b1, k1, Fv1, S2⟩ := S1
  rcases S2 with ⟨Fc1, Va1, hr1⟩ | ⟨Fc1, Va1, hp1⟩
  · refine Run.st (T0.setTop (mkF m 1 #[vA a1] [(.ref a1)])) (fun _ k => XS.aloadN A0.here hx rfl (hb hby d4_0) rfl rfl k) ?_
    obtain ⟨T39, A39, st39⟩ := A0.getF hx (tw26 H.1) Via.refl Fv1 (g := (mkF m 1 #[vA a1] [(.ref a1)])) rfl rfl (hb hby d4_1)
    refine Run.st (T39.setTop (mkF m 4 #[vA a1] [(.ref b1)])) st39 ?_
    refine Run.st (T39.setTop (mkF m 5 #[vA a1] [.int 1])) (A39.alen hx Va1 (g := (mkF m 4 #[vA a1] [(.ref b1)])) rfl rfl (hb hby d4_4)) ?_
    refine Run.st (T39.setTop (mkF m 6 #[vA a1] [(.ref a1), .int 1])) (fun _ k => XS.aloadN A39.here hx rfl (hb hby d4_5) rfl rfl k) ?_
    obtain ⟨v40, T40, h40, AA40, K40, ⟨L40, Q40⟩, st40⟩ := A39.callV hx (y := (⟨"java/lang/String", "coder", "()B"⟩ : MethodName)) (z := (⟨"java/lang/String", "coder", "()B"⟩ : MethodName)) (tw56 H.1) (tw57 H.1) (tw59 H.1) (tw58 H.1) (nfSel (tw59 H.1)) (by decide) E1 (g := (mkF m 6 #[vA a1] [(.ref a1), .int 1])) rfl (by rw [hml]; rfl) [] [(.int (1 : Int32))] (lenOf pd_0 rfl) rfl (Wd := 1) (Nat.le_refl _) (hb hby d4_6) (by decide) (by decide) [] (fun _ _ _ q => q.2) all0 (fun vm0 hZ => payN (ct_coder0 H a1 A39.old Fc1) (tw60 H.1) (tw8 H.1) (by decide) (by decide) hZ)
    obtain ⟨Q40, N40, -⟩ := Q40
    obtain ⟨rfl, q40⟩ := Q40
    have q40 := q40.symm
    subst q40
    have A40 := AA40 [] all0
    refine Run.st (T40.setTop (mkF m 9 #[vA a1] [.int 0, .int 1])) st40 ?_
    refine Run.st (T40.setTop (mkF m 10 #[vA a1] [.int ((1 : Int32) >>> ((0 : Int32) &&& 31))])) (fun _ k => XS.ishr A40.here hx rfl (hb hby d4_9) rfl k) ?_
    rw [show ((1 : Int32) >>> ((0 : Int32) &&& 31)) = (1 : Int32) from shr0 (1 : Int32)]
    exact A40.leaveN hlk (some (.int (1 : Int32))) (fun q => by rw [hrt] at q; cases q) (by decide) (by decide) ⟨rfl, rfl⟩ (fun X hr => retOut X hx (w := (.int (1 : Int32))) (t := .int) hrt rfl (Or.inl ⟨rfl, Or.inl rfl, _, rfl⟩) (hb hby d4_10) hr)
  · refine Run.st (T0.setTop (mkF m 1 #[vA a1] [(.ref a1)])) (fun _ k => XS.aloadN A0.here hx rfl (hb hby d4_0) rfl rfl k) ?_
    obtain ⟨T41, A41, st41⟩ := A0.getF hx (tw26 H.1) Via.refl Fv1 (g := (mkF m 1 #[vA a1] [(.ref a1)])) rfl rfl (hb hby d4_1)
    refine Run.st (T41.setTop (mkF m 4 #[vA a1] [(.ref b1)])) st41 ?_
    refine Run.st (T41.setTop (mkF m 5 #[vA a1] [.int 2])) (A41.alen hx Va1 (g := (mkF m 4 #[vA a1] [(.ref b1)])) rfl rfl (hb hby d4_4)) ?_
    refine Run.st (T41.setTop (mkF m 6 #[vA a1] [(.ref a1), .int 2])) (fun _ k => XS.aloadN A41.here hx rfl (hb hby d4_5) rfl rfl k) ?_
    obtain ⟨v42, T42, h42, AA42, K42, ⟨L42, Q42⟩, st42⟩ := A41.callV hx (y := (⟨"java/lang/String", "coder", "()B"⟩ : MethodName)) (z := (⟨"java/lang/String", "coder", "()B"⟩ : MethodName)) (tw56 H.1) (tw57 H.1) (tw59 H.1) (tw58 H.1) (nfSel (tw59 H.1)) (by decide) E1 (g := (mkF m 6 #[vA a1] [(.ref a1), .int 2])) rfl (by rw [hml]; rfl) [] [(.int (2 : Int32))] (lenOf pd_0 rfl) rfl (Wd := 1) (Nat.le_refl _) (hb hby d4_6) (by decide) (by decide) [] (fun _ _ _ q => q.2) all0 (fun vm0 hZ => payN (ct_coder1 H a1 A41.old Fc1) (tw60 H.1) (tw8 H.1) (by decide) (by decide) hZ)
    obtain ⟨Q42, N42, -⟩ := Q42
    obtain ⟨rfl, q42⟩ := Q42
    have q42 := q42.symm
    subst q42
    have A42 := AA42 [] all0
    refine Run.st (T42.setTop (mkF m 9 #[vA a1] [.int 1, .int 2])) st42 ?_
    refine Run.st (T42.setTop (mkF m 10 #[vA a1] [.int ((2 : Int32) >>> ((1 : Int32) &&& 31))])) (fun _ k => XS.ishr A42.here hx rfl (hb hby d4_9) rfl k) ?_
    rw [show ((2 : Int32) >>> ((1 : Int32) &&& 31)) = (1 : Int32) from (by decide)]
    exact A42.leaveN hlk (some (.int (1 : Int32))) (fun q => by rw [hrt] at q; cases q) (by decide) (by decide) ⟨rfl, rfl⟩ (fun X hr => retOut X hx (w := (.int (1 : Int32))) (t := .int) hrt rfl (Or.inl ⟨rfl, Or.inl rfl, _, rfl⟩) (hb hby d4_10) hr)
theorem ef_length2 (m : MethodId) (y0 : Addr) : entryFrame m #[(.ref y0)] 1 = mkF m 0 #[vA y0] [] := by first | (simp [entryFrame, mkF, argsToLocals, vI, vA, Value.category, maxLocals]; done) | rfl
def Q_length2 (Z : State) (a1 : Addr) (c1 : Int32) (c2 : Int32) (h0 : Heap) (v : Option Value) (h : Heap) : Prop := v = some (.int 2) ∧ h = h0
def rm_length2 : Room := { frames := 1, cells := 0, slots := 0, locals := 13 }
set_option maxRecDepth 65536 in
set_option maxHeartbeats 40000000 in
theorem ct_length2 {l : Launch} {Z : State} {a0 : Array Value} (H : Ev Z a0) (a1 : Addr) (c1 : Int32) (c2 : Int32) {h0 : Heap} {n0 : Nat} (O0 : Old Z n0 h0) (S1 : StrU Z h0 a1 [c1, c2]) : CtrN l Z (⟨"java/lang/String", "length", "()I"⟩ : MethodName) jdk_42_method_54_code 1 (some .int) [] rm_length2 #[(.ref a1)] h0 [] n0 (Q_length2 Z a1 c1 c2 h0) := by
  refine enterN (a0 := a0) (plainFor_of_name pn_1) O0 all0 ?_
  intro p e s m below meth c T0 hx hby hml hrt hnm hlk A0
  replace A0 : Wk false Z a0 [] n0 h0 [] "java/lang/String" p l e rm_length2 s m #[(.ref a1)] below meth c [] T0 h0 0 0 := A0
  refine Run.st (T0.setTop (mkF m 0 #[vA a1] [])) (fun _ k => castTop (ef_length2 m a1) k) ?_
  obtain ⟨zc, Sc, hzc⟩ := H.2.1
  obtain ⟨fm, Sfm, rfm⟩ := H.2.2.1
  obtain ⟨E1, b1, k1, Fv1, S2⟩ := S1
  rcases S2 with ⟨Fc1, Va1, hr1⟩ | ⟨Fc1, Va1, hp1⟩
  · refine Run.st (T0.setTop (mkF m 1 #[vA a1] [(.ref a1)])) (fun _ k => XS.aloadN A0.here hx rfl (hb hby d4_0) rfl rfl k) ?_
    obtain ⟨T43, A43, st43⟩ := A0.getF hx (tw26 H.1) Via.refl Fv1 (g := (mkF m 1 #[vA a1] [(.ref a1)])) rfl rfl (hb hby d4_1)
    refine Run.st (T43.setTop (mkF m 4 #[vA a1] [(.ref b1)])) st43 ?_
    refine Run.st (T43.setTop (mkF m 5 #[vA a1] [.int 2])) (A43.alen hx Va1 (g := (mkF m 4 #[vA a1] [(.ref b1)])) rfl rfl (hb hby d4_4)) ?_
    refine Run.st (T43.setTop (mkF m 6 #[vA a1] [(.ref a1), .int 2])) (fun _ k => XS.aloadN A43.here hx rfl (hb hby d4_5) rfl rfl k) ?_
    obtain ⟨v44, T44, h44, AA44, K44, ⟨L44, Q44⟩, st44⟩ := A43.callV hx (y := (⟨"java/lang/String", "coder", "()B"⟩ : MethodName)) (z := (⟨"java/lang/String", "coder", "()B"⟩ : MethodName)) (tw56 H.1) (tw57 H.1) (tw59 H.1) (tw58 H.1) (nfSel (tw59 H.1)) (by decide) E1 (g := (mkF m 6 #[vA a1] [(.ref a1), .int 2])) rfl (by rw [hml]; rfl) [] [(.int (2 : Int32))] (lenOf pd_0 rfl) rfl (Wd := 1) (Nat.le_refl _) (hb hby d4_6) (by decide) (by decide) [] (fun _ _ _ q => q.2) all0 (fun vm0 hZ => payN (ct_coder0 H a1 A43.old Fc1) (tw60 H.1) (tw8 H.1) (by decide) (by decide) hZ)
    obtain ⟨Q44, N44, -⟩ := Q44
    obtain ⟨rfl, q44⟩ := Q44
    have q44 := q44.symm
    subst q44
    have A44 := AA44 [] all0
    refine Run.st (T44.setTop (mkF m 9 #[vA a1] [.int 0, .int 2])) st44 ?_
    refine Run.st (T44.setTop (mkF m 10 #[vA a1] [.int ((2 : Int32) >>> ((0 : Int32) &&& 31))])) (fun _ k => XS.ishr A44.here hx rfl (hb hby d4_9) rfl k) ?_
    rw [show ((2 : Int32) >>> ((0 : Int32) &&& 31)) = (2 : Int32) from shr0 (2 : Int32)]
    exact A44.leaveN hlk (some (.int (2 : Int32))) (fun q => by rw [hrt] at q; cases q) (by decide) (by decide) ⟨rfl, rfl⟩ (fun X hr => retOut X hx (w := (.int (2 : Int32))) (t := .int) hrt rfl (Or.inl ⟨rfl, Or.inl rfl, _, rfl⟩) (hb hby d4_10) hr)
  · refine Run.st (T0.setTop (mkF m 1 #[vA a1] [(.ref a1)])) (fun _ k => XS.aloadN A0.here hx rfl (hb hby d4_0) rfl rfl k) ?_
    obtain ⟨T45, A45, st45⟩ := A0.getF hx (tw26 H.1) Via.refl Fv1 (g := (mkF m 1 #[vA a1] [(.ref a1)])) rfl rfl (hb hby d4_1)
    refine Run.st (T45.setTop (mkF m 4 #[vA a1] [(.ref b1)])) st45 ?_
    refine Run.st (T45.setTop (mkF m 5 #[vA a1] [.int 4])) (A45.alen hx Va1 (g := (mkF m 4 #[vA a1] [(.ref b1)])) rfl rfl (hb hby d4_4)) ?_
    refine Run.st (T45.setTop (mkF m 6 #[vA a1] [(.ref a1), .int 4])) (fun _ k => XS.aloadN A45.here hx rfl (hb hby d4_5) rfl rfl k) ?_
    obtain ⟨v46, T46, h46, AA46, K46, ⟨L46, Q46⟩, st46⟩ := A45.callV hx (y := (⟨"java/lang/String", "coder", "()B"⟩ : MethodName)) (z := (⟨"java/lang/String", "coder", "()B"⟩ : MethodName)) (tw56 H.1) (tw57 H.1) (tw59 H.1) (tw58 H.1) (nfSel (tw59 H.1)) (by decide) E1 (g := (mkF m 6 #[vA a1] [(.ref a1), .int 4])) rfl (by rw [hml]; rfl) [] [(.int (4 : Int32))] (lenOf pd_0 rfl) rfl (Wd := 1) (Nat.le_refl _) (hb hby d4_6) (by decide) (by decide) [] (fun _ _ _ q => q.2) all0 (fun vm0 hZ => payN (ct_coder1 H a1 A45.old Fc1) (tw60 H.1) (tw8 H.1) (by decide) (by decide) hZ)
    obtain ⟨Q46, N46, -⟩ := Q46
    obtain ⟨rfl, q46⟩ := Q46
    have q46 := q46.symm
    subst q46
    have A46 := AA46 [] all0
    refine Run.st (T46.setTop (mkF m 9 #[vA a1] [.int 1, .int 4])) st46 ?_
    refine Run.st (T46.setTop (mkF m 10 #[vA a1] [.int ((4 : Int32) >>> ((1 : Int32) &&& 31))])) (fun _ k => XS.ishr A46.here hx rfl (hb hby d4_9) rfl k) ?_
    rw [show ((4 : Int32) >>> ((1 : Int32) &&& 31)) = (2 : Int32) from (by decide)]
    exact A46.leaveN hlk (some (.int (2 : Int32))) (fun q => by rw [hrt] at q; cases q) (by decide) (by decide) ⟨rfl, rfl⟩ (fun X hr => retOut X hx (w := (.int (2 : Int32))) (t := .int) hrt rfl (Or.inl ⟨rfl, Or.inl rfl, _, rfl⟩) (hb hby d4_10) hr)
theorem ef_length3 (m : MethodId) (y0 : Addr) : entryFrame m #[(.ref y0)] 1 = mkF m 0 #[vA y0] [] := by first | (simp [entryFrame, mkF, argsToLocals, vI, vA, Value.category, maxLocals]; done) | rfl
def Q_length3 (Z : State) (a1 : Addr) (c1 : Int32) (c2 : Int32) (c3 : Int32) (h0 : Heap) (v : Option Value) (h : Heap) : Prop := v = some (.int 3) ∧ h = h0
def rm_length3 : Room := { frames := 1, cells := 0, slots := 0, locals := 13 }
set_option maxRecDepth 65536 in
set_option maxHeartbeats 40000000 in
theorem ct_length3 {l : Launch} {Z : State} {a0 : Array Value} (H : Ev Z a0) (a1 : Addr) (c1 : Int32) (c2 : Int32) (c3 : Int32) {h0 : Heap} {n0 : Nat} (O0 : Old Z n0 h0) (S1 : StrU Z h0 a1 [c1, c2, c3]) : CtrN l Z (⟨"java/lang/String", "length", "()I"⟩ : MethodName) jdk_42_method_54_code 1 (some .int) [] rm_length3 #[(.ref a1)] h0 [] n0 (Q_length3 Z a1 c1 c2 c3 h0) := by
  refine enterN (a0 := a0) (plainFor_of_name pn_1) O0 all0 ?_
  intro p e s m below meth c T0 hx hby hml hrt hnm hlk A0
  replace A0 : Wk false Z a0 [] n0 h0 [] "java/lang/String" p l e rm_length3 s m #[(.ref a1)] below meth c [] T0 h0 0 0 := A0
  refine Run.st (T0.setTop (mkF m 0 #[vA a1] [])) (fun _ k => castTop (ef_length3 m a1) k) ?_
  obtain ⟨zc, Sc, hzc⟩ := H.2.1
  obtain ⟨fm, Sfm, rfm⟩ := H.2.2.1
  obtain ⟨E1, b1, k1, Fv1, S2⟩ := S1
  rcases S2 with ⟨Fc1, Va1, hr1⟩ | ⟨Fc1, Va1, hp1⟩
  · refine Run.st (T0.setTop (mkF m 1 #[vA a1] [(.ref a1)])) (fun _ k => XS.aloadN A0.here hx rfl (hb hby d4_0) rfl rfl k) ?_
    obtain ⟨T47, A47, st47⟩ := A0.getF hx (tw26 H.1) Via.refl Fv1 (g := (mkF m 1 #[vA a1] [(.ref a1)])) rfl rfl (hb hby d4_1)
    refine Run.st (T47.setTop (mkF m 4 #[vA a1] [(.ref b1)])) st47 ?_
    refine Run.st (T47.setTop (mkF m 5 #[vA a1] [.int 3])) (A47.alen hx Va1 (g := (mkF m 4 #[vA a1] [(.ref b1)])) rfl rfl (hb hby d4_4)) ?_
    refine Run.st (T47.setTop (mkF m 6 #[vA a1] [(.ref a1), .int 3])) (fun _ k => XS.aloadN A47.here hx rfl (hb hby d4_5) rfl rfl k) ?_
    obtain ⟨v48, T48, h48, AA48, K48, ⟨L48, Q48⟩, st48⟩ := A47.callV hx (y := (⟨"java/lang/String", "coder", "()B"⟩ : MethodName)) (z := (⟨"java/lang/String", "coder", "()B"⟩ : MethodName)) (tw56 H.1) (tw57 H.1) (tw59 H.1) (tw58 H.1) (nfSel (tw59 H.1)) (by decide) E1 (g := (mkF m 6 #[vA a1] [(.ref a1), .int 3])) rfl (by rw [hml]; rfl) [] [(.int (3 : Int32))] (lenOf pd_0 rfl) rfl (Wd := 1) (Nat.le_refl _) (hb hby d4_6) (by decide) (by decide) [] (fun _ _ _ q => q.2) all0 (fun vm0 hZ => payN (ct_coder0 H a1 A47.old Fc1) (tw60 H.1) (tw8 H.1) (by decide) (by decide) hZ)
    obtain ⟨Q48, N48, -⟩ := Q48
    obtain ⟨rfl, q48⟩ := Q48
    have q48 := q48.symm
    subst q48
    have A48 := AA48 [] all0
    refine Run.st (T48.setTop (mkF m 9 #[vA a1] [.int 0, .int 3])) st48 ?_
    refine Run.st (T48.setTop (mkF m 10 #[vA a1] [.int ((3 : Int32) >>> ((0 : Int32) &&& 31))])) (fun _ k => XS.ishr A48.here hx rfl (hb hby d4_9) rfl k) ?_
    rw [show ((3 : Int32) >>> ((0 : Int32) &&& 31)) = (3 : Int32) from shr0 (3 : Int32)]
    exact A48.leaveN hlk (some (.int (3 : Int32))) (fun q => by rw [hrt] at q; cases q) (by decide) (by decide) ⟨rfl, rfl⟩ (fun X hr => retOut X hx (w := (.int (3 : Int32))) (t := .int) hrt rfl (Or.inl ⟨rfl, Or.inl rfl, _, rfl⟩) (hb hby d4_10) hr)
  · refine Run.st (T0.setTop (mkF m 1 #[vA a1] [(.ref a1)])) (fun _ k => XS.aloadN A0.here hx rfl (hb hby d4_0) rfl rfl k) ?_
    obtain ⟨T49, A49, st49⟩ := A0.getF hx (tw26 H.1) Via.refl Fv1 (g := (mkF m 1 #[vA a1] [(.ref a1)])) rfl rfl (hb hby d4_1)
    refine Run.st (T49.setTop (mkF m 4 #[vA a1] [(.ref b1)])) st49 ?_
    refine Run.st (T49.setTop (mkF m 5 #[vA a1] [.int 6])) (A49.alen hx Va1 (g := (mkF m 4 #[vA a1] [(.ref b1)])) rfl rfl (hb hby d4_4)) ?_
    refine Run.st (T49.setTop (mkF m 6 #[vA a1] [(.ref a1), .int 6])) (fun _ k => XS.aloadN A49.here hx rfl (hb hby d4_5) rfl rfl k) ?_
    obtain ⟨v50, T50, h50, AA50, K50, ⟨L50, Q50⟩, st50⟩ := A49.callV hx (y := (⟨"java/lang/String", "coder", "()B"⟩ : MethodName)) (z := (⟨"java/lang/String", "coder", "()B"⟩ : MethodName)) (tw56 H.1) (tw57 H.1) (tw59 H.1) (tw58 H.1) (nfSel (tw59 H.1)) (by decide) E1 (g := (mkF m 6 #[vA a1] [(.ref a1), .int 6])) rfl (by rw [hml]; rfl) [] [(.int (6 : Int32))] (lenOf pd_0 rfl) rfl (Wd := 1) (Nat.le_refl _) (hb hby d4_6) (by decide) (by decide) [] (fun _ _ _ q => q.2) all0 (fun vm0 hZ => payN (ct_coder1 H a1 A49.old Fc1) (tw60 H.1) (tw8 H.1) (by decide) (by decide) hZ)
    obtain ⟨Q50, N50, -⟩ := Q50
    obtain ⟨rfl, q50⟩ := Q50
    have q50 := q50.symm
    subst q50
    have A50 := AA50 [] all0
    refine Run.st (T50.setTop (mkF m 9 #[vA a1] [.int 1, .int 6])) st50 ?_
    refine Run.st (T50.setTop (mkF m 10 #[vA a1] [.int ((6 : Int32) >>> ((1 : Int32) &&& 31))])) (fun _ k => XS.ishr A50.here hx rfl (hb hby d4_9) rfl k) ?_
    rw [show ((6 : Int32) >>> ((1 : Int32) &&& 31)) = (3 : Int32) from (by decide)]
    exact A50.leaveN hlk (some (.int (3 : Int32))) (fun q => by rw [hrt] at q; cases q) (by decide) (by decide) ⟨rfl, rfl⟩ (fun X hr => retOut X hx (w := (.int (3 : Int32))) (t := .int) hrt rfl (Or.inl ⟨rfl, Or.inl rfl, _, rfl⟩) (hb hby d4_10) hr)
theorem ef_length4 (m : MethodId) (y0 : Addr) : entryFrame m #[(.ref y0)] 1 = mkF m 0 #[vA y0] [] := by first | (simp [entryFrame, mkF, argsToLocals, vI, vA, Value.category, maxLocals]; done) | rfl
def Q_length4 (Z : State) (a1 : Addr) (c1 : Int32) (c2 : Int32) (c3 : Int32) (c4 : Int32) (h0 : Heap) (v : Option Value) (h : Heap) : Prop := v = some (.int 4) ∧ h = h0
def rm_length4 : Room := { frames := 1, cells := 0, slots := 0, locals := 13 }
set_option maxRecDepth 65536 in
set_option maxHeartbeats 40000000 in
theorem ct_length4 {l : Launch} {Z : State} {a0 : Array Value} (H : Ev Z a0) (a1 : Addr) (c1 : Int32) (c2 : Int32) (c3 : Int32) (c4 : Int32) {h0 : Heap} {n0 : Nat} (O0 : Old Z n0 h0) (S1 : StrU Z h0 a1 [c1, c2, c3, c4]) : CtrN l Z (⟨"java/lang/String", "length", "()I"⟩ : MethodName) jdk_42_method_54_code 1 (some .int) [] rm_length4 #[(.ref a1)] h0 [] n0 (Q_length4 Z a1 c1 c2 c3 c4 h0) := by
  refine enterN (a0 := a0) (plainFor_of_name pn_1) O0 all0 ?_
  intro p e s m below meth c T0 hx hby hml hrt hnm hlk A0
  replace A0 : Wk false Z a0 [] n0 h0 [] "java/lang/String" p l e rm_length4 s m #[(.ref a1)] below meth c [] T0 h0 0 0 := A0
  refine Run.st (T0.setTop (mkF m 0 #[vA a1] [])) (fun _ k => castTop (ef_length4 m a1) k) ?_
  obtain ⟨zc, Sc, hzc⟩ := H.2.1
  obtain ⟨fm, Sfm, rfm⟩ := H.2.2.1
  obtain ⟨E1, b1, k1, Fv1, S2⟩ := S1
  rcases S2 with ⟨Fc1, Va1, hr1⟩ | ⟨Fc1, Va1, hp1⟩
  · refine Run.st (T0.setTop (mkF m 1 #[vA a1] [(.ref a1)])) (fun _ k => XS.aloadN A0.here hx rfl (hb hby d4_0) rfl rfl k) ?_
    obtain ⟨T51, A51, st51⟩ := A0.getF hx (tw26 H.1) Via.refl Fv1 (g := (mkF m 1 #[vA a1] [(.ref a1)])) rfl rfl (hb hby d4_1)
    refine Run.st (T51.setTop (mkF m 4 #[vA a1] [(.ref b1)])) st51 ?_
    refine Run.st (T51.setTop (mkF m 5 #[vA a1] [.int 4])) (A51.alen hx Va1 (g := (mkF m 4 #[vA a1] [(.ref b1)])) rfl rfl (hb hby d4_4)) ?_
    refine Run.st (T51.setTop (mkF m 6 #[vA a1] [(.ref a1), .int 4])) (fun _ k => XS.aloadN A51.here hx rfl (hb hby d4_5) rfl rfl k) ?_
    obtain ⟨v52, T52, h52, AA52, K52, ⟨L52, Q52⟩, st52⟩ := A51.callV hx (y := (⟨"java/lang/String", "coder", "()B"⟩ : MethodName)) (z := (⟨"java/lang/String", "coder", "()B"⟩ : MethodName)) (tw56 H.1) (tw57 H.1) (tw59 H.1) (tw58 H.1) (nfSel (tw59 H.1)) (by decide) E1 (g := (mkF m 6 #[vA a1] [(.ref a1), .int 4])) rfl (by rw [hml]; rfl) [] [(.int (4 : Int32))] (lenOf pd_0 rfl) rfl (Wd := 1) (Nat.le_refl _) (hb hby d4_6) (by decide) (by decide) [] (fun _ _ _ q => q.2) all0 (fun vm0 hZ => payN (ct_coder0 H a1 A51.old Fc1) (tw60 H.1) (tw8 H.1) (by decide) (by decide) hZ)
    obtain ⟨Q52, N52, -⟩ := Q52
    obtain ⟨rfl, q52⟩ := Q52
    have q52 := q52.symm
    subst q52
    have A52 := AA52 [] all0
    refine Run.st (T52.setTop (mkF m 9 #[vA a1] [.int 0, .int 4])) st52 ?_
    refine Run.st (T52.setTop (mkF m 10 #[vA a1] [.int ((4 : Int32) >>> ((0 : Int32) &&& 31))])) (fun _ k => XS.ishr A52.here hx rfl (hb hby d4_9) rfl k) ?_
    rw [show ((4 : Int32) >>> ((0 : Int32) &&& 31)) = (4 : Int32) from shr0 (4 : Int32)]
    exact A52.leaveN hlk (some (.int (4 : Int32))) (fun q => by rw [hrt] at q; cases q) (by decide) (by decide) ⟨rfl, rfl⟩ (fun X hr => retOut X hx (w := (.int (4 : Int32))) (t := .int) hrt rfl (Or.inl ⟨rfl, Or.inl rfl, _, rfl⟩) (hb hby d4_10) hr)
  · refine Run.st (T0.setTop (mkF m 1 #[vA a1] [(.ref a1)])) (fun _ k => XS.aloadN A0.here hx rfl (hb hby d4_0) rfl rfl k) ?_
    obtain ⟨T53, A53, st53⟩ := A0.getF hx (tw26 H.1) Via.refl Fv1 (g := (mkF m 1 #[vA a1] [(.ref a1)])) rfl rfl (hb hby d4_1)
    refine Run.st (T53.setTop (mkF m 4 #[vA a1] [(.ref b1)])) st53 ?_
    refine Run.st (T53.setTop (mkF m 5 #[vA a1] [.int 8])) (A53.alen hx Va1 (g := (mkF m 4 #[vA a1] [(.ref b1)])) rfl rfl (hb hby d4_4)) ?_
    refine Run.st (T53.setTop (mkF m 6 #[vA a1] [(.ref a1), .int 8])) (fun _ k => XS.aloadN A53.here hx rfl (hb hby d4_5) rfl rfl k) ?_
    obtain ⟨v54, T54, h54, AA54, K54, ⟨L54, Q54⟩, st54⟩ := A53.callV hx (y := (⟨"java/lang/String", "coder", "()B"⟩ : MethodName)) (z := (⟨"java/lang/String", "coder", "()B"⟩ : MethodName)) (tw56 H.1) (tw57 H.1) (tw59 H.1) (tw58 H.1) (nfSel (tw59 H.1)) (by decide) E1 (g := (mkF m 6 #[vA a1] [(.ref a1), .int 8])) rfl (by rw [hml]; rfl) [] [(.int (8 : Int32))] (lenOf pd_0 rfl) rfl (Wd := 1) (Nat.le_refl _) (hb hby d4_6) (by decide) (by decide) [] (fun _ _ _ q => q.2) all0 (fun vm0 hZ => payN (ct_coder1 H a1 A53.old Fc1) (tw60 H.1) (tw8 H.1) (by decide) (by decide) hZ)
    obtain ⟨Q54, N54, -⟩ := Q54
    obtain ⟨rfl, q54⟩ := Q54
    have q54 := q54.symm
    subst q54
    have A54 := AA54 [] all0
    refine Run.st (T54.setTop (mkF m 9 #[vA a1] [.int 1, .int 8])) st54 ?_
    refine Run.st (T54.setTop (mkF m 10 #[vA a1] [.int ((8 : Int32) >>> ((1 : Int32) &&& 31))])) (fun _ k => XS.ishr A54.here hx rfl (hb hby d4_9) rfl k) ?_
    rw [show ((8 : Int32) >>> ((1 : Int32) &&& 31)) = (4 : Int32) from (by decide)]
    exact A54.leaveN hlk (some (.int (4 : Int32))) (fun q => by rw [hrt] at q; cases q) (by decide) (by decide) ⟨rfl, rfl⟩ (fun X hr => retOut X hx (w := (.int (4 : Int32))) (t := .int) hrt rfl (Or.inl ⟨rfl, Or.inl rfl, _, rfl⟩) (hb hby d4_10) hr)
theorem ef_isEmpty0 (m : MethodId) (y0 : Addr) : entryFrame m #[(.ref y0)] 1 = mkF m 0 #[vA y0] [] := by first | (simp [entryFrame, mkF, argsToLocals, vI, vA, Value.category, maxLocals]; done) | rfl
def Q_isEmpty0 (Z : State) (a1 : Addr) (h0 : Heap) (v : Option Value) (h : Heap) : Prop := v = some (.int 1) ∧ h = h0
def rm_isEmpty0 : Room := { frames := 0, cells := 0, slots := 0, locals := 0 }
set_option maxRecDepth 65536 in
set_option maxHeartbeats 40000000 in
theorem ct_isEmpty0 {l : Launch} {Z : State} {a0 : Array Value} (H : Ev Z a0) (a1 : Addr) {h0 : Heap} {n0 : Nat} (O0 : Old Z n0 h0) (S1 : StrU Z h0 a1 []) : CtrN l Z (⟨"java/lang/String", "isEmpty", "()Z"⟩ : MethodName) jdk_42_method_55_code 1 (some .boolean) [] rm_isEmpty0 #[(.ref a1)] h0 [] n0 (Q_isEmpty0 Z a1 h0) := by
  refine enterN (a0 := a0) (plainFor_of_name pn_1) O0 all0 ?_
  intro p e s m below meth c T0 hx hby hml hrt hnm hlk A0
  replace A0 : Wk false Z a0 [] n0 h0 [] "java/lang/String" p l e rm_isEmpty0 s m #[(.ref a1)] below meth c [] T0 h0 0 0 := A0
  refine Run.st (T0.setTop (mkF m 0 #[vA a1] [])) (fun _ k => castTop (ef_isEmpty0 m a1) k) ?_
  obtain ⟨zc, Sc, hzc⟩ := H.2.1
  obtain ⟨fm, Sfm, rfm⟩ := H.2.2.1
  obtain ⟨E1, b1, k1, Fv1, S2⟩ := S1
  rcases S2 with ⟨Fc1, Va1, hr1⟩ | ⟨Fc1, Va1, hp1⟩
  · refine Run.st (T0.setTop (mkF m 1 #[vA a1] [(.ref a1)])) (fun _ k => XS.aloadN A0.here hx rfl (hb hby d5_0) rfl rfl k) ?_
    obtain ⟨T55, A55, st55⟩ := A0.getF hx (tw26 H.1) Via.refl Fv1 (g := (mkF m 1 #[vA a1] [(.ref a1)])) rfl rfl (hb hby d5_1)
    refine Run.st (T55.setTop (mkF m 4 #[vA a1] [(.ref b1)])) st55 ?_
    refine Run.st (T55.setTop (mkF m 5 #[vA a1] [.int 0])) (A55.alen hx Va1 (g := (mkF m 4 #[vA a1] [(.ref b1)])) rfl rfl (hb hby d5_4)) ?_
    refine Run.st (T55.setTop (mkF m 13 #[vA a1] [.int 1])) (fun _ k => XS.ifNo A55.here hx rfl (hb hby d5_5) rfl (by decide) (XS.iconst A55.here hx rfl (hb hby d5_8) (XS.goto A55.here hx rfl (pc0 := 9) (pc' := 13) rfl (hb hby d5_9) (by decide) (by decide) k))) ?_
    exact A55.leaveN hlk (some (.int (1 : Int32))) (fun q => by rw [hrt] at q; cases q) (by decide) (by decide) ⟨rfl, rfl⟩ (fun X hr => retN X hx (t := .boolean) hrt (by simp) (hb hby d5_13) hr)
  · exact absurd hp1 (by decide)
theorem ef_isEmpty1 (m : MethodId) (y0 : Addr) : entryFrame m #[(.ref y0)] 1 = mkF m 0 #[vA y0] [] := by first | (simp [entryFrame, mkF, argsToLocals, vI, vA, Value.category, maxLocals]; done) | rfl
def Q_isEmpty1 (Z : State) (a1 : Addr) (c1 : Int32) (h0 : Heap) (v : Option Value) (h : Heap) : Prop := v = some (.int 0) ∧ h = h0
def rm_isEmpty1 : Room := { frames := 0, cells := 0, slots := 0, locals := 0 }
set_option maxRecDepth 65536 in
set_option maxHeartbeats 40000000 in
theorem ct_isEmpty1 {l : Launch} {Z : State} {a0 : Array Value} (H : Ev Z a0) (a1 : Addr) (c1 : Int32) {h0 : Heap} {n0 : Nat} (O0 : Old Z n0 h0) (S1 : StrU Z h0 a1 [c1]) : CtrN l Z (⟨"java/lang/String", "isEmpty", "()Z"⟩ : MethodName) jdk_42_method_55_code 1 (some .boolean) [] rm_isEmpty1 #[(.ref a1)] h0 [] n0 (Q_isEmpty1 Z a1 c1 h0) := by
  refine enterN (a0 := a0) (plainFor_of_name pn_1) O0 all0 ?_
  intro p e s m below meth c T0 hx hby hml hrt hnm hlk A0
  replace A0 : Wk false Z a0 [] n0 h0 [] "java/lang/String" p l e rm_isEmpty1 s m #[(.ref a1)] below meth c [] T0 h0 0 0 := A0
  refine Run.st (T0.setTop (mkF m 0 #[vA a1] [])) (fun _ k => castTop (ef_isEmpty1 m a1) k) ?_
  obtain ⟨zc, Sc, hzc⟩ := H.2.1
  obtain ⟨fm, Sfm, rfm⟩ := H.2.2.1
  obtain ⟨E1, b1, k1, Fv1, S2⟩ := S1
  rcases S2 with ⟨Fc1, Va1, hr1⟩ | ⟨Fc1, Va1, hp1⟩
  · refine Run.st (T0.setTop (mkF m 1 #[vA a1] [(.ref a1)])) (fun _ k => XS.aloadN A0.here hx rfl (hb hby d5_0) rfl rfl k) ?_
    obtain ⟨T56, A56, st56⟩ := A0.getF hx (tw26 H.1) Via.refl Fv1 (g := (mkF m 1 #[vA a1] [(.ref a1)])) rfl rfl (hb hby d5_1)
    refine Run.st (T56.setTop (mkF m 4 #[vA a1] [(.ref b1)])) st56 ?_
    refine Run.st (T56.setTop (mkF m 5 #[vA a1] [.int 1])) (A56.alen hx Va1 (g := (mkF m 4 #[vA a1] [(.ref b1)])) rfl rfl (hb hby d5_4)) ?_
    refine Run.st (T56.setTop (mkF m 13 #[vA a1] [.int 0])) (fun _ k => XS.ifYes A56.here hx rfl (pc0 := 5) (pc' := 12) rfl (hb hby d5_5) rfl (by decide) (by decide) (by decide) (XS.iconst A56.here hx rfl (hb hby d5_12) k)) ?_
    exact A56.leaveN hlk (some (.int (0 : Int32))) (fun q => by rw [hrt] at q; cases q) (by decide) (by decide) ⟨rfl, rfl⟩ (fun X hr => retN X hx (t := .boolean) hrt (by simp) (hb hby d5_13) hr)
  · refine Run.st (T0.setTop (mkF m 1 #[vA a1] [(.ref a1)])) (fun _ k => XS.aloadN A0.here hx rfl (hb hby d5_0) rfl rfl k) ?_
    obtain ⟨T57, A57, st57⟩ := A0.getF hx (tw26 H.1) Via.refl Fv1 (g := (mkF m 1 #[vA a1] [(.ref a1)])) rfl rfl (hb hby d5_1)
    refine Run.st (T57.setTop (mkF m 4 #[vA a1] [(.ref b1)])) st57 ?_
    refine Run.st (T57.setTop (mkF m 5 #[vA a1] [.int 2])) (A57.alen hx Va1 (g := (mkF m 4 #[vA a1] [(.ref b1)])) rfl rfl (hb hby d5_4)) ?_
    refine Run.st (T57.setTop (mkF m 13 #[vA a1] [.int 0])) (fun _ k => XS.ifYes A57.here hx rfl (pc0 := 5) (pc' := 12) rfl (hb hby d5_5) rfl (by decide) (by decide) (by decide) (XS.iconst A57.here hx rfl (hb hby d5_12) k)) ?_
    exact A57.leaveN hlk (some (.int (0 : Int32))) (fun q => by rw [hrt] at q; cases q) (by decide) (by decide) ⟨rfl, rfl⟩ (fun X hr => retN X hx (t := .boolean) hrt (by simp) (hb hby d5_13) hr)
theorem ef_isEmpty2 (m : MethodId) (y0 : Addr) : entryFrame m #[(.ref y0)] 1 = mkF m 0 #[vA y0] [] := by first | (simp [entryFrame, mkF, argsToLocals, vI, vA, Value.category, maxLocals]; done) | rfl
def Q_isEmpty2 (Z : State) (a1 : Addr) (c1 : Int32) (c2 : Int32) (h0 : Heap) (v : Option Value) (h : Heap) : Prop := v = some (.int 0) ∧ h = h0
def rm_isEmpty2 : Room := { frames := 0, cells := 0, slots := 0, locals := 0 }
set_option maxRecDepth 65536 in
set_option maxHeartbeats 40000000 in
theorem ct_isEmpty2 {l : Launch} {Z : State} {a0 : Array Value} (H : Ev Z a0) (a1 : Addr) (c1 : Int32) (c2 : Int32) {h0 : Heap} {n0 : Nat} (O0 : Old Z n0 h0) (S1 : StrU Z h0 a1 [c1, c2]) : CtrN l Z (⟨"java/lang/String", "isEmpty", "()Z"⟩ : MethodName) jdk_42_method_55_code 1 (some .boolean) [] rm_isEmpty2 #[(.ref a1)] h0 [] n0 (Q_isEmpty2 Z a1 c1 c2 h0) := by
  refine enterN (a0 := a0) (plainFor_of_name pn_1) O0 all0 ?_
  intro p e s m below meth c T0 hx hby hml hrt hnm hlk A0
  replace A0 : Wk false Z a0 [] n0 h0 [] "java/lang/String" p l e rm_isEmpty2 s m #[(.ref a1)] below meth c [] T0 h0 0 0 := A0
  refine Run.st (T0.setTop (mkF m 0 #[vA a1] [])) (fun _ k => castTop (ef_isEmpty2 m a1) k) ?_
  obtain ⟨zc, Sc, hzc⟩ := H.2.1
  obtain ⟨fm, Sfm, rfm⟩ := H.2.2.1
  obtain ⟨E1, b1, k1, Fv1, S2⟩ := S1
  rcases S2 with ⟨Fc1, Va1, hr1⟩ | ⟨Fc1, Va1, hp1⟩
  · refine Run.st (T0.setTop (mkF m 1 #[vA a1] [(.ref a1)])) (fun _ k => XS.aloadN A0.here hx rfl (hb hby d5_0) rfl rfl k) ?_
    obtain ⟨T58, A58, st58⟩ := A0.getF hx (tw26 H.1) Via.refl Fv1 (g := (mkF m 1 #[vA a1] [(.ref a1)])) rfl rfl (hb hby d5_1)
    refine Run.st (T58.setTop (mkF m 4 #[vA a1] [(.ref b1)])) st58 ?_
    refine Run.st (T58.setTop (mkF m 5 #[vA a1] [.int 2])) (A58.alen hx Va1 (g := (mkF m 4 #[vA a1] [(.ref b1)])) rfl rfl (hb hby d5_4)) ?_
    refine Run.st (T58.setTop (mkF m 13 #[vA a1] [.int 0])) (fun _ k => XS.ifYes A58.here hx rfl (pc0 := 5) (pc' := 12) rfl (hb hby d5_5) rfl (by decide) (by decide) (by decide) (XS.iconst A58.here hx rfl (hb hby d5_12) k)) ?_
    exact A58.leaveN hlk (some (.int (0 : Int32))) (fun q => by rw [hrt] at q; cases q) (by decide) (by decide) ⟨rfl, rfl⟩ (fun X hr => retN X hx (t := .boolean) hrt (by simp) (hb hby d5_13) hr)
  · refine Run.st (T0.setTop (mkF m 1 #[vA a1] [(.ref a1)])) (fun _ k => XS.aloadN A0.here hx rfl (hb hby d5_0) rfl rfl k) ?_
    obtain ⟨T59, A59, st59⟩ := A0.getF hx (tw26 H.1) Via.refl Fv1 (g := (mkF m 1 #[vA a1] [(.ref a1)])) rfl rfl (hb hby d5_1)
    refine Run.st (T59.setTop (mkF m 4 #[vA a1] [(.ref b1)])) st59 ?_
    refine Run.st (T59.setTop (mkF m 5 #[vA a1] [.int 4])) (A59.alen hx Va1 (g := (mkF m 4 #[vA a1] [(.ref b1)])) rfl rfl (hb hby d5_4)) ?_
    refine Run.st (T59.setTop (mkF m 13 #[vA a1] [.int 0])) (fun _ k => XS.ifYes A59.here hx rfl (pc0 := 5) (pc' := 12) rfl (hb hby d5_5) rfl (by decide) (by decide) (by decide) (XS.iconst A59.here hx rfl (hb hby d5_12) k)) ?_
    exact A59.leaveN hlk (some (.int (0 : Int32))) (fun q => by rw [hrt] at q; cases q) (by decide) (by decide) ⟨rfl, rfl⟩ (fun X hr => retN X hx (t := .boolean) hrt (by simp) (hb hby d5_13) hr)
theorem ef_isEmpty3 (m : MethodId) (y0 : Addr) : entryFrame m #[(.ref y0)] 1 = mkF m 0 #[vA y0] [] := by first | (simp [entryFrame, mkF, argsToLocals, vI, vA, Value.category, maxLocals]; done) | rfl
def Q_isEmpty3 (Z : State) (a1 : Addr) (c1 : Int32) (c2 : Int32) (c3 : Int32) (h0 : Heap) (v : Option Value) (h : Heap) : Prop := v = some (.int 0) ∧ h = h0
def rm_isEmpty3 : Room := { frames := 0, cells := 0, slots := 0, locals := 0 }
set_option maxRecDepth 65536 in
set_option maxHeartbeats 40000000 in
theorem ct_isEmpty3 {l : Launch} {Z : State} {a0 : Array Value} (H : Ev Z a0) (a1 : Addr) (c1 : Int32) (c2 : Int32) (c3 : Int32) {h0 : Heap} {n0 : Nat} (O0 : Old Z n0 h0) (S1 : StrU Z h0 a1 [c1, c2, c3]) : CtrN l Z (⟨"java/lang/String", "isEmpty", "()Z"⟩ : MethodName) jdk_42_method_55_code 1 (some .boolean) [] rm_isEmpty3 #[(.ref a1)] h0 [] n0 (Q_isEmpty3 Z a1 c1 c2 c3 h0) := by
  refine enterN (a0 := a0) (plainFor_of_name pn_1) O0 all0 ?_
  intro p e s m below meth c T0 hx hby hml hrt hnm hlk A0
  replace A0 : Wk false Z a0 [] n0 h0 [] "java/lang/String" p l e rm_isEmpty3 s m #[(.ref a1)] below meth c [] T0 h0 0 0 := A0
  refine Run.st (T0.setTop (mkF m 0 #[vA a1] [])) (fun _ k => castTop (ef_isEmpty3 m a1) k) ?_
  obtain ⟨zc, Sc, hzc⟩ := H.2.1
  obtain ⟨fm, Sfm, rfm⟩ := H.2.2.1
  obtain ⟨E1, b1, k1, Fv1, S2⟩ := S1
  rcases S2 with ⟨Fc1, Va1, hr1⟩ | ⟨Fc1, Va1, hp1⟩
  · refine Run.st (T0.setTop (mkF m 1 #[vA a1] [(.ref a1)])) (fun _ k => XS.aloadN A0.here hx rfl (hb hby d5_0) rfl rfl k) ?_
    obtain ⟨T60, A60, st60⟩ := A0.getF hx (tw26 H.1) Via.refl Fv1 (g := (mkF m 1 #[vA a1] [(.ref a1)])) rfl rfl (hb hby d5_1)
    refine Run.st (T60.setTop (mkF m 4 #[vA a1] [(.ref b1)])) st60 ?_
    refine Run.st (T60.setTop (mkF m 5 #[vA a1] [.int 3])) (A60.alen hx Va1 (g := (mkF m 4 #[vA a1] [(.ref b1)])) rfl rfl (hb hby d5_4)) ?_
    refine Run.st (T60.setTop (mkF m 13 #[vA a1] [.int 0])) (fun _ k => XS.ifYes A60.here hx rfl (pc0 := 5) (pc' := 12) rfl (hb hby d5_5) rfl (by decide) (by decide) (by decide) (XS.iconst A60.here hx rfl (hb hby d5_12) k)) ?_
    exact A60.leaveN hlk (some (.int (0 : Int32))) (fun q => by rw [hrt] at q; cases q) (by decide) (by decide) ⟨rfl, rfl⟩ (fun X hr => retN X hx (t := .boolean) hrt (by simp) (hb hby d5_13) hr)
  · refine Run.st (T0.setTop (mkF m 1 #[vA a1] [(.ref a1)])) (fun _ k => XS.aloadN A0.here hx rfl (hb hby d5_0) rfl rfl k) ?_
    obtain ⟨T61, A61, st61⟩ := A0.getF hx (tw26 H.1) Via.refl Fv1 (g := (mkF m 1 #[vA a1] [(.ref a1)])) rfl rfl (hb hby d5_1)
    refine Run.st (T61.setTop (mkF m 4 #[vA a1] [(.ref b1)])) st61 ?_
    refine Run.st (T61.setTop (mkF m 5 #[vA a1] [.int 6])) (A61.alen hx Va1 (g := (mkF m 4 #[vA a1] [(.ref b1)])) rfl rfl (hb hby d5_4)) ?_
    refine Run.st (T61.setTop (mkF m 13 #[vA a1] [.int 0])) (fun _ k => XS.ifYes A61.here hx rfl (pc0 := 5) (pc' := 12) rfl (hb hby d5_5) rfl (by decide) (by decide) (by decide) (XS.iconst A61.here hx rfl (hb hby d5_12) k)) ?_
    exact A61.leaveN hlk (some (.int (0 : Int32))) (fun q => by rw [hrt] at q; cases q) (by decide) (by decide) ⟨rfl, rfl⟩ (fun X hr => retN X hx (t := .boolean) hrt (by simp) (hb hby d5_13) hr)
theorem ef_isEmpty4 (m : MethodId) (y0 : Addr) : entryFrame m #[(.ref y0)] 1 = mkF m 0 #[vA y0] [] := by first | (simp [entryFrame, mkF, argsToLocals, vI, vA, Value.category, maxLocals]; done) | rfl
def Q_isEmpty4 (Z : State) (a1 : Addr) (c1 : Int32) (c2 : Int32) (c3 : Int32) (c4 : Int32) (h0 : Heap) (v : Option Value) (h : Heap) : Prop := v = some (.int 0) ∧ h = h0
def rm_isEmpty4 : Room := { frames := 0, cells := 0, slots := 0, locals := 0 }
set_option maxRecDepth 65536 in
set_option maxHeartbeats 40000000 in
theorem ct_isEmpty4 {l : Launch} {Z : State} {a0 : Array Value} (H : Ev Z a0) (a1 : Addr) (c1 : Int32) (c2 : Int32) (c3 : Int32) (c4 : Int32) {h0 : Heap} {n0 : Nat} (O0 : Old Z n0 h0) (S1 : StrU Z h0 a1 [c1, c2, c3, c4]) : CtrN l Z (⟨"java/lang/String", "isEmpty", "()Z"⟩ : MethodName) jdk_42_method_55_code 1 (some .boolean) [] rm_isEmpty4 #[(.ref a1)] h0 [] n0 (Q_isEmpty4 Z a1 c1 c2 c3 c4 h0) := by
  refine enterN (a0 := a0) (plainFor_of_name pn_1) O0 all0 ?_
  intro p e s m below meth c T0 hx hby hml hrt hnm hlk A0
  replace A0 : Wk false Z a0 [] n0 h0 [] "java/lang/String" p l e rm_isEmpty4 s m #[(.ref a1)] below meth c [] T0 h0 0 0 := A0
  refine Run.st (T0.setTop (mkF m 0 #[vA a1] [])) (fun _ k => castTop (ef_isEmpty4 m a1) k) ?_
  obtain ⟨zc, Sc, hzc⟩ := H.2.1
  obtain ⟨fm, Sfm, rfm⟩ := H.2.2.1
  obtain ⟨E1, b1, k1, Fv1, S2⟩ := S1
  rcases S2 with ⟨Fc1, Va1, hr1⟩ | ⟨Fc1, Va1, hp1⟩
  · refine Run.st (T0.setTop (mkF m 1 #[vA a1] [(.ref a1)])) (fun _ k => XS.aloadN A0.here hx rfl (hb hby d5_0) rfl rfl k) ?_
    obtain ⟨T62, A62, st62⟩ := A0.getF hx (tw26 H.1) Via.refl Fv1 (g := (mkF m 1 #[vA a1] [(.ref a1)])) rfl rfl (hb hby d5_1)
    refine Run.st (T62.setTop (mkF m 4 #[vA a1] [(.ref b1)])) st62 ?_
    refine Run.st (T62.setTop (mkF m 5 #[vA a1] [.int 4])) (A62.alen hx Va1 (g := (mkF m 4 #[vA a1] [(.ref b1)])) rfl rfl (hb hby d5_4)) ?_
    refine Run.st (T62.setTop (mkF m 13 #[vA a1] [.int 0])) (fun _ k => XS.ifYes A62.here hx rfl (pc0 := 5) (pc' := 12) rfl (hb hby d5_5) rfl (by decide) (by decide) (by decide) (XS.iconst A62.here hx rfl (hb hby d5_12) k)) ?_
    exact A62.leaveN hlk (some (.int (0 : Int32))) (fun q => by rw [hrt] at q; cases q) (by decide) (by decide) ⟨rfl, rfl⟩ (fun X hr => retN X hx (t := .boolean) hrt (by simp) (hb hby d5_13) hr)
  · refine Run.st (T0.setTop (mkF m 1 #[vA a1] [(.ref a1)])) (fun _ k => XS.aloadN A0.here hx rfl (hb hby d5_0) rfl rfl k) ?_
    obtain ⟨T63, A63, st63⟩ := A0.getF hx (tw26 H.1) Via.refl Fv1 (g := (mkF m 1 #[vA a1] [(.ref a1)])) rfl rfl (hb hby d5_1)
    refine Run.st (T63.setTop (mkF m 4 #[vA a1] [(.ref b1)])) st63 ?_
    refine Run.st (T63.setTop (mkF m 5 #[vA a1] [.int 8])) (A63.alen hx Va1 (g := (mkF m 4 #[vA a1] [(.ref b1)])) rfl rfl (hb hby d5_4)) ?_
    refine Run.st (T63.setTop (mkF m 13 #[vA a1] [.int 0])) (fun _ k => XS.ifYes A63.here hx rfl (pc0 := 5) (pc' := 12) rfl (hb hby d5_5) rfl (by decide) (by decide) (by decide) (XS.iconst A63.here hx rfl (hb hby d5_12) k)) ?_
    exact A63.leaveN hlk (some (.int (0 : Int32))) (fun q => by rw [hrt] at q; cases q) (by decide) (by decide) ⟨rfl, rfl⟩ (fun X hr => retN X hx (t := .boolean) hrt (by simp) (hb hby d5_13) hr)
theorem ef_lenL (m : MethodId) (y0 : Addr) : entryFrame m #[(.ref y0)] 1 = mkF m 0 #[vA y0] [] := by first | (simp [entryFrame, mkF, argsToLocals, vI, vA, Value.category, maxLocals]; done) | rfl
def Q_lenL (Z : State) (a1 : Addr) (b1 : Addr) (k1 : ClassId) (h0 : Heap) (v : Option Value) (h : Heap) : Prop := v = some (.int 15) ∧ h = h0
def rm_lenL : Room := { frames := 1, cells := 0, slots := 0, locals := 13 }
set_option maxRecDepth 65536 in
set_option maxHeartbeats 40000000 in
theorem ct_lenL {l : Launch} {Z : State} {a0 : Array Value} (H : Ev Z a0) (a1 : Addr) (b1 : Addr) (k1 : ClassId) {h0 : Heap} {n0 : Nat} (O0 : Old Z n0 h0) (E1 : Exa Z h0 a1 "java/lang/String") (F1 : Fld Z h0 a1 "java/lang/String" "coder" "B" (.int 0)) (F2 : Fld Z h0 a1 "java/lang/String" "value" "[B" (.ref b1)) (Va1 : Arv Z h0 b1 k1 .byte (15 : Int32) ((LITS.map fun c => c.toInt8.toInt32).map Value.int) (.int 0)) : CtrN l Z (⟨"java/lang/String", "length", "()I"⟩ : MethodName) jdk_42_method_54_code 1 (some .int) [] rm_lenL #[(.ref a1)] h0 [] n0 (Q_lenL Z a1 b1 k1 h0) := by
  refine enterN (a0 := a0) (plainFor_of_name pn_1) O0 all0 ?_
  intro p e s m below meth c T0 hx hby hml hrt hnm hlk A0
  replace A0 : Wk false Z a0 [] n0 h0 [] "java/lang/String" p l e rm_lenL s m #[(.ref a1)] below meth c [] T0 h0 0 0 := A0
  refine Run.st (T0.setTop (mkF m 0 #[vA a1] [])) (fun _ k => castTop (ef_lenL m a1) k) ?_
  obtain ⟨zc, Sc, hzc⟩ := H.2.1
  obtain ⟨fm, Sfm, rfm⟩ := H.2.2.1
  refine Run.st (T0.setTop (mkF m 1 #[vA a1] [(.ref a1)])) (fun _ k => XS.aloadN A0.here hx rfl (hb hby d4_0) rfl rfl k) ?_
  obtain ⟨T64, A64, st64⟩ := A0.getF hx (tw26 H.1) Via.refl F2 (g := (mkF m 1 #[vA a1] [(.ref a1)])) rfl rfl (hb hby d4_1)
  refine Run.st (T64.setTop (mkF m 4 #[vA a1] [(.ref b1)])) st64 ?_
  refine Run.st (T64.setTop (mkF m 5 #[vA a1] [.int 15])) (A64.alen hx Va1 (g := (mkF m 4 #[vA a1] [(.ref b1)])) rfl rfl (hb hby d4_4)) ?_
  refine Run.st (T64.setTop (mkF m 6 #[vA a1] [(.ref a1), .int 15])) (fun _ k => XS.aloadN A64.here hx rfl (hb hby d4_5) rfl rfl k) ?_
  obtain ⟨v65, T65, h65, AA65, K65, ⟨L65, Q65⟩, st65⟩ := A64.callV hx (y := (⟨"java/lang/String", "coder", "()B"⟩ : MethodName)) (z := (⟨"java/lang/String", "coder", "()B"⟩ : MethodName)) (tw56 H.1) (tw57 H.1) (tw59 H.1) (tw58 H.1) (nfSel (tw59 H.1)) (by decide) E1 (g := (mkF m 6 #[vA a1] [(.ref a1), .int 15])) rfl (by rw [hml]; rfl) [] [(.int (15 : Int32))] (lenOf pd_0 rfl) rfl (Wd := 1) (Nat.le_refl _) (hb hby d4_6) (by decide) (by decide) [] (fun _ _ _ q => q.2) all0 (fun vm0 hZ => payN (ct_coder0 H a1 A64.old F1) (tw60 H.1) (tw8 H.1) (by decide) (by decide) hZ)
  obtain ⟨Q65, N65, -⟩ := Q65
  obtain ⟨rfl, q65⟩ := Q65
  have q65 := q65.symm
  subst q65
  have A65 := AA65 [] all0
  refine Run.st (T65.setTop (mkF m 9 #[vA a1] [.int 0, .int 15])) st65 ?_
  refine Run.st (T65.setTop (mkF m 10 #[vA a1] [.int ((15 : Int32) >>> ((0 : Int32) &&& 31))])) (fun _ k => XS.ishr A65.here hx rfl (hb hby d4_9) rfl k) ?_
  rw [show ((15 : Int32) >>> ((0 : Int32) &&& 31)) = (15 : Int32) from shr0 (15 : Int32)]
  exact A65.leaveN hlk (some (.int (15 : Int32))) (fun q => by rw [hrt] at q; cases q) (by decide) (by decide) ⟨rfl, rfl⟩ (fun X hr => retOut X hx (w := (.int (15 : Int32))) (t := .int) hrt rfl (Or.inl ⟨rfl, Or.inl rfl, _, rfl⟩) (hb hby d4_10) hr)
theorem ef_mmax (m : MethodId) (y0 : Int32) (y1 : Int32) : entryFrame m #[(.int y0), (.int y1)] 2 = mkF m 0 #[vI y0, vI y1] [] := by first | (simp [entryFrame, mkF, argsToLocals, vI, vA, Value.category, maxLocals]; done) | rfl
def Q_mmax (Z : State) (h0 : Heap) (v : Option Value) (h : Heap) : Prop := v = some (.int 0) ∧ h = h0
def rm_mmax : Room := { frames := 0, cells := 0, slots := 0, locals := 0 }
set_option maxRecDepth 65536 in
set_option maxHeartbeats 40000000 in
theorem ct_mmax {l : Launch} {Z : State} {a0 : Array Value} (H : Ev Z a0) {h0 : Heap} {n0 : Nat} (O0 : Old Z n0 h0) : CtrN l Z (⟨"java/lang/Math", "max", "(II)I"⟩ : MethodName) jdk_29_method_65_code 2 (some .int) [] rm_mmax #[(.int (0 : Int32)), (.int (0 : Int32))] h0 [] n0 (Q_mmax Z h0) := by
  refine enterN (a0 := a0) (Jvm.Free.JP.mathPlain rfl (by decide +kernel)) O0 all0 ?_
  intro p e s m below meth c T0 hx hby hml hrt hnm hlk A0
  replace A0 : Wk false Z a0 [] n0 h0 [] "java/lang/Math" p l e rm_mmax s m #[(.int (0 : Int32)), (.int (0 : Int32))] below meth c [] T0 h0 0 0 := A0
  refine Run.st (T0.setTop (mkF m 0 #[vI 0, vI 0] [])) (fun _ k => castTop (ef_mmax m (0 : Int32) (0 : Int32)) k) ?_
  refine Run.st (T0.setTop (mkF m 10 #[vI 0, vI 0] [.int 0])) (fun _ k => XS.iloadN A0.here hx rfl (hb hby d6_0) rfl (XS.iloadN A0.here hx rfl (hb hby d6_1) rfl (XS.icmpNo A0.here hx rfl (hb hby d6_2) rfl (by decide) (XS.iloadN A0.here hx rfl (hb hby d6_5) rfl (XS.goto A0.here hx rfl (pc0 := 6) (pc' := 10) rfl (hb hby d6_6) (by decide) (by decide) k))))) ?_
  exact A0.leaveN hlk (some (.int (0 : Int32))) (fun q => by rw [hrt] at q; cases q) (by decide) (by decide) ⟨rfl, rfl⟩ (fun X hr => retOut X hx (w := (.int (0 : Int32))) (t := .int) hrt rfl (Or.inl ⟨rfl, Or.inl rfl, _, rfl⟩) (hb hby d6_10) hr)
theorem ef_mmin (m : MethodId) (y0 : Int32) (y1 : Int32) : entryFrame m #[(.int y0), (.int y1)] 2 = mkF m 0 #[vI y0, vI y1] [] := by first | (simp [entryFrame, mkF, argsToLocals, vI, vA, Value.category, maxLocals]; done) | rfl
def Q_mmin (Z : State) (h0 : Heap) (v : Option Value) (h : Heap) : Prop := v = some (.int 15) ∧ h = h0
def rm_mmin : Room := { frames := 0, cells := 0, slots := 0, locals := 0 }
set_option maxRecDepth 65536 in
set_option maxHeartbeats 40000000 in
theorem ct_mmin {l : Launch} {Z : State} {a0 : Array Value} (H : Ev Z a0) {h0 : Heap} {n0 : Nat} (O0 : Old Z n0 h0) : CtrN l Z (⟨"java/lang/Math", "min", "(II)I"⟩ : MethodName) jdk_29_method_69_code 2 (some .int) [] rm_mmin #[(.int (15 : Int32)), (.int (15 : Int32))] h0 [] n0 (Q_mmin Z h0) := by
  refine enterN (a0 := a0) (Jvm.Free.JP.mathPlain rfl (by decide +kernel)) O0 all0 ?_
  intro p e s m below meth c T0 hx hby hml hrt hnm hlk A0
  replace A0 : Wk false Z a0 [] n0 h0 [] "java/lang/Math" p l e rm_mmin s m #[(.int (15 : Int32)), (.int (15 : Int32))] below meth c [] T0 h0 0 0 := A0
  refine Run.st (T0.setTop (mkF m 0 #[vI 15, vI 15] [])) (fun _ k => castTop (ef_mmin m (15 : Int32) (15 : Int32)) k) ?_
  refine Run.st (T0.setTop (mkF m 10 #[vI 15, vI 15] [.int 15])) (fun _ k => XS.iloadN A0.here hx rfl (hb hby d7_0) rfl (XS.iloadN A0.here hx rfl (hb hby d7_1) rfl (XS.icmpNo A0.here hx rfl (hb hby d7_2) rfl (by decide) (XS.iloadN A0.here hx rfl (hb hby d7_5) rfl (XS.goto A0.here hx rfl (pc0 := 6) (pc' := 10) rfl (hb hby d7_6) (by decide) (by decide) k))))) ?_
  exact A0.leaveN hlk (some (.int (15 : Int32))) (fun q => by rw [hrt] at q; cases q) (by decide) (by decide) ⟨rfl, rfl⟩ (fun X hr => retOut X hx (w := (.int (15 : Int32))) (t := .int) hrt rfl (Or.inl ⟨rfl, Or.inl rfl, _, rfl⟩) (hb hby d7_10) hr)
theorem ef_canE (m : MethodId) (y0 : Int32) : entryFrame m #[(.int y0)] 1 = mkF m 0 #[vI y0] [] := by first | (simp [entryFrame, mkF, argsToLocals, vI, vA, Value.category, maxLocals]; done) | rfl
def Q_canE (Z : State) (p1 : Int32) (h0 : Heap) (v : Option Value) (h : Heap) : Prop := ∃ z, v = some (.int z) ∧ h = h0 ∧ (¬ (255 : Int32) < p1 ∧ z = 1 ∨ (255 : Int32) < p1 ∧ z = 0)
def rm_canE : Room := { frames := 0, cells := 0, slots := 0, locals := 0 }
set_option maxRecDepth 65536 in
set_option maxHeartbeats 40000000 in
theorem ct_canE {l : Launch} {Z : State} {a0 : Array Value} (H : Ev Z a0) (p1 : Int32) {h0 : Heap} {n0 : Nat} (O0 : Old Z n0 h0) (hc : R16 p1) : CtrN l Z (⟨"java/lang/StringLatin1", "canEncode", "(I)Z"⟩ : MethodName) jdk_43_method_4_code 1 (some .boolean) [] rm_canE #[(.int p1)] h0 [] n0 (Q_canE Z p1 h0) := by
  refine enterN (a0 := a0) (plainFor_of_name pn_2) O0 all0 ?_
  intro p e s m below meth c T0 hx hby hml hrt hnm hlk A0
  replace A0 : Wk false Z a0 [] n0 h0 [] "java/lang/StringLatin1" p l e rm_canE s m #[(.int p1)] below meth c [] T0 h0 0 0 := A0
  refine Run.st (T0.setTop (mkF m 0 #[vI p1] [])) (fun _ k => castTop (ef_canE m p1) k) ?_
  refine Run.st (T0.setTop (mkF m 8 #[vI p1] [.int 255, .int p1])) (fun _ k => XS.iloadN A0.here hx rfl (hb hby d8_0) rfl (XS.ifNo A0.here hx rfl (hb hby d8_1) rfl (by rw [if0]; exact (flt hc.1).1) (XS.iloadN A0.here hx rfl (hb hby d8_4) rfl (XS.sipush A0.here hx rfl (hb hby d8_5) k)))) ?_
  by_cases c66 : (255 : Int32) < p1
  · refine Run.st (T0.setTop (mkF m 16 #[vI p1] [.int 0])) (fun _ k => XS.icmpYes A0.here hx rfl (pc0 := 8) (pc' := 15) rfl (hb hby d8_8) rfl (tlt c66).2.2.1 (by decide) (by decide) (XS.iconst A0.here hx rfl (hb hby d8_15) k)) ?_
    exact A0.leaveN hlk (some (.int (0 : Int32))) (fun q => by rw [hrt] at q; cases q) (by decide) (by decide) ⟨_, rfl, rfl, Or.inr ⟨c66, rfl⟩⟩ (fun X hr => retN X hx (t := .boolean) hrt (by simp) (hb hby d8_16) hr)
  · refine Run.st (T0.setTop (mkF m 16 #[vI p1] [.int 1])) (fun _ k => XS.icmpNo A0.here hx rfl (hb hby d8_8) rfl (flt c66).2.2.1 (XS.iconst A0.here hx rfl (hb hby d8_11) (XS.goto A0.here hx rfl (pc0 := 12) (pc' := 16) rfl (hb hby d8_12) (by decide) (by decide) k))) ?_
    exact A0.leaveN hlk (some (.int (1 : Int32))) (fun q => by rw [hrt] at q; cases q) (by decide) (by decide) ⟨_, rfl, rfl, Or.inl ⟨c66, rfl⟩⟩ (fun X hr => retN X hx (t := .boolean) hrt (by simp) (hb hby d8_16) hr)
theorem ef_ixc (m : MethodId) (y0 : Addr) (y1 : Int32) (y2 : Int32) (y3 : Int32) : entryFrame m #[(.ref y0), (.int y1), (.int y2), (.int y3)] 6 = mkF m 0 #[vA y0, vI y1, vI y2, vI y3, .unset, .unset] [] := by first | (simp [entryFrame, mkF, argsToLocals, vI, vA, Value.category, maxLocals]; done) | rfl
def Q_ixc (Z : State) (b1 : Addr) (k1 : ClassId) (p1 : Int32) (h0 : Heap) (v : Option Value) (h : Heap) : Prop := ∃ z, v = some (.int z) ∧ h = h0 ∧ (p1 ∈ LITS ∧ ¬ z < 0 ∨ p1 ∉ LITS ∧ z < 0)
def rm_ixc : Room := { frames := 0, cells := 0, slots := 0, locals := 0 }
set_option maxRecDepth 65536 in
set_option maxHeartbeats 40000000 in
theorem ct_ixc {l : Launch} {Z : State} {a0 : Array Value} (H : Ev Z a0) (b1 : Addr) (k1 : ClassId) (p1 : Int32) {h0 : Heap} {n0 : Nat} (O0 : Old Z n0 h0) (Va1 : Arv Z h0 b1 k1 .byte (15 : Int32) ((LITS.map fun c => c.toInt8.toInt32).map Value.int) (.int 0)) (hbb : ¬ p1 < 0 ∧ ¬ (255 : Int32) < p1) : CtrN l Z (⟨"java/lang/StringLatin1", "indexOfChar", "([BIII)I"⟩ : MethodName) jdk_43_method_23_code 6 (some .int) [] rm_ixc #[(.ref b1), (.int p1), (.int (0 : Int32)), (.int (15 : Int32))] h0 [] n0 (Q_ixc Z b1 k1 p1 h0) := by
  refine enterN (a0 := a0) (plainFor_of_name pn_2) O0 all0 ?_
  intro p e s m below meth c T0 hx hby hml hrt hnm hlk A0
  replace A0 : Wk false Z a0 [] n0 h0 [] "java/lang/StringLatin1" p l e rm_ixc s m #[(.ref b1), (.int p1), (.int (0 : Int32)), (.int (15 : Int32))] below meth c [] T0 h0 0 0 := A0
  refine Run.st (T0.setTop (mkF m 0 #[vA b1, vI p1, vI 0, vI 15, .unset, .unset] [])) (fun _ k => castTop (ef_ixc m b1 p1 (0 : Int32) (15 : Int32)) k) ?_
  refine Run.st (T0.setTop (mkF m 14 #[vA b1, vI p1, vI 0, vI 15, vI (p1.toInt8.toInt32), vI 0] [(.ref b1)])) (fun _ k => XS.iloadN A0.here hx rfl (hb hby d9_0) rfl (XS.i2b A0.here hx rfl (hb hby d9_1) rfl (XS.istore A0.here hx rfl (hb hby d9_2) rfl (l' := #[vA b1, vI p1, vI 0, vI 15, vI (p1.toInt8.toInt32), .unset]) rfl (XS.iloadN A0.here hx rfl (hb hby d9_4) rfl (XS.istore A0.here hx rfl (hb hby d9_5) rfl (l' := #[vA b1, vI p1, vI 0, vI 15, vI (p1.toInt8.toInt32), vI 0]) rfl (XS.iload A0.here hx rfl (hb hby d9_7) rfl (XS.iloadN A0.here hx rfl (hb hby d9_9) rfl (XS.icmpNo A0.here hx rfl (hb hby d9_10) rfl (by decide) (XS.aloadN A0.here hx rfl (hb hby d9_13) rfl rfl k))))))))) ?_
  refine Run.st (T0.setTop (mkF m 16 #[vA b1, vI p1, vI 0, vI 15, vI (p1.toInt8.toInt32), vI 0] [.int 0, (.ref b1)])) (fun _ k => XS.iload A0.here hx rfl (hb hby d9_14) rfl k) ?_
  refine Run.st (T0.setTop (mkF m 17 #[vA b1, vI p1, vI 0, vI 15, vI (p1.toInt8.toInt32), vI 0] [.int 33])) (A0.ldB hx Va1 (j := (0 : Int32)) 0 rfl ⟨(by decide), (by decide)⟩ (v := (.int (33 : Int32))) rfl (g := (mkF m 16 #[vA b1, vI p1, vI 0, vI 15, vI (p1.toInt8.toInt32), vI 0] [.int 0, (.ref b1)])) rfl rfl (hb hby d9_16)) ?_
  refine Run.st (T0.setTop (mkF m 19 #[vA b1, vI p1, vI 0, vI 15, vI (p1.toInt8.toInt32), vI 0] [.int (p1.toInt8.toInt32), .int 33])) (fun _ k => XS.iload A0.here hx rfl (hb hby d9_17) rfl k) ?_
  by_cases c67 : (33 : Int32) = (p1.toInt8.toInt32)
  · refine Run.st (T0.setTop (mkF m 24 #[vA b1, vI p1, vI 0, vI 15, vI (p1.toInt8.toInt32), vI 0] [.int 0])) (fun _ k => XS.icmpNo A0.here hx rfl (hb hby d9_19) rfl (teq c67).2 (XS.iload A0.here hx rfl (hb hby d9_22) rfl k)) ?_
    exact A0.leaveN hlk (some (.int (0 : Int32))) (fun q => by rw [hrt] at q; cases q) (by decide) (by decide) ⟨_, rfl, rfl, Or.inl ⟨symI (i8e hbb (by decide) c67) (by decide), by decide⟩⟩ (fun X hr => retOut X hx (w := (.int (0 : Int32))) (t := .int) hrt rfl (Or.inl ⟨rfl, Or.inl rfl, _, rfl⟩) (hb hby d9_24) hr)
  · refine Run.st (T0.setTop (mkF m 16 #[vA b1, vI p1, vI 0, vI 15, vI (p1.toInt8.toInt32), vI 1] [.int 1, (.ref b1)])) (fun _ k => XS.icmpYes A0.here hx rfl (pc0 := 19) (pc' := 25) rfl (hb hby d9_19) rfl (feq c67).2 (by decide) (by decide) (XS.iinc A0.here hx rfl (hb hby d9_25) rfl (l' := #[vA b1, vI p1, vI 0, vI 15, vI (p1.toInt8.toInt32), vI 1]) rfl (XS.goto A0.here hx rfl (pc0 := 28) (pc' := 7) rfl (hb hby d9_28) (by decide) (by decide) (XS.iload A0.here hx rfl (hb hby d9_7) rfl (XS.iloadN A0.here hx rfl (hb hby d9_9) rfl (XS.icmpNo A0.here hx rfl (hb hby d9_10) rfl (by decide) (XS.aloadN A0.here hx rfl (hb hby d9_13) rfl rfl (XS.iload A0.here hx rfl (hb hby d9_14) rfl k)))))))) ?_
    refine Run.st (T0.setTop (mkF m 17 #[vA b1, vI p1, vI 0, vI 15, vI (p1.toInt8.toInt32), vI 1] [.int 35])) (A0.ldB hx Va1 (j := (1 : Int32)) 1 rfl ⟨(by decide), (by decide)⟩ (v := (.int (35 : Int32))) rfl (g := (mkF m 16 #[vA b1, vI p1, vI 0, vI 15, vI (p1.toInt8.toInt32), vI 1] [.int 1, (.ref b1)])) rfl rfl (hb hby d9_16)) ?_
    refine Run.st (T0.setTop (mkF m 19 #[vA b1, vI p1, vI 0, vI 15, vI (p1.toInt8.toInt32), vI 1] [.int (p1.toInt8.toInt32), .int 35])) (fun _ k => XS.iload A0.here hx rfl (hb hby d9_17) rfl k) ?_
    by_cases c68 : (35 : Int32) = (p1.toInt8.toInt32)
    · refine Run.st (T0.setTop (mkF m 24 #[vA b1, vI p1, vI 0, vI 15, vI (p1.toInt8.toInt32), vI 1] [.int 1])) (fun _ k => XS.icmpNo A0.here hx rfl (hb hby d9_19) rfl (teq c68).2 (XS.iload A0.here hx rfl (hb hby d9_22) rfl k)) ?_
      exact A0.leaveN hlk (some (.int (1 : Int32))) (fun q => by rw [hrt] at q; cases q) (by decide) (by decide) ⟨_, rfl, rfl, Or.inl ⟨symI (i8e hbb (by decide) c68) (by decide), by decide⟩⟩ (fun X hr => retOut X hx (w := (.int (1 : Int32))) (t := .int) hrt rfl (Or.inl ⟨rfl, Or.inl rfl, _, rfl⟩) (hb hby d9_24) hr)
    · refine Run.st (T0.setTop (mkF m 16 #[vA b1, vI p1, vI 0, vI 15, vI (p1.toInt8.toInt32), vI 2] [.int 2, (.ref b1)])) (fun _ k => XS.icmpYes A0.here hx rfl (pc0 := 19) (pc' := 25) rfl (hb hby d9_19) rfl (feq c68).2 (by decide) (by decide) (XS.iinc A0.here hx rfl (hb hby d9_25) rfl (l' := #[vA b1, vI p1, vI 0, vI 15, vI (p1.toInt8.toInt32), vI 2]) rfl (XS.goto A0.here hx rfl (pc0 := 28) (pc' := 7) rfl (hb hby d9_28) (by decide) (by decide) (XS.iload A0.here hx rfl (hb hby d9_7) rfl (XS.iloadN A0.here hx rfl (hb hby d9_9) rfl (XS.icmpNo A0.here hx rfl (hb hby d9_10) rfl (by decide) (XS.aloadN A0.here hx rfl (hb hby d9_13) rfl rfl (XS.iload A0.here hx rfl (hb hby d9_14) rfl k)))))))) ?_
      refine Run.st (T0.setTop (mkF m 17 #[vA b1, vI p1, vI 0, vI 15, vI (p1.toInt8.toInt32), vI 2] [.int 36])) (A0.ldB hx Va1 (j := (2 : Int32)) 2 rfl ⟨(by decide), (by decide)⟩ (v := (.int (36 : Int32))) rfl (g := (mkF m 16 #[vA b1, vI p1, vI 0, vI 15, vI (p1.toInt8.toInt32), vI 2] [.int 2, (.ref b1)])) rfl rfl (hb hby d9_16)) ?_
      refine Run.st (T0.setTop (mkF m 19 #[vA b1, vI p1, vI 0, vI 15, vI (p1.toInt8.toInt32), vI 2] [.int (p1.toInt8.toInt32), .int 36])) (fun _ k => XS.iload A0.here hx rfl (hb hby d9_17) rfl k) ?_
      by_cases c69 : (36 : Int32) = (p1.toInt8.toInt32)
      · refine Run.st (T0.setTop (mkF m 24 #[vA b1, vI p1, vI 0, vI 15, vI (p1.toInt8.toInt32), vI 2] [.int 2])) (fun _ k => XS.icmpNo A0.here hx rfl (hb hby d9_19) rfl (teq c69).2 (XS.iload A0.here hx rfl (hb hby d9_22) rfl k)) ?_
        exact A0.leaveN hlk (some (.int (2 : Int32))) (fun q => by rw [hrt] at q; cases q) (by decide) (by decide) ⟨_, rfl, rfl, Or.inl ⟨symI (i8e hbb (by decide) c69) (by decide), by decide⟩⟩ (fun X hr => retOut X hx (w := (.int (2 : Int32))) (t := .int) hrt rfl (Or.inl ⟨rfl, Or.inl rfl, _, rfl⟩) (hb hby d9_24) hr)
      · refine Run.st (T0.setTop (mkF m 16 #[vA b1, vI p1, vI 0, vI 15, vI (p1.toInt8.toInt32), vI 3] [.int 3, (.ref b1)])) (fun _ k => XS.icmpYes A0.here hx rfl (pc0 := 19) (pc' := 25) rfl (hb hby d9_19) rfl (feq c69).2 (by decide) (by decide) (XS.iinc A0.here hx rfl (hb hby d9_25) rfl (l' := #[vA b1, vI p1, vI 0, vI 15, vI (p1.toInt8.toInt32), vI 3]) rfl (XS.goto A0.here hx rfl (pc0 := 28) (pc' := 7) rfl (hb hby d9_28) (by decide) (by decide) (XS.iload A0.here hx rfl (hb hby d9_7) rfl (XS.iloadN A0.here hx rfl (hb hby d9_9) rfl (XS.icmpNo A0.here hx rfl (hb hby d9_10) rfl (by decide) (XS.aloadN A0.here hx rfl (hb hby d9_13) rfl rfl (XS.iload A0.here hx rfl (hb hby d9_14) rfl k)))))))) ?_
        refine Run.st (T0.setTop (mkF m 17 #[vA b1, vI p1, vI 0, vI 15, vI (p1.toInt8.toInt32), vI 3] [.int 37])) (A0.ldB hx Va1 (j := (3 : Int32)) 3 rfl ⟨(by decide), (by decide)⟩ (v := (.int (37 : Int32))) rfl (g := (mkF m 16 #[vA b1, vI p1, vI 0, vI 15, vI (p1.toInt8.toInt32), vI 3] [.int 3, (.ref b1)])) rfl rfl (hb hby d9_16)) ?_
        refine Run.st (T0.setTop (mkF m 19 #[vA b1, vI p1, vI 0, vI 15, vI (p1.toInt8.toInt32), vI 3] [.int (p1.toInt8.toInt32), .int 37])) (fun _ k => XS.iload A0.here hx rfl (hb hby d9_17) rfl k) ?_
        by_cases c70 : (37 : Int32) = (p1.toInt8.toInt32)
        · refine Run.st (T0.setTop (mkF m 24 #[vA b1, vI p1, vI 0, vI 15, vI (p1.toInt8.toInt32), vI 3] [.int 3])) (fun _ k => XS.icmpNo A0.here hx rfl (hb hby d9_19) rfl (teq c70).2 (XS.iload A0.here hx rfl (hb hby d9_22) rfl k)) ?_
          exact A0.leaveN hlk (some (.int (3 : Int32))) (fun q => by rw [hrt] at q; cases q) (by decide) (by decide) ⟨_, rfl, rfl, Or.inl ⟨symI (i8e hbb (by decide) c70) (by decide), by decide⟩⟩ (fun X hr => retOut X hx (w := (.int (3 : Int32))) (t := .int) hrt rfl (Or.inl ⟨rfl, Or.inl rfl, _, rfl⟩) (hb hby d9_24) hr)
        · refine Run.st (T0.setTop (mkF m 16 #[vA b1, vI p1, vI 0, vI 15, vI (p1.toInt8.toInt32), vI 4] [.int 4, (.ref b1)])) (fun _ k => XS.icmpYes A0.here hx rfl (pc0 := 19) (pc' := 25) rfl (hb hby d9_19) rfl (feq c70).2 (by decide) (by decide) (XS.iinc A0.here hx rfl (hb hby d9_25) rfl (l' := #[vA b1, vI p1, vI 0, vI 15, vI (p1.toInt8.toInt32), vI 4]) rfl (XS.goto A0.here hx rfl (pc0 := 28) (pc' := 7) rfl (hb hby d9_28) (by decide) (by decide) (XS.iload A0.here hx rfl (hb hby d9_7) rfl (XS.iloadN A0.here hx rfl (hb hby d9_9) rfl (XS.icmpNo A0.here hx rfl (hb hby d9_10) rfl (by decide) (XS.aloadN A0.here hx rfl (hb hby d9_13) rfl rfl (XS.iload A0.here hx rfl (hb hby d9_14) rfl k)))))))) ?_
          refine Run.st (T0.setTop (mkF m 17 #[vA b1, vI p1, vI 0, vI 15, vI (p1.toInt8.toInt32), vI 4] [.int 38])) (A0.ldB hx Va1 (j := (4 : Int32)) 4 rfl ⟨(by decide), (by decide)⟩ (v := (.int (38 : Int32))) rfl (g := (mkF m 16 #[vA b1, vI p1, vI 0, vI 15, vI (p1.toInt8.toInt32), vI 4] [.int 4, (.ref b1)])) rfl rfl (hb hby d9_16)) ?_
          refine Run.st (T0.setTop (mkF m 19 #[vA b1, vI p1, vI 0, vI 15, vI (p1.toInt8.toInt32), vI 4] [.int (p1.toInt8.toInt32), .int 38])) (fun _ k => XS.iload A0.here hx rfl (hb hby d9_17) rfl k) ?_
          by_cases c71 : (38 : Int32) = (p1.toInt8.toInt32)
          · refine Run.st (T0.setTop (mkF m 24 #[vA b1, vI p1, vI 0, vI 15, vI (p1.toInt8.toInt32), vI 4] [.int 4])) (fun _ k => XS.icmpNo A0.here hx rfl (hb hby d9_19) rfl (teq c71).2 (XS.iload A0.here hx rfl (hb hby d9_22) rfl k)) ?_
            exact A0.leaveN hlk (some (.int (4 : Int32))) (fun q => by rw [hrt] at q; cases q) (by decide) (by decide) ⟨_, rfl, rfl, Or.inl ⟨symI (i8e hbb (by decide) c71) (by decide), by decide⟩⟩ (fun X hr => retOut X hx (w := (.int (4 : Int32))) (t := .int) hrt rfl (Or.inl ⟨rfl, Or.inl rfl, _, rfl⟩) (hb hby d9_24) hr)
          · refine Run.st (T0.setTop (mkF m 16 #[vA b1, vI p1, vI 0, vI 15, vI (p1.toInt8.toInt32), vI 5] [.int 5, (.ref b1)])) (fun _ k => XS.icmpYes A0.here hx rfl (pc0 := 19) (pc' := 25) rfl (hb hby d9_19) rfl (feq c71).2 (by decide) (by decide) (XS.iinc A0.here hx rfl (hb hby d9_25) rfl (l' := #[vA b1, vI p1, vI 0, vI 15, vI (p1.toInt8.toInt32), vI 5]) rfl (XS.goto A0.here hx rfl (pc0 := 28) (pc' := 7) rfl (hb hby d9_28) (by decide) (by decide) (XS.iload A0.here hx rfl (hb hby d9_7) rfl (XS.iloadN A0.here hx rfl (hb hby d9_9) rfl (XS.icmpNo A0.here hx rfl (hb hby d9_10) rfl (by decide) (XS.aloadN A0.here hx rfl (hb hby d9_13) rfl rfl (XS.iload A0.here hx rfl (hb hby d9_14) rfl k)))))))) ?_
            refine Run.st (T0.setTop (mkF m 17 #[vA b1, vI p1, vI 0, vI 15, vI (p1.toInt8.toInt32), vI 5] [.int 39])) (A0.ldB hx Va1 (j := (5 : Int32)) 5 rfl ⟨(by decide), (by decide)⟩ (v := (.int (39 : Int32))) rfl (g := (mkF m 16 #[vA b1, vI p1, vI 0, vI 15, vI (p1.toInt8.toInt32), vI 5] [.int 5, (.ref b1)])) rfl rfl (hb hby d9_16)) ?_
            refine Run.st (T0.setTop (mkF m 19 #[vA b1, vI p1, vI 0, vI 15, vI (p1.toInt8.toInt32), vI 5] [.int (p1.toInt8.toInt32), .int 39])) (fun _ k => XS.iload A0.here hx rfl (hb hby d9_17) rfl k) ?_
            by_cases c72 : (39 : Int32) = (p1.toInt8.toInt32)
            · refine Run.st (T0.setTop (mkF m 24 #[vA b1, vI p1, vI 0, vI 15, vI (p1.toInt8.toInt32), vI 5] [.int 5])) (fun _ k => XS.icmpNo A0.here hx rfl (hb hby d9_19) rfl (teq c72).2 (XS.iload A0.here hx rfl (hb hby d9_22) rfl k)) ?_
              exact A0.leaveN hlk (some (.int (5 : Int32))) (fun q => by rw [hrt] at q; cases q) (by decide) (by decide) ⟨_, rfl, rfl, Or.inl ⟨symI (i8e hbb (by decide) c72) (by decide), by decide⟩⟩ (fun X hr => retOut X hx (w := (.int (5 : Int32))) (t := .int) hrt rfl (Or.inl ⟨rfl, Or.inl rfl, _, rfl⟩) (hb hby d9_24) hr)
            · refine Run.st (T0.setTop (mkF m 16 #[vA b1, vI p1, vI 0, vI 15, vI (p1.toInt8.toInt32), vI 6] [.int 6, (.ref b1)])) (fun _ k => XS.icmpYes A0.here hx rfl (pc0 := 19) (pc' := 25) rfl (hb hby d9_19) rfl (feq c72).2 (by decide) (by decide) (XS.iinc A0.here hx rfl (hb hby d9_25) rfl (l' := #[vA b1, vI p1, vI 0, vI 15, vI (p1.toInt8.toInt32), vI 6]) rfl (XS.goto A0.here hx rfl (pc0 := 28) (pc' := 7) rfl (hb hby d9_28) (by decide) (by decide) (XS.iload A0.here hx rfl (hb hby d9_7) rfl (XS.iloadN A0.here hx rfl (hb hby d9_9) rfl (XS.icmpNo A0.here hx rfl (hb hby d9_10) rfl (by decide) (XS.aloadN A0.here hx rfl (hb hby d9_13) rfl rfl (XS.iload A0.here hx rfl (hb hby d9_14) rfl k)))))))) ?_
              refine Run.st (T0.setTop (mkF m 17 #[vA b1, vI p1, vI 0, vI 15, vI (p1.toInt8.toInt32), vI 6] [.int 42])) (A0.ldB hx Va1 (j := (6 : Int32)) 6 rfl ⟨(by decide), (by decide)⟩ (v := (.int (42 : Int32))) rfl (g := (mkF m 16 #[vA b1, vI p1, vI 0, vI 15, vI (p1.toInt8.toInt32), vI 6] [.int 6, (.ref b1)])) rfl rfl (hb hby d9_16)) ?_
              refine Run.st (T0.setTop (mkF m 19 #[vA b1, vI p1, vI 0, vI 15, vI (p1.toInt8.toInt32), vI 6] [.int (p1.toInt8.toInt32), .int 42])) (fun _ k => XS.iload A0.here hx rfl (hb hby d9_17) rfl k) ?_
              by_cases c73 : (42 : Int32) = (p1.toInt8.toInt32)
              · refine Run.st (T0.setTop (mkF m 24 #[vA b1, vI p1, vI 0, vI 15, vI (p1.toInt8.toInt32), vI 6] [.int 6])) (fun _ k => XS.icmpNo A0.here hx rfl (hb hby d9_19) rfl (teq c73).2 (XS.iload A0.here hx rfl (hb hby d9_22) rfl k)) ?_
                exact A0.leaveN hlk (some (.int (6 : Int32))) (fun q => by rw [hrt] at q; cases q) (by decide) (by decide) ⟨_, rfl, rfl, Or.inl ⟨symI (i8e hbb (by decide) c73) (by decide), by decide⟩⟩ (fun X hr => retOut X hx (w := (.int (6 : Int32))) (t := .int) hrt rfl (Or.inl ⟨rfl, Or.inl rfl, _, rfl⟩) (hb hby d9_24) hr)
              · refine Run.st (T0.setTop (mkF m 16 #[vA b1, vI p1, vI 0, vI 15, vI (p1.toInt8.toInt32), vI 7] [.int 7, (.ref b1)])) (fun _ k => XS.icmpYes A0.here hx rfl (pc0 := 19) (pc' := 25) rfl (hb hby d9_19) rfl (feq c73).2 (by decide) (by decide) (XS.iinc A0.here hx rfl (hb hby d9_25) rfl (l' := #[vA b1, vI p1, vI 0, vI 15, vI (p1.toInt8.toInt32), vI 7]) rfl (XS.goto A0.here hx rfl (pc0 := 28) (pc' := 7) rfl (hb hby d9_28) (by decide) (by decide) (XS.iload A0.here hx rfl (hb hby d9_7) rfl (XS.iloadN A0.here hx rfl (hb hby d9_9) rfl (XS.icmpNo A0.here hx rfl (hb hby d9_10) rfl (by decide) (XS.aloadN A0.here hx rfl (hb hby d9_13) rfl rfl (XS.iload A0.here hx rfl (hb hby d9_14) rfl k)))))))) ?_
                refine Run.st (T0.setTop (mkF m 17 #[vA b1, vI p1, vI 0, vI 15, vI (p1.toInt8.toInt32), vI 7] [.int 43])) (A0.ldB hx Va1 (j := (7 : Int32)) 7 rfl ⟨(by decide), (by decide)⟩ (v := (.int (43 : Int32))) rfl (g := (mkF m 16 #[vA b1, vI p1, vI 0, vI 15, vI (p1.toInt8.toInt32), vI 7] [.int 7, (.ref b1)])) rfl rfl (hb hby d9_16)) ?_
                refine Run.st (T0.setTop (mkF m 19 #[vA b1, vI p1, vI 0, vI 15, vI (p1.toInt8.toInt32), vI 7] [.int (p1.toInt8.toInt32), .int 43])) (fun _ k => XS.iload A0.here hx rfl (hb hby d9_17) rfl k) ?_
                by_cases c74 : (43 : Int32) = (p1.toInt8.toInt32)
                · refine Run.st (T0.setTop (mkF m 24 #[vA b1, vI p1, vI 0, vI 15, vI (p1.toInt8.toInt32), vI 7] [.int 7])) (fun _ k => XS.icmpNo A0.here hx rfl (hb hby d9_19) rfl (teq c74).2 (XS.iload A0.here hx rfl (hb hby d9_22) rfl k)) ?_
                  exact A0.leaveN hlk (some (.int (7 : Int32))) (fun q => by rw [hrt] at q; cases q) (by decide) (by decide) ⟨_, rfl, rfl, Or.inl ⟨symI (i8e hbb (by decide) c74) (by decide), by decide⟩⟩ (fun X hr => retOut X hx (w := (.int (7 : Int32))) (t := .int) hrt rfl (Or.inl ⟨rfl, Or.inl rfl, _, rfl⟩) (hb hby d9_24) hr)
                · refine Run.st (T0.setTop (mkF m 16 #[vA b1, vI p1, vI 0, vI 15, vI (p1.toInt8.toInt32), vI 8] [.int 8, (.ref b1)])) (fun _ k => XS.icmpYes A0.here hx rfl (pc0 := 19) (pc' := 25) rfl (hb hby d9_19) rfl (feq c74).2 (by decide) (by decide) (XS.iinc A0.here hx rfl (hb hby d9_25) rfl (l' := #[vA b1, vI p1, vI 0, vI 15, vI (p1.toInt8.toInt32), vI 8]) rfl (XS.goto A0.here hx rfl (pc0 := 28) (pc' := 7) rfl (hb hby d9_28) (by decide) (by decide) (XS.iload A0.here hx rfl (hb hby d9_7) rfl (XS.iloadN A0.here hx rfl (hb hby d9_9) rfl (XS.icmpNo A0.here hx rfl (hb hby d9_10) rfl (by decide) (XS.aloadN A0.here hx rfl (hb hby d9_13) rfl rfl (XS.iload A0.here hx rfl (hb hby d9_14) rfl k)))))))) ?_
                  refine Run.st (T0.setTop (mkF m 17 #[vA b1, vI p1, vI 0, vI 15, vI (p1.toInt8.toInt32), vI 8] [.int 45])) (A0.ldB hx Va1 (j := (8 : Int32)) 8 rfl ⟨(by decide), (by decide)⟩ (v := (.int (45 : Int32))) rfl (g := (mkF m 16 #[vA b1, vI p1, vI 0, vI 15, vI (p1.toInt8.toInt32), vI 8] [.int 8, (.ref b1)])) rfl rfl (hb hby d9_16)) ?_
                  refine Run.st (T0.setTop (mkF m 19 #[vA b1, vI p1, vI 0, vI 15, vI (p1.toInt8.toInt32), vI 8] [.int (p1.toInt8.toInt32), .int 45])) (fun _ k => XS.iload A0.here hx rfl (hb hby d9_17) rfl k) ?_
                  by_cases c75 : (45 : Int32) = (p1.toInt8.toInt32)
                  · refine Run.st (T0.setTop (mkF m 24 #[vA b1, vI p1, vI 0, vI 15, vI (p1.toInt8.toInt32), vI 8] [.int 8])) (fun _ k => XS.icmpNo A0.here hx rfl (hb hby d9_19) rfl (teq c75).2 (XS.iload A0.here hx rfl (hb hby d9_22) rfl k)) ?_
                    exact A0.leaveN hlk (some (.int (8 : Int32))) (fun q => by rw [hrt] at q; cases q) (by decide) (by decide) ⟨_, rfl, rfl, Or.inl ⟨symI (i8e hbb (by decide) c75) (by decide), by decide⟩⟩ (fun X hr => retOut X hx (w := (.int (8 : Int32))) (t := .int) hrt rfl (Or.inl ⟨rfl, Or.inl rfl, _, rfl⟩) (hb hby d9_24) hr)
                  · refine Run.st (T0.setTop (mkF m 16 #[vA b1, vI p1, vI 0, vI 15, vI (p1.toInt8.toInt32), vI 9] [.int 9, (.ref b1)])) (fun _ k => XS.icmpYes A0.here hx rfl (pc0 := 19) (pc' := 25) rfl (hb hby d9_19) rfl (feq c75).2 (by decide) (by decide) (XS.iinc A0.here hx rfl (hb hby d9_25) rfl (l' := #[vA b1, vI p1, vI 0, vI 15, vI (p1.toInt8.toInt32), vI 9]) rfl (XS.goto A0.here hx rfl (pc0 := 28) (pc' := 7) rfl (hb hby d9_28) (by decide) (by decide) (XS.iload A0.here hx rfl (hb hby d9_7) rfl (XS.iloadN A0.here hx rfl (hb hby d9_9) rfl (XS.icmpNo A0.here hx rfl (hb hby d9_10) rfl (by decide) (XS.aloadN A0.here hx rfl (hb hby d9_13) rfl rfl (XS.iload A0.here hx rfl (hb hby d9_14) rfl k)))))))) ?_
                    refine Run.st (T0.setTop (mkF m 17 #[vA b1, vI p1, vI 0, vI 15, vI (p1.toInt8.toInt32), vI 9] [.int 46])) (A0.ldB hx Va1 (j := (9 : Int32)) 9 rfl ⟨(by decide), (by decide)⟩ (v := (.int (46 : Int32))) rfl (g := (mkF m 16 #[vA b1, vI p1, vI 0, vI 15, vI (p1.toInt8.toInt32), vI 9] [.int 9, (.ref b1)])) rfl rfl (hb hby d9_16)) ?_
                    refine Run.st (T0.setTop (mkF m 19 #[vA b1, vI p1, vI 0, vI 15, vI (p1.toInt8.toInt32), vI 9] [.int (p1.toInt8.toInt32), .int 46])) (fun _ k => XS.iload A0.here hx rfl (hb hby d9_17) rfl k) ?_
                    by_cases c76 : (46 : Int32) = (p1.toInt8.toInt32)
                    · refine Run.st (T0.setTop (mkF m 24 #[vA b1, vI p1, vI 0, vI 15, vI (p1.toInt8.toInt32), vI 9] [.int 9])) (fun _ k => XS.icmpNo A0.here hx rfl (hb hby d9_19) rfl (teq c76).2 (XS.iload A0.here hx rfl (hb hby d9_22) rfl k)) ?_
                      exact A0.leaveN hlk (some (.int (9 : Int32))) (fun q => by rw [hrt] at q; cases q) (by decide) (by decide) ⟨_, rfl, rfl, Or.inl ⟨symI (i8e hbb (by decide) c76) (by decide), by decide⟩⟩ (fun X hr => retOut X hx (w := (.int (9 : Int32))) (t := .int) hrt rfl (Or.inl ⟨rfl, Or.inl rfl, _, rfl⟩) (hb hby d9_24) hr)
                    · refine Run.st (T0.setTop (mkF m 16 #[vA b1, vI p1, vI 0, vI 15, vI (p1.toInt8.toInt32), vI 10] [.int 10, (.ref b1)])) (fun _ k => XS.icmpYes A0.here hx rfl (pc0 := 19) (pc' := 25) rfl (hb hby d9_19) rfl (feq c76).2 (by decide) (by decide) (XS.iinc A0.here hx rfl (hb hby d9_25) rfl (l' := #[vA b1, vI p1, vI 0, vI 15, vI (p1.toInt8.toInt32), vI 10]) rfl (XS.goto A0.here hx rfl (pc0 := 28) (pc' := 7) rfl (hb hby d9_28) (by decide) (by decide) (XS.iload A0.here hx rfl (hb hby d9_7) rfl (XS.iloadN A0.here hx rfl (hb hby d9_9) rfl (XS.icmpNo A0.here hx rfl (hb hby d9_10) rfl (by decide) (XS.aloadN A0.here hx rfl (hb hby d9_13) rfl rfl (XS.iload A0.here hx rfl (hb hby d9_14) rfl k)))))))) ?_
                      refine Run.st (T0.setTop (mkF m 17 #[vA b1, vI p1, vI 0, vI 15, vI (p1.toInt8.toInt32), vI 10] [.int 94])) (A0.ldB hx Va1 (j := (10 : Int32)) 10 rfl ⟨(by decide), (by decide)⟩ (v := (.int (94 : Int32))) rfl (g := (mkF m 16 #[vA b1, vI p1, vI 0, vI 15, vI (p1.toInt8.toInt32), vI 10] [.int 10, (.ref b1)])) rfl rfl (hb hby d9_16)) ?_
                      refine Run.st (T0.setTop (mkF m 19 #[vA b1, vI p1, vI 0, vI 15, vI (p1.toInt8.toInt32), vI 10] [.int (p1.toInt8.toInt32), .int 94])) (fun _ k => XS.iload A0.here hx rfl (hb hby d9_17) rfl k) ?_
                      by_cases c77 : (94 : Int32) = (p1.toInt8.toInt32)
                      · refine Run.st (T0.setTop (mkF m 24 #[vA b1, vI p1, vI 0, vI 15, vI (p1.toInt8.toInt32), vI 10] [.int 10])) (fun _ k => XS.icmpNo A0.here hx rfl (hb hby d9_19) rfl (teq c77).2 (XS.iload A0.here hx rfl (hb hby d9_22) rfl k)) ?_
                        exact A0.leaveN hlk (some (.int (10 : Int32))) (fun q => by rw [hrt] at q; cases q) (by decide) (by decide) ⟨_, rfl, rfl, Or.inl ⟨symI (i8e hbb (by decide) c77) (by decide), by decide⟩⟩ (fun X hr => retOut X hx (w := (.int (10 : Int32))) (t := .int) hrt rfl (Or.inl ⟨rfl, Or.inl rfl, _, rfl⟩) (hb hby d9_24) hr)
                      · refine Run.st (T0.setTop (mkF m 16 #[vA b1, vI p1, vI 0, vI 15, vI (p1.toInt8.toInt32), vI 11] [.int 11, (.ref b1)])) (fun _ k => XS.icmpYes A0.here hx rfl (pc0 := 19) (pc' := 25) rfl (hb hby d9_19) rfl (feq c77).2 (by decide) (by decide) (XS.iinc A0.here hx rfl (hb hby d9_25) rfl (l' := #[vA b1, vI p1, vI 0, vI 15, vI (p1.toInt8.toInt32), vI 11]) rfl (XS.goto A0.here hx rfl (pc0 := 28) (pc' := 7) rfl (hb hby d9_28) (by decide) (by decide) (XS.iload A0.here hx rfl (hb hby d9_7) rfl (XS.iloadN A0.here hx rfl (hb hby d9_9) rfl (XS.icmpNo A0.here hx rfl (hb hby d9_10) rfl (by decide) (XS.aloadN A0.here hx rfl (hb hby d9_13) rfl rfl (XS.iload A0.here hx rfl (hb hby d9_14) rfl k)))))))) ?_
                        refine Run.st (T0.setTop (mkF m 17 #[vA b1, vI p1, vI 0, vI 15, vI (p1.toInt8.toInt32), vI 11] [.int 95])) (A0.ldB hx Va1 (j := (11 : Int32)) 11 rfl ⟨(by decide), (by decide)⟩ (v := (.int (95 : Int32))) rfl (g := (mkF m 16 #[vA b1, vI p1, vI 0, vI 15, vI (p1.toInt8.toInt32), vI 11] [.int 11, (.ref b1)])) rfl rfl (hb hby d9_16)) ?_
                        refine Run.st (T0.setTop (mkF m 19 #[vA b1, vI p1, vI 0, vI 15, vI (p1.toInt8.toInt32), vI 11] [.int (p1.toInt8.toInt32), .int 95])) (fun _ k => XS.iload A0.here hx rfl (hb hby d9_17) rfl k) ?_
                        by_cases c78 : (95 : Int32) = (p1.toInt8.toInt32)
                        · refine Run.st (T0.setTop (mkF m 24 #[vA b1, vI p1, vI 0, vI 15, vI (p1.toInt8.toInt32), vI 11] [.int 11])) (fun _ k => XS.icmpNo A0.here hx rfl (hb hby d9_19) rfl (teq c78).2 (XS.iload A0.here hx rfl (hb hby d9_22) rfl k)) ?_
                          exact A0.leaveN hlk (some (.int (11 : Int32))) (fun q => by rw [hrt] at q; cases q) (by decide) (by decide) ⟨_, rfl, rfl, Or.inl ⟨symI (i8e hbb (by decide) c78) (by decide), by decide⟩⟩ (fun X hr => retOut X hx (w := (.int (11 : Int32))) (t := .int) hrt rfl (Or.inl ⟨rfl, Or.inl rfl, _, rfl⟩) (hb hby d9_24) hr)
                        · refine Run.st (T0.setTop (mkF m 16 #[vA b1, vI p1, vI 0, vI 15, vI (p1.toInt8.toInt32), vI 12] [.int 12, (.ref b1)])) (fun _ k => XS.icmpYes A0.here hx rfl (pc0 := 19) (pc' := 25) rfl (hb hby d9_19) rfl (feq c78).2 (by decide) (by decide) (XS.iinc A0.here hx rfl (hb hby d9_25) rfl (l' := #[vA b1, vI p1, vI 0, vI 15, vI (p1.toInt8.toInt32), vI 12]) rfl (XS.goto A0.here hx rfl (pc0 := 28) (pc' := 7) rfl (hb hby d9_28) (by decide) (by decide) (XS.iload A0.here hx rfl (hb hby d9_7) rfl (XS.iloadN A0.here hx rfl (hb hby d9_9) rfl (XS.icmpNo A0.here hx rfl (hb hby d9_10) rfl (by decide) (XS.aloadN A0.here hx rfl (hb hby d9_13) rfl rfl (XS.iload A0.here hx rfl (hb hby d9_14) rfl k)))))))) ?_
                          refine Run.st (T0.setTop (mkF m 17 #[vA b1, vI p1, vI 0, vI 15, vI (p1.toInt8.toInt32), vI 12] [.int 96])) (A0.ldB hx Va1 (j := (12 : Int32)) 12 rfl ⟨(by decide), (by decide)⟩ (v := (.int (96 : Int32))) rfl (g := (mkF m 16 #[vA b1, vI p1, vI 0, vI 15, vI (p1.toInt8.toInt32), vI 12] [.int 12, (.ref b1)])) rfl rfl (hb hby d9_16)) ?_
                          refine Run.st (T0.setTop (mkF m 19 #[vA b1, vI p1, vI 0, vI 15, vI (p1.toInt8.toInt32), vI 12] [.int (p1.toInt8.toInt32), .int 96])) (fun _ k => XS.iload A0.here hx rfl (hb hby d9_17) rfl k) ?_
                          by_cases c79 : (96 : Int32) = (p1.toInt8.toInt32)
                          · refine Run.st (T0.setTop (mkF m 24 #[vA b1, vI p1, vI 0, vI 15, vI (p1.toInt8.toInt32), vI 12] [.int 12])) (fun _ k => XS.icmpNo A0.here hx rfl (hb hby d9_19) rfl (teq c79).2 (XS.iload A0.here hx rfl (hb hby d9_22) rfl k)) ?_
                            exact A0.leaveN hlk (some (.int (12 : Int32))) (fun q => by rw [hrt] at q; cases q) (by decide) (by decide) ⟨_, rfl, rfl, Or.inl ⟨symI (i8e hbb (by decide) c79) (by decide), by decide⟩⟩ (fun X hr => retOut X hx (w := (.int (12 : Int32))) (t := .int) hrt rfl (Or.inl ⟨rfl, Or.inl rfl, _, rfl⟩) (hb hby d9_24) hr)
                          · refine Run.st (T0.setTop (mkF m 16 #[vA b1, vI p1, vI 0, vI 15, vI (p1.toInt8.toInt32), vI 13] [.int 13, (.ref b1)])) (fun _ k => XS.icmpYes A0.here hx rfl (pc0 := 19) (pc' := 25) rfl (hb hby d9_19) rfl (feq c79).2 (by decide) (by decide) (XS.iinc A0.here hx rfl (hb hby d9_25) rfl (l' := #[vA b1, vI p1, vI 0, vI 15, vI (p1.toInt8.toInt32), vI 13]) rfl (XS.goto A0.here hx rfl (pc0 := 28) (pc' := 7) rfl (hb hby d9_28) (by decide) (by decide) (XS.iload A0.here hx rfl (hb hby d9_7) rfl (XS.iloadN A0.here hx rfl (hb hby d9_9) rfl (XS.icmpNo A0.here hx rfl (hb hby d9_10) rfl (by decide) (XS.aloadN A0.here hx rfl (hb hby d9_13) rfl rfl (XS.iload A0.here hx rfl (hb hby d9_14) rfl k)))))))) ?_
                            refine Run.st (T0.setTop (mkF m 17 #[vA b1, vI p1, vI 0, vI 15, vI (p1.toInt8.toInt32), vI 13] [.int 124])) (A0.ldB hx Va1 (j := (13 : Int32)) 13 rfl ⟨(by decide), (by decide)⟩ (v := (.int (124 : Int32))) rfl (g := (mkF m 16 #[vA b1, vI p1, vI 0, vI 15, vI (p1.toInt8.toInt32), vI 13] [.int 13, (.ref b1)])) rfl rfl (hb hby d9_16)) ?_
                            refine Run.st (T0.setTop (mkF m 19 #[vA b1, vI p1, vI 0, vI 15, vI (p1.toInt8.toInt32), vI 13] [.int (p1.toInt8.toInt32), .int 124])) (fun _ k => XS.iload A0.here hx rfl (hb hby d9_17) rfl k) ?_
                            by_cases c80 : (124 : Int32) = (p1.toInt8.toInt32)
                            · refine Run.st (T0.setTop (mkF m 24 #[vA b1, vI p1, vI 0, vI 15, vI (p1.toInt8.toInt32), vI 13] [.int 13])) (fun _ k => XS.icmpNo A0.here hx rfl (hb hby d9_19) rfl (teq c80).2 (XS.iload A0.here hx rfl (hb hby d9_22) rfl k)) ?_
                              exact A0.leaveN hlk (some (.int (13 : Int32))) (fun q => by rw [hrt] at q; cases q) (by decide) (by decide) ⟨_, rfl, rfl, Or.inl ⟨symI (i8e hbb (by decide) c80) (by decide), by decide⟩⟩ (fun X hr => retOut X hx (w := (.int (13 : Int32))) (t := .int) hrt rfl (Or.inl ⟨rfl, Or.inl rfl, _, rfl⟩) (hb hby d9_24) hr)
                            · refine Run.st (T0.setTop (mkF m 16 #[vA b1, vI p1, vI 0, vI 15, vI (p1.toInt8.toInt32), vI 14] [.int 14, (.ref b1)])) (fun _ k => XS.icmpYes A0.here hx rfl (pc0 := 19) (pc' := 25) rfl (hb hby d9_19) rfl (feq c80).2 (by decide) (by decide) (XS.iinc A0.here hx rfl (hb hby d9_25) rfl (l' := #[vA b1, vI p1, vI 0, vI 15, vI (p1.toInt8.toInt32), vI 14]) rfl (XS.goto A0.here hx rfl (pc0 := 28) (pc' := 7) rfl (hb hby d9_28) (by decide) (by decide) (XS.iload A0.here hx rfl (hb hby d9_7) rfl (XS.iloadN A0.here hx rfl (hb hby d9_9) rfl (XS.icmpNo A0.here hx rfl (hb hby d9_10) rfl (by decide) (XS.aloadN A0.here hx rfl (hb hby d9_13) rfl rfl (XS.iload A0.here hx rfl (hb hby d9_14) rfl k)))))))) ?_
                              refine Run.st (T0.setTop (mkF m 17 #[vA b1, vI p1, vI 0, vI 15, vI (p1.toInt8.toInt32), vI 14] [.int 126])) (A0.ldB hx Va1 (j := (14 : Int32)) 14 rfl ⟨(by decide), (by decide)⟩ (v := (.int (126 : Int32))) rfl (g := (mkF m 16 #[vA b1, vI p1, vI 0, vI 15, vI (p1.toInt8.toInt32), vI 14] [.int 14, (.ref b1)])) rfl rfl (hb hby d9_16)) ?_
                              refine Run.st (T0.setTop (mkF m 19 #[vA b1, vI p1, vI 0, vI 15, vI (p1.toInt8.toInt32), vI 14] [.int (p1.toInt8.toInt32), .int 126])) (fun _ k => XS.iload A0.here hx rfl (hb hby d9_17) rfl k) ?_
                              by_cases c81 : (126 : Int32) = (p1.toInt8.toInt32)
                              · refine Run.st (T0.setTop (mkF m 24 #[vA b1, vI p1, vI 0, vI 15, vI (p1.toInt8.toInt32), vI 14] [.int 14])) (fun _ k => XS.icmpNo A0.here hx rfl (hb hby d9_19) rfl (teq c81).2 (XS.iload A0.here hx rfl (hb hby d9_22) rfl k)) ?_
                                exact A0.leaveN hlk (some (.int (14 : Int32))) (fun q => by rw [hrt] at q; cases q) (by decide) (by decide) ⟨_, rfl, rfl, Or.inl ⟨symI (i8e hbb (by decide) c81) (by decide), by decide⟩⟩ (fun X hr => retOut X hx (w := (.int (14 : Int32))) (t := .int) hrt rfl (Or.inl ⟨rfl, Or.inl rfl, _, rfl⟩) (hb hby d9_24) hr)
                              · refine Run.st (T0.setTop (mkF m 32 #[vA b1, vI p1, vI 0, vI 15, vI (p1.toInt8.toInt32), vI 15] [.int (-1)])) (fun _ k => XS.icmpYes A0.here hx rfl (pc0 := 19) (pc' := 25) rfl (hb hby d9_19) rfl (feq c81).2 (by decide) (by decide) (XS.iinc A0.here hx rfl (hb hby d9_25) rfl (l' := #[vA b1, vI p1, vI 0, vI 15, vI (p1.toInt8.toInt32), vI 15]) rfl (XS.goto A0.here hx rfl (pc0 := 28) (pc' := 7) rfl (hb hby d9_28) (by decide) (by decide) (XS.iload A0.here hx rfl (hb hby d9_7) rfl (XS.iloadN A0.here hx rfl (hb hby d9_9) rfl (XS.icmpYes A0.here hx rfl (pc0 := 10) (pc' := 31) rfl (hb hby d9_10) rfl (by decide) (by decide) (by decide) (XS.iconst A0.here hx rfl (hb hby d9_31) k))))))) ?_
                                exact A0.leaveN hlk (some (.int (-1 : Int32))) (fun q => by rw [hrt] at q; cases q) (by decide) (by decide) ⟨_, rfl, rfl, Or.inr ⟨(nnS (i8n (by decide) c67) (nnS (i8n (by decide) c68) (nnS (i8n (by decide) c69) (nnS (i8n (by decide) c70) (nnS (i8n (by decide) c71) (nnS (i8n (by decide) c72) (nnS (i8n (by decide) c73) (nnS (i8n (by decide) c74) (nnS (i8n (by decide) c75) (nnS (i8n (by decide) c76) (nnS (i8n (by decide) c77) (nnS (i8n (by decide) c78) (nnS (i8n (by decide) c79) (nnS (i8n (by decide) c80) (nnS (i8n (by decide) c81) nn0))))))))))))))), by decide⟩⟩ (fun X hr => retOut X hx (w := (.int (-1 : Int32))) (t := .int) hrt rfl (Or.inl ⟨rfl, Or.inl rfl, _, rfl⟩) (hb hby d9_32) hr)
theorem ef_ix4 (m : MethodId) (y0 : Addr) (y1 : Int32) (y2 : Int32) (y3 : Int32) : entryFrame m #[(.ref y0), (.int y1), (.int y2), (.int y3)] 4 = mkF m 0 #[vA y0, vI y1, vI y2, vI y3] [] := by first | (simp [entryFrame, mkF, argsToLocals, vI, vA, Value.category, maxLocals]; done) | rfl
def Q_ix4 (Z : State) (b1 : Addr) (k1 : ClassId) (p1 : Int32) (h0 : Heap) (v : Option Value) (h : Heap) : Prop := ∃ z, v = some (.int z) ∧ h = h0 ∧ (p1 ∈ LITS ∧ ¬ z < 0 ∨ p1 ∉ LITS ∧ z < 0)
def rm_ix4 : Room := { frames := 1, cells := 0, slots := 0, locals := 17 }
set_option maxRecDepth 65536 in
set_option maxHeartbeats 40000000 in
theorem ct_ix4 {l : Launch} {Z : State} {a0 : Array Value} (H : Ev Z a0) (b1 : Addr) (k1 : ClassId) (p1 : Int32) {h0 : Heap} {n0 : Nat} (O0 : Old Z n0 h0) (Va1 : Arv Z h0 b1 k1 .byte (15 : Int32) ((LITS.map fun c => c.toInt8.toInt32).map Value.int) (.int 0)) (hc : R16 p1) : CtrN l Z (⟨"java/lang/StringLatin1", "indexOf", "([BIII)I"⟩ : MethodName) jdk_43_method_22_code 4 (some .int) [] rm_ix4 #[(.ref b1), (.int p1), (.int (0 : Int32)), (.int (15 : Int32))] h0 [] n0 (Q_ix4 Z b1 k1 p1 h0) := by
  refine enterN (a0 := a0) (plainFor_of_name pn_2) O0 all0 ?_
  intro p e s m below meth c T0 hx hby hml hrt hnm hlk A0
  replace A0 : Wk false Z a0 [] n0 h0 [] "java/lang/StringLatin1" p l e rm_ix4 s m #[(.ref b1), (.int p1), (.int (0 : Int32)), (.int (15 : Int32))] below meth c [] T0 h0 0 0 := A0
  refine Run.st (T0.setTop (mkF m 0 #[vA b1, vI p1, vI 0, vI 15] [])) (fun _ k => castTop (ef_ix4 m b1 p1 (0 : Int32) (15 : Int32)) k) ?_
  refine Run.st (T0.setTop (mkF m 1 #[vA b1, vI p1, vI 0, vI 15] [.int p1])) (fun _ k => XS.iloadN A0.here hx rfl (hb hby d10_0) rfl k) ?_
  obtain ⟨v82, T82, h82, AA82, K82, ⟨L82, Q82⟩, st82⟩ := A0.callS hx (tw98 H.1) (tw99 H.1) (tw73 H.1) (tw100 H.1) (by decide) (g := (mkF m 1 #[vA b1, vI p1, vI 0, vI 15] [.int p1])) rfl (by rw [hml]; rfl) [(.int p1)] [] (lenOf pd_1 rfl) rfl (Wd := 0) (Nat.le_refl _) (hb hby d10_1) (by decide) (by decide) [] (fun _ _ _ q => q.2) all0 (fun vm0 hZ => payN (ct_canE H p1 A0.old hc) (tw100 H.1) (tw73 H.1) (by decide) (by decide) hZ)
  obtain ⟨Q82, N82, -⟩ := Q82
  obtain ⟨z82, rfl, q82, D82⟩ := Q82
  have q82 := q82.symm
  subst q82
  have A82 := AA82 [] all0
  refine Run.st (T82.setTop (mkF m 4 #[vA b1, vI p1, vI 0, vI 15] [.int z82])) st82 ?_
  rcases D82 with ⟨l82, e82⟩ | ⟨l82, e82⟩
  · subst e82
    refine Run.st (T82.setTop (mkF m 11 #[vA b1, vI p1, vI 0, vI 15] [.int 0, .int 0])) (fun _ k => XS.ifYes A82.here hx rfl (pc0 := 4) (pc' := 9) rfl (hb hby d10_4) rfl (by decide) (by decide) (by decide) (XS.iloadN A82.here hx rfl (hb hby d10_9) rfl (XS.iconst A82.here hx rfl (hb hby d10_10) k))) ?_
    obtain ⟨v83, T83, h83, AA83, K83, ⟨L83, Q83⟩, st83⟩ := A82.callS hx (tw101 H.1) (tw102 H.1) (tw103 H.1) (tw104 H.1) (by decide) (g := (mkF m 11 #[vA b1, vI p1, vI 0, vI 15] [.int 0, .int 0])) rfl (by rw [hml]; rfl) [(.int (0 : Int32)), (.int (0 : Int32))] [] (lenOf pd_2 rfl) rfl (Wd := 0) (Nat.le_refl _) (hb hby d10_11) (by decide) (by decide) [] (fun _ _ _ q => q.2) all0 (fun vm0 hZ => payN (ct_mmax H A82.old) (tw104 H.1) (tw103 H.1) (by decide) (by decide) hZ)
    obtain ⟨Q83, N83, -⟩ := Q83
    obtain ⟨rfl, q83⟩ := Q83
    have q83 := q83.symm
    subst q83
    have A83 := AA83 [] all0
    refine Run.st (T83.setTop (mkF m 14 #[vA b1, vI p1, vI 0, vI 15] [.int 0])) st83 ?_
    refine Run.st (T83.setTop (mkF m 17 #[vA b1, vI p1, vI 0, vI 15] [(.ref b1), .int 15])) (fun _ k => XS.istoreN A83.here hx rfl (hb hby d10_14) rfl (l' := #[vA b1, vI p1, vI 0, vI 15]) rfl (XS.iloadN A83.here hx rfl (hb hby d10_15) rfl (XS.aloadN A83.here hx rfl (hb hby d10_16) rfl rfl k))) ?_
    refine Run.st (T83.setTop (mkF m 18 #[vA b1, vI p1, vI 0, vI 15] [.int 15, .int 15])) (A83.alen hx Va1 (g := (mkF m 17 #[vA b1, vI p1, vI 0, vI 15] [(.ref b1), .int 15])) rfl rfl (hb hby d10_17)) ?_
    obtain ⟨v84, T84, h84, AA84, K84, ⟨L84, Q84⟩, st84⟩ := A83.callS hx (tw105 H.1) (tw106 H.1) (tw103 H.1) (tw107 H.1) (by decide) (g := (mkF m 18 #[vA b1, vI p1, vI 0, vI 15] [.int 15, .int 15])) rfl (by rw [hml]; rfl) [(.int (15 : Int32)), (.int (15 : Int32))] [] (lenOf pd_2 rfl) rfl (Wd := 0) (Nat.le_refl _) (hb hby d10_18) (by decide) (by decide) [] (fun _ _ _ q => q.2) all0 (fun vm0 hZ => payN (ct_mmin H A83.old) (tw107 H.1) (tw103 H.1) (by decide) (by decide) hZ)
    obtain ⟨Q84, N84, -⟩ := Q84
    obtain ⟨rfl, q84⟩ := Q84
    have q84 := q84.symm
    subst q84
    have A84 := AA84 [] all0
    refine Run.st (T84.setTop (mkF m 21 #[vA b1, vI p1, vI 0, vI 15] [.int 15])) st84 ?_
    refine Run.st (T84.setTop (mkF m 33 #[vA b1, vI p1, vI 0, vI 15] [.int 15, .int 0, .int p1, (.ref b1)])) (fun _ k => XS.istoreN A84.here hx rfl (hb hby d10_21) rfl (l' := #[vA b1, vI p1, vI 0, vI 15]) rfl (XS.iloadN A84.here hx rfl (hb hby d10_22) rfl (XS.iloadN A84.here hx rfl (hb hby d10_23) rfl (XS.icmpYes A84.here hx rfl (pc0 := 24) (pc' := 29) rfl (hb hby d10_24) rfl (by decide) (by decide) (by decide) (XS.aloadN A84.here hx rfl (hb hby d10_29) rfl rfl (XS.iloadN A84.here hx rfl (hb hby d10_30) rfl (XS.iloadN A84.here hx rfl (hb hby d10_31) rfl (XS.iloadN A84.here hx rfl (hb hby d10_32) rfl k)))))))) ?_
    obtain ⟨v85, T85, h85, AA85, K85, ⟨L85, Q85⟩, st85⟩ := A84.callS hx (tw108 H.1) (tw109 H.1) (tw73 H.1) (tw110 H.1) (by decide) (g := (mkF m 33 #[vA b1, vI p1, vI 0, vI 15] [.int 15, .int 0, .int p1, (.ref b1)])) rfl (by rw [hml]; rfl) [(.ref b1), (.int p1), (.int (0 : Int32)), (.int (15 : Int32))] [] (lenOf pd_3 rfl) rfl (Wd := 0) (Nat.le_refl _) (hb hby d10_33) (by decide) (by decide) [] (fun _ _ _ q => q.2) all0 (fun vm0 hZ => payN (ct_ixc H b1 _ p1 A84.old Va1 ⟨hc.1, l82⟩) (tw110 H.1) (tw73 H.1) (by decide) (by decide) hZ)
    obtain ⟨Q85, N85, -⟩ := Q85
    obtain ⟨z85, rfl, q85, D85⟩ := Q85
    have q85 := q85.symm
    subst q85
    have A85 := AA85 [] all0
    refine Run.st (T85.setTop (mkF m 36 #[vA b1, vI p1, vI 0, vI 15] [.int z85])) st85 ?_
    exact A85.leaveN hlk (some (.int z85)) (fun q => by rw [hrt] at q; cases q) (by decide) (by decide) ⟨_, rfl, rfl, D85⟩ (fun X hr => retOut X hx (w := (.int z85)) (t := .int) hrt rfl (Or.inl ⟨rfl, Or.inl rfl, _, rfl⟩) (hb hby d10_36) hr)
  · subst e82
    refine Run.st (T82.setTop (mkF m 8 #[vA b1, vI p1, vI 0, vI 15] [.int (-1)])) (fun _ k => XS.ifNo A82.here hx rfl (hb hby d10_4) rfl (by decide) (XS.iconst A82.here hx rfl (hb hby d10_7) k)) ?_
    exact A82.leaveN hlk (some (.int (-1 : Int32))) (fun q => by rw [hrt] at q; cases q) (by decide) (by decide) ⟨_, rfl, rfl, Or.inr ⟨symB l82, by decide⟩⟩ (fun X hr => retOut X hx (w := (.int (-1 : Int32))) (t := .int) hrt rfl (Or.inl ⟨rfl, Or.inl rfl, _, rfl⟩) (hb hby d10_8) hr)
theorem ef_ix2 (m : MethodId) (y0 : Addr) (y1 : Int32) (y2 : Int32) : entryFrame m #[(.ref y0), (.int y1), (.int y2)] 3 = mkF m 0 #[vA y0, vI y1, vI y2] [] := by first | (simp [entryFrame, mkF, argsToLocals, vI, vA, Value.category, maxLocals]; done) | rfl
def Q_ix2 (Z : State) (a1 : Addr) (b1 : Addr) (k1 : ClassId) (p1 : Int32) (h0 : Heap) (v : Option Value) (h : Heap) : Prop := ∃ z, v = some (.int z) ∧ h = h0 ∧ (p1 ∈ LITS ∧ ¬ z < 0 ∨ p1 ∉ LITS ∧ z < 0)
def rm_ix2 : Room := { frames := 2, cells := 0, slots := 0, locals := 32 }
set_option maxRecDepth 65536 in
set_option maxHeartbeats 40000000 in
theorem ct_ix2 {l : Launch} {Z : State} {a0 : Array Value} (H : Ev Z a0) (a1 : Addr) (b1 : Addr) (k1 : ClassId) (p1 : Int32) {h0 : Heap} {n0 : Nat} (O0 : Old Z n0 h0) (E1 : Exa Z h0 a1 "java/lang/String") (F1 : Fld Z h0 a1 "java/lang/String" "coder" "B" (.int 0)) (F2 : Fld Z h0 a1 "java/lang/String" "value" "[B" (.ref b1)) (Va1 : Arv Z h0 b1 k1 .byte (15 : Int32) ((LITS.map fun c => c.toInt8.toInt32).map Value.int) (.int 0)) (hc : R16 p1) : CtrN l Z (⟨"java/lang/String", "indexOf", "(II)I"⟩ : MethodName) jdk_42_method_80_code 3 (some .int) [] rm_ix2 #[(.ref a1), (.int p1), (.int (0 : Int32))] h0 [] n0 (Q_ix2 Z a1 b1 k1 p1 h0) := by
  refine enterN (a0 := a0) (plainFor_of_name pn_1) O0 all0 ?_
  intro p e s m below meth c T0 hx hby hml hrt hnm hlk A0
  replace A0 : Wk false Z a0 [] n0 h0 [] "java/lang/String" p l e rm_ix2 s m #[(.ref a1), (.int p1), (.int (0 : Int32))] below meth c [] T0 h0 0 0 := A0
  refine Run.st (T0.setTop (mkF m 0 #[vA a1, vI p1, vI 0] [])) (fun _ k => castTop (ef_ix2 m a1 p1 (0 : Int32)) k) ?_
  refine Run.st (T0.setTop (mkF m 1 #[vA a1, vI p1, vI 0] [(.ref a1)])) (fun _ k => XS.aloadN A0.here hx rfl (hb hby d11_0) rfl rfl k) ?_
  obtain ⟨v86, T86, h86, AA86, K86, ⟨L86, Q86⟩, st86⟩ := A0.callV hx (y := (⟨"java/lang/String", "isLatin1", "()Z"⟩ : MethodName)) (z := (⟨"java/lang/String", "isLatin1", "()Z"⟩ : MethodName)) (tw66 H.1) (tw67 H.1) (tw69 H.1) (tw68 H.1) (nfSel (tw69 H.1)) (by decide) E1 (g := (mkF m 1 #[vA a1, vI p1, vI 0] [(.ref a1)])) rfl (by rw [hml]; rfl) [] [] (lenOf pd_4 rfl) rfl (Wd := 0) (Nat.le_refl _) (hb hby d11_1) (by decide) (by decide) [] (fun _ _ _ q => q.2) all0 (fun vm0 hZ => payN (ct_isLatin10 H a1 A0.old F1) (tw70 H.1) (tw8 H.1) (by decide) (by decide) hZ)
  obtain ⟨Q86, N86, -⟩ := Q86
  obtain ⟨rfl, q86⟩ := Q86
  have q86 := q86.symm
  subst q86
  have A86 := AA86 [] all0
  refine Run.st (T86.setTop (mkF m 4 #[vA a1, vI p1, vI 0] [.int 1])) st86 ?_
  refine Run.st (T86.setTop (mkF m 8 #[vA a1, vI p1, vI 0] [(.ref a1)])) (fun _ k => XS.ifNo A86.here hx rfl (hb hby d11_4) rfl (by decide) (XS.aloadN A86.here hx rfl (hb hby d11_7) rfl rfl k)) ?_
  obtain ⟨T87, A87, st87⟩ := A86.getF hx (tw26 H.1) Via.refl F2 (g := (mkF m 8 #[vA a1, vI p1, vI 0] [(.ref a1)])) rfl rfl (hb hby d11_8)
  refine Run.st (T87.setTop (mkF m 11 #[vA a1, vI p1, vI 0] [(.ref b1)])) st87 ?_
  refine Run.st (T87.setTop (mkF m 14 #[vA a1, vI p1, vI 0] [(.ref a1), .int 0, .int p1, (.ref b1)])) (fun _ k => XS.iloadN A87.here hx rfl (hb hby d11_11) rfl (XS.iloadN A87.here hx rfl (hb hby d11_12) rfl (XS.aloadN A87.here hx rfl (hb hby d11_13) rfl rfl k))) ?_
  obtain ⟨v88, T88, h88, AA88, K88, ⟨L88, Q88⟩, st88⟩ := A87.callV hx (y := (⟨"java/lang/String", "length", "()I"⟩ : MethodName)) (z := (⟨"java/lang/String", "length", "()I"⟩ : MethodName)) (tw94 H.1) (tw52 H.1) (tw54 H.1) (tw53 H.1) (nfSel (tw54 H.1)) (by decide) E1 (g := (mkF m 14 #[vA a1, vI p1, vI 0] [(.ref a1), .int 0, .int p1, (.ref b1)])) rfl (by rw [hml]; rfl) [] [(.int (0 : Int32)), (.int p1), (.ref b1)] (lenOf pd_5 rfl) rfl (Wd := 3) (Nat.le_refl _) (hb hby d11_14) (by decide) (by decide) [] (fun _ _ _ q => q.2) all0 (fun vm0 hZ => payN (ct_lenL H a1 _ _ A87.old E1 F1 F2 Va1) (tw55 H.1) (tw8 H.1) (by decide) (by decide) hZ)
  obtain ⟨Q88, N88, -⟩ := Q88
  obtain ⟨rfl, q88⟩ := Q88
  have q88 := q88.symm
  subst q88
  have A88 := AA88 [] all0
  refine Run.st (T88.setTop (mkF m 17 #[vA a1, vI p1, vI 0] [.int 15, .int 0, .int p1, (.ref b1)])) st88 ?_
  obtain ⟨v89, T89, h89, AA89, K89, ⟨L89, Q89⟩, st89⟩ := A88.callS hx (tw95 H.1) (tw96 H.1) (tw73 H.1) (tw97 H.1) (by decide) (g := (mkF m 17 #[vA a1, vI p1, vI 0] [.int 15, .int 0, .int p1, (.ref b1)])) rfl (by rw [hml]; rfl) [(.ref b1), (.int p1), (.int (0 : Int32)), (.int (15 : Int32))] [] (lenOf pd_3 rfl) rfl (Wd := 0) (Nat.le_refl _) (hb hby d11_17) (by decide) (by decide) [] (fun _ _ _ q => q.2) all0 (fun vm0 hZ => payN (ct_ix4 H b1 _ p1 A88.old Va1 hc) (tw97 H.1) (tw73 H.1) (by decide) (by decide) hZ)
  obtain ⟨Q89, N89, -⟩ := Q89
  obtain ⟨z89, rfl, q89, D89⟩ := Q89
  have q89 := q89.symm
  subst q89
  have A89 := AA89 [] all0
  refine Run.st (T89.setTop (mkF m 20 #[vA a1, vI p1, vI 0] [.int z89])) st89 ?_
  refine Run.st (T89.setTop (mkF m 36 #[vA a1, vI p1, vI 0] [.int z89])) (fun _ k => XS.goto A89.here hx rfl (pc0 := 20) (pc' := 36) rfl (hb hby d11_20) (by decide) (by decide) k) ?_
  exact A89.leaveN hlk (some (.int z89)) (fun q => by rw [hrt] at q; cases q) (by decide) (by decide) ⟨_, rfl, rfl, D89⟩ (fun X hr => retOut X hx (w := (.int z89)) (t := .int) hrt rfl (Or.inl ⟨rfl, Or.inl rfl, _, rfl⟩) (hb hby d11_36) hr)
theorem ef_ix1 (m : MethodId) (y0 : Addr) (y1 : Int32) : entryFrame m #[(.ref y0), (.int y1)] 2 = mkF m 0 #[vA y0, vI y1] [] := by first | (simp [entryFrame, mkF, argsToLocals, vI, vA, Value.category, maxLocals]; done) | rfl
def Q_ix1 (Z : State) (a1 : Addr) (b1 : Addr) (k1 : ClassId) (p1 : Int32) (h0 : Heap) (v : Option Value) (h : Heap) : Prop := ∃ z, v = some (.int z) ∧ h = h0 ∧ (p1 ∈ LITS ∧ ¬ z < 0 ∨ p1 ∉ LITS ∧ z < 0)
def rm_ix1 : Room := { frames := 3, cells := 0, slots := 0, locals := 46 }
set_option maxRecDepth 65536 in
set_option maxHeartbeats 40000000 in
theorem ct_ix1 {l : Launch} {Z : State} {a0 : Array Value} (H : Ev Z a0) (a1 : Addr) (b1 : Addr) (k1 : ClassId) (p1 : Int32) {h0 : Heap} {n0 : Nat} (O0 : Old Z n0 h0) (E1 : Exa Z h0 a1 "java/lang/String") (F1 : Fld Z h0 a1 "java/lang/String" "coder" "B" (.int 0)) (F2 : Fld Z h0 a1 "java/lang/String" "value" "[B" (.ref b1)) (Va1 : Arv Z h0 b1 k1 .byte (15 : Int32) ((LITS.map fun c => c.toInt8.toInt32).map Value.int) (.int 0)) (hc : R16 p1) : CtrN l Z (⟨"java/lang/String", "indexOf", "(I)I"⟩ : MethodName) jdk_42_method_79_code 2 (some .int) [] rm_ix1 #[(.ref a1), (.int p1)] h0 [] n0 (Q_ix1 Z a1 b1 k1 p1 h0) := by
  refine enterN (a0 := a0) (plainFor_of_name pn_1) O0 all0 ?_
  intro p e s m below meth c T0 hx hby hml hrt hnm hlk A0
  replace A0 : Wk false Z a0 [] n0 h0 [] "java/lang/String" p l e rm_ix1 s m #[(.ref a1), (.int p1)] below meth c [] T0 h0 0 0 := A0
  refine Run.st (T0.setTop (mkF m 0 #[vA a1, vI p1] [])) (fun _ k => castTop (ef_ix1 m a1 p1) k) ?_
  refine Run.st (T0.setTop (mkF m 3 #[vA a1, vI p1] [.int 0, .int p1, (.ref a1)])) (fun _ k => XS.aloadN A0.here hx rfl (hb hby d12_0) rfl rfl (XS.iloadN A0.here hx rfl (hb hby d12_1) rfl (XS.iconst A0.here hx rfl (hb hby d12_2) k))) ?_
  obtain ⟨v90, T90, h90, AA90, K90, ⟨L90, Q90⟩, st90⟩ := A0.callV hx (y := (⟨"java/lang/String", "indexOf", "(II)I"⟩ : MethodName)) (z := (⟨"java/lang/String", "indexOf", "(II)I"⟩ : MethodName)) (tw89 H.1) (tw90 H.1) (tw92 H.1) (tw91 H.1) (nfSel (tw92 H.1)) (by decide) E1 (g := (mkF m 3 #[vA a1, vI p1] [.int 0, .int p1, (.ref a1)])) rfl (by rw [hml]; rfl) [(.int p1), (.int (0 : Int32))] [] (lenOf pd_2 rfl) rfl (Wd := 0) (Nat.le_refl _) (hb hby d12_3) (by decide) (by decide) [] (fun _ _ _ q => q.2) all0 (fun vm0 hZ => payN (ct_ix2 H a1 b1 _ p1 A0.old E1 F1 F2 Va1 hc) (tw93 H.1) (tw8 H.1) (by decide) (by decide) hZ)
  obtain ⟨Q90, N90, -⟩ := Q90
  obtain ⟨z90, rfl, q90, D90⟩ := Q90
  have q90 := q90.symm
  subst q90
  have A90 := AA90 [] all0
  refine Run.st (T90.setTop (mkF m 6 #[vA a1, vI p1] [.int z90])) st90 ?_
  exact A90.leaveN hlk (some (.int z90)) (fun q => by rw [hrt] at q; cases q) (by decide) (by decide) ⟨_, rfl, rfl, D90⟩ (fun X hr => retOut X hx (w := (.int z90)) (t := .int) hrt rfl (Or.inl ⟨rfl, Or.inl rfl, _, rfl⟩) (hb hby d12_6) hr)
theorem ef_cki (m : MethodId) (y0 : Int32) (y1 : Int32) (y2 : Value) (c_y2 : y2.category = 1) : entryFrame m #[(.int y0), (.int y1), y2] 3 = mkF m 0 #[vI y0, vI y1, .val y2] [] := by first | (simp [entryFrame, mkF, argsToLocals, vI, vA, cat_r, cat_i, cat_l, cat_n, maxLocals, c_y2]; done) | rfl
def Q_cki (Z : State) (p1 : Int32) (p2 : Int32) (w3 : Value) (h0 : Heap) (v : Option Value) (h : Heap) : Prop := v = some (.int p1) ∧ h = h0
def rm_cki : Room := { frames := 0, cells := 0, slots := 0, locals := 0 }
set_option maxRecDepth 65536 in
set_option maxHeartbeats 40000000 in
theorem ct_cki {l : Launch} {Z : State} {a0 : Array Value} (H : Ev Z a0) (p1 : Int32) (p2 : Int32) (w3 : Value) {h0 : Heap} {n0 : Nat} (O0 : Old Z n0 h0) (h1 : ¬ p1 < 0) (h2 : p1 < p2) (r3 : w3.isRef = true) : CtrN l Z (⟨"jdk/internal/util/Preconditions", "checkIndex", "(IILjava/util/function/BiFunction;)I"⟩ : MethodName) jdk_41_method_11_code 3 (some .int) [] rm_cki #[(.int p1), (.int p2), w3] h0 [] n0 (Q_cki Z p1 p2 w3 h0) := by
  refine enterN (a0 := a0) (plainFor_of_name pn_3) O0 all0 ?_
  intro p e s m below meth c T0 hx hby hml hrt hnm hlk A0
  replace A0 : Wk false Z a0 [] n0 h0 [] "jdk/internal/util/Preconditions" p l e rm_cki s m #[(.int p1), (.int p2), w3] below meth c [] T0 h0 0 0 := A0
  refine Run.st (T0.setTop (mkF m 0 #[vI p1, vI p2, .val w3] [])) (fun _ k => castTop (ef_cki m p1 p2 w3 (catR r3)) k) ?_
  refine Run.st (T0.setTop (mkF m 17 #[vI p1, vI p2, .val w3] [.int p1])) (fun _ k => XS.iloadN A0.here hx rfl (hb hby d13_0) rfl (XS.ifNo A0.here hx rfl (hb hby d13_1) rfl (by rw [if0]; exact (flt h1).1) (XS.iloadN A0.here hx rfl (hb hby d13_4) rfl (XS.iloadN A0.here hx rfl (hb hby d13_5) rfl (XS.icmpYes A0.here hx rfl (pc0 := 6) (pc' := 16) rfl (hb hby d13_6) rfl (tlt h2).1 (by decide) (by decide) (XS.iloadN A0.here hx rfl (hb hby d13_16) rfl k)))))) ?_
  exact A0.leaveN hlk (some (.int p1)) (fun q => by rw [hrt] at q; cases q) (by decide) (by decide) ⟨rfl, rfl⟩ (fun X hr => retOut X hx (w := (.int p1)) (t := .int) hrt rfl (Or.inl ⟨rfl, Or.inl rfl, _, rfl⟩) (hb hby d13_17) hr)
theorem ef_ckS (m : MethodId) (y0 : Int32) (y1 : Int32) : entryFrame m #[(.int y0), (.int y1)] 2 = mkF m 0 #[vI y0, vI y1] [] := by first | (simp [entryFrame, mkF, argsToLocals, vI, vA, Value.category, maxLocals]; done) | rfl
def Q_ckS (Z : State) (p1 : Int32) (p2 : Int32) (h0 : Heap) (v : Option Value) (h : Heap) : Prop := v = none ∧ h = h0
def rm_ckS : Room := { frames := 1, cells := 0, slots := 0, locals := 14 }
set_option maxRecDepth 65536 in
set_option maxHeartbeats 40000000 in
theorem ct_ckS {l : Launch} {Z : State} {a0 : Array Value} (H : Ev Z a0) (p1 : Int32) (p2 : Int32) {h0 : Heap} {n0 : Nat} (O0 : Old Z n0 h0) (h1 : ¬ p1 < 0) (h2 : p1 < p2) : CtrN l Z (⟨"java/lang/String", "checkIndex", "(II)V"⟩ : MethodName) jdk_42_method_155_code 2 none [] rm_ckS #[(.int p1), (.int p2)] h0 [] n0 (Q_ckS Z p1 p2 h0) := by
  refine enterN (a0 := a0) (plainFor_of_name pn_1) O0 all0 ?_
  intro p e s m below meth c T0 hx hby hml hrt hnm hlk A0
  replace A0 : Wk false Z a0 [] n0 h0 [] "java/lang/String" p l e rm_ckS s m #[(.int p1), (.int p2)] below meth c [] T0 h0 0 0 := A0
  refine Run.st (T0.setTop (mkF m 0 #[vI p1, vI p2] [])) (fun _ k => castTop (ef_ckS m p1 p2) k) ?_
  obtain ⟨zc, Sc, hzc⟩ := H.2.1
  obtain ⟨fm, Sfm, rfm⟩ := H.2.2.1
  refine Run.st (T0.setTop (mkF m 2 #[vI p1, vI p2] [.int p2, .int p1])) (fun _ k => XS.iloadN A0.here hx rfl (hb hby d14_0) rfl (XS.iloadN A0.here hx rfl (hb hby d14_1) rfl k)) ?_
  obtain ⟨T91, A91, st91⟩ := A0.getS hx (tw78 H.1) Via.refl (Sfm.ext A0.old.2) (g := (mkF m 2 #[vI p1, vI p2] [.int p2, .int p1])) rfl (hb hby d14_2)
  refine Run.st (T91.setTop (mkF m 5 #[vI p1, vI p2] [fm, .int p2, .int p1])) st91 ?_
  obtain ⟨v92, T92, h92, AA92, K92, ⟨L92, Q92⟩, st92⟩ := A91.callS hx (tw80 H.1) (tw81 H.1) (tw79 H.1) (tw82 H.1) (by decide) (g := (mkF m 5 #[vI p1, vI p2] [fm, .int p2, .int p1])) rfl (by rw [hml]; rfl) [(.int p1), (.int p2), fm] [] (lenOf pd_6 rfl) rfl (Wd := 0) (Nat.le_refl _) (hb hby d14_5) (by decide) (by decide) [] (fun _ _ _ q => q.2) all0 (fun vm0 hZ => payN (ct_cki H p1 p2 fm A91.old h1 h2 rfm) (tw82 H.1) (tw79 H.1) (by decide) (by decide) hZ)
  obtain ⟨Q92, N92, -⟩ := Q92
  obtain ⟨rfl, q92⟩ := Q92
  have q92 := q92.symm
  subst q92
  have A92 := AA92 [] all0
  refine Run.st (T92.setTop (mkF m 8 #[vI p1, vI p2] [.int p1])) st92 ?_
  refine Run.st (T92.setTop (mkF m 9 #[vI p1, vI p2] [])) (fun _ k => XS.pop A92.here hx rfl (hb hby d14_8) rfl rfl k) ?_
  exact A92.leaveN hlk none (fun _ => rfl) (by decide) (by decide) ⟨rfl, rfl⟩ (fun X hr => X.returnOut hx hrt (hb hby d14_9) hr)
theorem ef_chL (m : MethodId) (y0 : Addr) (y1 : Int32) : entryFrame m #[(.ref y0), (.int y1)] 2 = mkF m 0 #[vA y0, vI y1] [] := by first | (simp [entryFrame, mkF, argsToLocals, vI, vA, Value.category, maxLocals]; done) | rfl
def Q_chL (Z : State) (b1 : Addr) (k1 : ClassId) (cs : List Int32) (j : Nat) (h0 : Heap) (v : Option Value) (h : Heap) : Prop := v = some (.int (cs.getD j 0)) ∧ h = h0
def rm_chL : Room := { frames := 2, cells := 0, slots := 0, locals := 27 }
set_option maxRecDepth 65536 in
set_option maxHeartbeats 40000000 in
theorem ct_chL {l : Launch} {Z : State} {a0 : Array Value} (H : Ev Z a0) (b1 : Addr) (k1 : ClassId) (cs : List Int32) (j : Nat) {h0 : Heap} {n0 : Nat} (O0 : Old Z n0 h0) (Va1 : Arv Z h0 b1 k1 .byte (Int32.ofNat cs.length) (lat cs) (.int 0)) (hj : j < cs.length) (hl : cs.length ≤ 4) (hr : ∀ c ∈ cs, ¬ c < 0 ∧ ¬ (255 : Int32) < c) : CtrN l Z (⟨"java/lang/StringLatin1", "charAt", "([BI)C"⟩ : MethodName) jdk_43_method_2_code 2 (some .char) [] rm_chL #[(.ref b1), (.int (Int32.ofNat j))] h0 [] n0 (Q_chL Z b1 k1 cs j h0) := by
  refine enterN (a0 := a0) (plainFor_of_name pn_2) O0 all0 ?_
  intro p e s m below meth c T0 hx hby hml hrt hnm hlk A0
  replace A0 : Wk false Z a0 [] n0 h0 [] "java/lang/StringLatin1" p l e rm_chL s m #[(.ref b1), (.int (Int32.ofNat j))] below meth c [] T0 h0 0 0 := A0
  refine Run.st (T0.setTop (mkF m 0 #[vA b1, vI (Int32.ofNat j)] [])) (fun _ k => castTop (ef_chL m b1 (Int32.ofNat j)) k) ?_
  obtain ⟨zc, Sc, hzc⟩ := H.2.1
  obtain ⟨fm, Sfm, rfm⟩ := H.2.2.1
  refine Run.st (T0.setTop (mkF m 2 #[vA b1, vI (Int32.ofNat j)] [(.ref b1), .int (Int32.ofNat j)])) (fun _ k => XS.iloadN A0.here hx rfl (hb hby d15_0) rfl (XS.aloadN A0.here hx rfl (hb hby d15_1) rfl rfl k)) ?_
  refine Run.st (T0.setTop (mkF m 3 #[vA b1, vI (Int32.ofNat j)] [.int (Int32.ofNat cs.length), .int (Int32.ofNat j)])) (A0.alen hx Va1 (g := (mkF m 2 #[vA b1, vI (Int32.ofNat j)] [(.ref b1), .int (Int32.ofNat j)])) rfl rfl (hb hby d15_2)) ?_
  obtain ⟨v93, T93, h93, AA93, K93, ⟨L93, Q93⟩, st93⟩ := A0.callS hx (tw75 H.1) (tw76 H.1) (tw8 H.1) (tw77 H.1) (by decide) (g := (mkF m 3 #[vA b1, vI (Int32.ofNat j)] [.int (Int32.ofNat cs.length), .int (Int32.ofNat j)])) rfl (by rw [hml]; rfl) [(.int (Int32.ofNat j)), (.int (Int32.ofNat cs.length))] [] (lenOf pd_7 rfl) rfl (Wd := 0) (Nat.le_refl _) (hb hby d15_3) (by decide) (by decide) [] (fun _ _ _ q => q.2) all0 (fun vm0 hZ => payN (ct_ckS H (Int32.ofNat j) (Int32.ofNat cs.length) A0.old (n_pos (by omega)) ((n_lt (by omega) (by omega)).mpr (by omega))) (tw77 H.1) (tw8 H.1) (by decide) (by decide) hZ)
  obtain ⟨Q93, N93, -⟩ := Q93
  obtain ⟨rfl, q93⟩ := Q93
  have q93 := q93.symm
  subst q93
  have A93 := AA93 [] all0
  refine Run.st (T93.setTop (mkF m 6 #[vA b1, vI (Int32.ofNat j)] [])) st93 ?_
  refine Run.st (T93.setTop (mkF m 8 #[vA b1, vI (Int32.ofNat j)] [.int (Int32.ofNat j), (.ref b1)])) (fun _ k => XS.aloadN A93.here hx rfl (hb hby d15_6) rfl rfl (XS.iloadN A93.here hx rfl (hb hby d15_7) rfl k)) ?_
  refine Run.st (T93.setTop (mkF m 9 #[vA b1, vI (Int32.ofNat j)] [.int (nar .byte ((cs.getD j 0).toInt8.toInt32))])) (A93.ldB hx Va1 (j := (Int32.ofNat j)) j (n_clamp (by omega)) ⟨(n_pos (by omega)), ((n_lt (by omega) (by omega)).mpr (by omega))⟩ (v := (.int (nar .byte ((cs.getD j 0).toInt8.toInt32)))) (lat_at cs j _ hj) (g := (mkF m 8 #[vA b1, vI (Int32.ofNat j)] [.int (Int32.ofNat j), (.ref b1)])) rfl rfl (hb hby d15_8)) ?_
  refine Run.st (T93.setTop (mkF m 14 #[vA b1, vI (Int32.ofNat j)] [.int (((nar .byte ((cs.getD j 0).toInt8.toInt32)) &&& (255 : Int32)).toUInt32.toUInt16.toUInt32.toInt32)])) (fun _ k => XS.sipush A93.here hx rfl (hb hby d15_9) (XS.iand A93.here hx rfl (hb hby d15_12) rfl (XS.i2c A93.here hx rfl (hb hby d15_13) rfl k))) ?_
  exact A93.leaveN hlk (some (.int (nar .char (((nar .byte ((cs.getD j 0).toInt8.toInt32)) &&& (255 : Int32)).toUInt32.toUInt16.toUInt32.toInt32)))) (fun q => by rw [hrt] at q; cases q) (by decide) (by decide) ⟨congrArg (fun z => some (Value.int z)) (mix8 (hr _ (mem_at hj))), rfl⟩ (fun X hr => retN X hx (t := .char) hrt (by simp) (hb hby d15_14) hr)
theorem ef_lenW (m : MethodId) (y0 : Addr) : entryFrame m #[(.ref y0)] 1 = mkF m 0 #[vA y0] [] := by first | (simp [entryFrame, mkF, argsToLocals, vI, vA, Value.category, maxLocals]; done) | rfl
def Q_lenW (Z : State) (b1 : Addr) (k1 : ClassId) (cs : List Int32) (h0 : Heap) (v : Option Value) (h : Heap) : Prop := v = some (.int (Int32.ofNat cs.length)) ∧ h = h0
def rm_lenW : Room := { frames := 0, cells := 0, slots := 0, locals := 0 }
set_option maxRecDepth 65536 in
set_option maxHeartbeats 40000000 in
theorem ct_lenW {l : Launch} {Z : State} {a0 : Array Value} (H : Ev Z a0) (b1 : Addr) (k1 : ClassId) (cs : List Int32) {h0 : Heap} {n0 : Nat} (O0 : Old Z n0 h0) (Va1 : Arv Z h0 b1 k1 .byte (Int32.ofNat (2 * cs.length)) (wid cs) (.int 0)) (hl : cs.length ≤ 4) : CtrN l Z (⟨"java/lang/StringUTF16", "length", "([B)I"⟩ : MethodName) jdk_52_method_6_code 1 (some .int) [] rm_lenW #[(.ref b1)] h0 [] n0 (Q_lenW Z b1 k1 cs h0) := by
  refine enterN (a0 := a0) (plainFor_of_name pn_4) O0 all0 ?_
  intro p e s m below meth c T0 hx hby hml hrt hnm hlk A0
  replace A0 : Wk false Z a0 [] n0 h0 [] "java/lang/StringUTF16" p l e rm_lenW s m #[(.ref b1)] below meth c [] T0 h0 0 0 := A0
  refine Run.st (T0.setTop (mkF m 0 #[vA b1] [])) (fun _ k => castTop (ef_lenW m b1) k) ?_
  refine Run.st (T0.setTop (mkF m 1 #[vA b1] [(.ref b1)])) (fun _ k => XS.aloadN A0.here hx rfl (hb hby d16_0) rfl rfl k) ?_
  refine Run.st (T0.setTop (mkF m 2 #[vA b1] [.int (Int32.ofNat (2 * cs.length))])) (A0.alen hx Va1 (g := (mkF m 1 #[vA b1] [(.ref b1)])) rfl rfl (hb hby d16_1)) ?_
  refine Run.st (T0.setTop (mkF m 4 #[vA b1] [.int ((Int32.ofNat (2 * cs.length)) >>> ((1 : Int32) &&& 31))])) (fun _ k => XS.iconst A0.here hx rfl (hb hby d16_2) (XS.ishr A0.here hx rfl (hb hby d16_3) rfl k)) ?_
  exact A0.leaveN hlk (some (.int ((Int32.ofNat (2 * cs.length)) >>> ((1 : Int32) &&& 31)))) (fun q => by rw [hrt] at q; cases q) (by decide) (by decide) ⟨congrArg (fun z => some (Value.int z)) (half4 hl), rfl⟩ (fun X hr => retOut X hx (w := (.int ((Int32.ofNat (2 * cs.length)) >>> ((1 : Int32) &&& 31)))) (t := .int) hrt rfl (Or.inl ⟨rfl, Or.inl rfl, _, rfl⟩) (hb hby d16_4) hr)
theorem ef_ckW (m : MethodId) (y0 : Int32) (y1 : Addr) : entryFrame m #[(.int y0), (.ref y1)] 2 = mkF m 0 #[vI y0, vA y1] [] := by first | (simp [entryFrame, mkF, argsToLocals, vI, vA, Value.category, maxLocals]; done) | rfl
def Q_ckW (Z : State) (b1 : Addr) (k1 : ClassId) (cs : List Int32) (j : Nat) (h0 : Heap) (v : Option Value) (h : Heap) : Prop := v = none ∧ h = h0
def rm_ckW : Room := { frames := 2, cells := 0, slots := 0, locals := 27 }
set_option maxRecDepth 65536 in
set_option maxHeartbeats 40000000 in
theorem ct_ckW {l : Launch} {Z : State} {a0 : Array Value} (H : Ev Z a0) (b1 : Addr) (k1 : ClassId) (cs : List Int32) (j : Nat) {h0 : Heap} {n0 : Nat} (O0 : Old Z n0 h0) (Va1 : Arv Z h0 b1 k1 .byte (Int32.ofNat (2 * cs.length)) (wid cs) (.int 0)) (hj : j < cs.length) (hl : cs.length ≤ 4) : CtrN l Z (⟨"java/lang/StringUTF16", "checkIndex", "(I[B)V"⟩ : MethodName) jdk_52_method_91_code 2 none [] rm_ckW #[(.int (Int32.ofNat j)), (.ref b1)] h0 [] n0 (Q_ckW Z b1 k1 cs j h0) := by
  refine enterN (a0 := a0) (plainFor_of_name pn_4) O0 all0 ?_
  intro p e s m below meth c T0 hx hby hml hrt hnm hlk A0
  replace A0 : Wk false Z a0 [] n0 h0 [] "java/lang/StringUTF16" p l e rm_ckW s m #[(.int (Int32.ofNat j)), (.ref b1)] below meth c [] T0 h0 0 0 := A0
  refine Run.st (T0.setTop (mkF m 0 #[vI (Int32.ofNat j), vA b1] [])) (fun _ k => castTop (ef_ckW m (Int32.ofNat j) b1) k) ?_
  refine Run.st (T0.setTop (mkF m 2 #[vI (Int32.ofNat j), vA b1] [(.ref b1), .int (Int32.ofNat j)])) (fun _ k => XS.iloadN A0.here hx rfl (hb hby d17_0) rfl (XS.aloadN A0.here hx rfl (hb hby d17_1) rfl rfl k)) ?_
  obtain ⟨v94, T94, h94, AA94, K94, ⟨L94, Q94⟩, st94⟩ := A0.callS hx (tw137 H.1) (tw138 H.1) (tw40 H.1) (tw139 H.1) (by decide) (g := (mkF m 2 #[vI (Int32.ofNat j), vA b1] [(.ref b1), .int (Int32.ofNat j)])) rfl (by rw [hml]; rfl) [(.ref b1)] [(.int (Int32.ofNat j))] (lenOf pd_8 rfl) rfl (Wd := 1) (Nat.le_refl _) (hb hby d17_2) (by decide) (by decide) [] (fun _ _ _ q => q.2) all0 (fun vm0 hZ => payN (ct_lenW H b1 k1 cs A0.old Va1 hl) (tw139 H.1) (tw40 H.1) (by decide) (by decide) hZ)
  obtain ⟨Q94, N94, -⟩ := Q94
  obtain ⟨rfl, q94⟩ := Q94
  have q94 := q94.symm
  subst q94
  have A94 := AA94 [] all0
  refine Run.st (T94.setTop (mkF m 5 #[vI (Int32.ofNat j), vA b1] [.int (Int32.ofNat cs.length), .int (Int32.ofNat j)])) st94 ?_
  obtain ⟨v95, T95, h95, AA95, K95, ⟨L95, Q95⟩, st95⟩ := A94.callS hx (tw140 H.1) (tw76 H.1) (tw8 H.1) (tw77 H.1) (by decide) (g := (mkF m 5 #[vI (Int32.ofNat j), vA b1] [.int (Int32.ofNat cs.length), .int (Int32.ofNat j)])) rfl (by rw [hml]; rfl) [(.int (Int32.ofNat j)), (.int (Int32.ofNat cs.length))] [] (lenOf pd_7 rfl) rfl (Wd := 0) (Nat.le_refl _) (hb hby d17_5) (by decide) (by decide) [] (fun _ _ _ q => q.2) all0 (fun vm0 hZ => payN (ct_ckS H (Int32.ofNat j) (Int32.ofNat cs.length) A94.old (n_pos (by omega)) ((n_lt (by omega) (by omega)).mpr (by omega))) (tw77 H.1) (tw8 H.1) (by decide) (by decide) hZ)
  obtain ⟨Q95, N95, -⟩ := Q95
  obtain ⟨rfl, q95⟩ := Q95
  have q95 := q95.symm
  subst q95
  have A95 := AA95 [] all0
  refine Run.st (T95.setTop (mkF m 8 #[vI (Int32.ofNat j), vA b1] [])) st95 ?_
  exact A95.leaveN hlk none (fun _ => rfl) (by decide) (by decide) ⟨rfl, rfl⟩ (fun X hr => X.returnOut hx hrt (hb hby d17_8) hr)
theorem ef_getc (m : MethodId) (y0 : Addr) (y1 : Int32) : entryFrame m #[(.ref y0), (.int y1)] 2 = mkF m 0 #[vA y0, vI y1] [] := by first | (simp [entryFrame, mkF, argsToLocals, vI, vA, Value.category, maxLocals]; done) | rfl
def Q_getc (Z : State) (b1 : Addr) (k1 : ClassId) (cs : List Int32) (j : Nat) (h0 : Heap) (v : Option Value) (h : Heap) : Prop := v = some (.int (cs.getD j 0)) ∧ h = h0
def rm_getc : Room := { frames := 0, cells := 0, slots := 0, locals := 0 }
set_option maxRecDepth 65536 in
set_option maxHeartbeats 40000000 in
theorem ct_getc {l : Launch} {Z : State} {a0 : Array Value} (H : Ev Z a0) (b1 : Addr) (k1 : ClassId) (cs : List Int32) (j : Nat) {h0 : Heap} {n0 : Nat} (O0 : Old Z n0 h0) (Va1 : Arv Z h0 b1 k1 .byte (Int32.ofNat (2 * cs.length)) (wid cs) (.int 0)) (hj : j < cs.length) (hl : cs.length ≤ 4) (hr : ∀ c ∈ cs, R16 c) : CtrN l Z (⟨"java/lang/StringUTF16", "getChar", "([BI)C"⟩ : MethodName) jdk_52_method_5_code 2 (some .char) [] rm_getc #[(.ref b1), (.int (Int32.ofNat j))] h0 [] n0 (Q_getc Z b1 k1 cs j h0) := by
  refine enterN (a0 := a0) (plainFor_of_name pn_4) O0 all0 ?_
  intro p e s m below meth c T0 hx hby hml hrt hnm hlk A0
  replace A0 : Wk false Z a0 [] n0 h0 [] "java/lang/StringUTF16" p l e rm_getc s m #[(.ref b1), (.int (Int32.ofNat j))] below meth c [] T0 h0 0 0 := A0
  refine Run.st (T0.setTop (mkF m 0 #[vA b1, vI (Int32.ofNat j)] [])) (fun _ k => castTop (ef_getc m b1 (Int32.ofNat j)) k) ?_
  obtain ⟨zc, Sc, hzc⟩ := H.2.1
  obtain ⟨fm, Sfm, rfm⟩ := H.2.2.1
  obtain ⟨T96, A96, st96⟩ := A0.getS hx (tw125 H.1) Via.refl (H.2.2.2.1.ext A0.old.2) (g := (mkF m 0 #[vA b1, vI (Int32.ofNat j)] [])) rfl (hb hby d18_0)
  refine Run.st (T96.setTop (mkF m 3 #[vA b1, vI (Int32.ofNat j)] [.int 1])) st96 ?_
  refine Run.st (T96.setTop (mkF m 30 #[vA b1, vI (Int32.ofNat j)] [.int 1, .int (Int32.ofNat j)])) (fun _ k => XS.ifYes A96.here hx rfl (pc0 := 3) (pc' := 28) rfl (hb hby d18_3) rfl (by decide) (by decide) (by decide) (XS.iloadN A96.here hx rfl (hb hby d18_28) rfl (XS.iconst A96.here hx rfl (hb hby d18_29) k))) ?_
  refine Run.st (T96.setTop (mkF m 31 #[vA b1, vI (Int32.ofNat j)] [.int ((Int32.ofNat j) <<< ((1 : Int32) &&& 31))])) (fun _ k => XS.ishl A96.here hx rfl (hb hby d18_30) rfl k) ?_
  rw [show ((Int32.ofNat j) <<< ((1 : Int32) &&& 31)) = (Int32.ofNat (2 * j)) from shl1 (by omega)]
  refine Run.st (T96.setTop (mkF m 37 #[vA b1, vI (Int32.ofNat ((2 * j) + 1))] [.int (Int32.ofNat (2 * j)), (.ref b1)])) (fun _ k => XS.istoreN A96.here hx rfl (hb hby d18_31) rfl (l' := #[vA b1, vI (Int32.ofNat (2 * j))]) rfl (XS.aloadN A96.here hx rfl (hb hby d18_32) rfl rfl (XS.iloadN A96.here hx rfl (hb hby d18_33) rfl (XS.iinc A96.here hx rfl (hb hby d18_34) rfl (l' := #[vA b1, vI (Int32.ofNat ((2 * j) + 1))]) (by rw [show Int32.ofInt 1 = Int32.ofNat 1 from rfl, n_add]; rfl) k)))) ?_
  refine Run.st (T96.setTop (mkF m 38 #[vA b1, vI (Int32.ofNat ((2 * j) + 1))] [.int (nar .byte ((cs.getD j 0).toInt8.toInt32))])) (A96.ldB hx Va1 (j := (Int32.ofNat (2 * j))) (2 * j) (n_clamp (by omega)) ⟨(n_pos (by omega)), ((n_lt (by omega) (by omega)).mpr (by omega))⟩ (v := (.int (nar .byte ((cs.getD j 0).toInt8.toInt32)))) (wid_lo cs j _ hj) (g := (mkF m 37 #[vA b1, vI (Int32.ofNat ((2 * j) + 1))] [.int (Int32.ofNat (2 * j)), (.ref b1)])) rfl rfl (hb hby d18_37)) ?_
  refine Run.st (T96.setTop (mkF m 42 #[vA b1, vI (Int32.ofNat ((2 * j) + 1))] [.int ((nar .byte ((cs.getD j 0).toInt8.toInt32)) &&& (255 : Int32))])) (fun _ k => XS.sipush A96.here hx rfl (hb hby d18_38) (XS.iand A96.here hx rfl (hb hby d18_41) rfl k)) ?_
  obtain ⟨T97, A97, st97⟩ := A96.getS hx (tw126 H.1) Via.refl (H.2.2.2.2.1.ext A96.old.2) (g := (mkF m 42 #[vA b1, vI (Int32.ofNat ((2 * j) + 1))] [.int ((nar .byte ((cs.getD j 0).toInt8.toInt32)) &&& (255 : Int32))])) rfl (hb hby d18_42)
  refine Run.st (T97.setTop (mkF m 45 #[vA b1, vI (Int32.ofNat ((2 * j) + 1))] [.int 0, .int ((nar .byte ((cs.getD j 0).toInt8.toInt32)) &&& (255 : Int32))])) st97 ?_
  refine Run.st (T97.setTop (mkF m 46 #[vA b1, vI (Int32.ofNat ((2 * j) + 1))] [.int (((nar .byte ((cs.getD j 0).toInt8.toInt32)) &&& (255 : Int32)) <<< ((0 : Int32) &&& 31))])) (fun _ k => XS.ishl A97.here hx rfl (hb hby d18_45) rfl k) ?_
  rw [show (((nar .byte ((cs.getD j 0).toInt8.toInt32)) &&& (255 : Int32)) <<< ((0 : Int32) &&& 31)) = ((nar .byte ((cs.getD j 0).toInt8.toInt32)) &&& (255 : Int32)) from shl0 ((nar .byte ((cs.getD j 0).toInt8.toInt32)) &&& (255 : Int32))]
  refine Run.st (T97.setTop (mkF m 48 #[vA b1, vI (Int32.ofNat ((2 * j) + 1))] [.int (Int32.ofNat ((2 * j) + 1)), (.ref b1), .int ((nar .byte ((cs.getD j 0).toInt8.toInt32)) &&& (255 : Int32))])) (fun _ k => XS.aloadN A97.here hx rfl (hb hby d18_46) rfl rfl (XS.iloadN A97.here hx rfl (hb hby d18_47) rfl k)) ?_
  refine Run.st (T97.setTop (mkF m 49 #[vA b1, vI (Int32.ofNat ((2 * j) + 1))] [.int (nar .byte (((cs.getD j 0) >>> ((8 : Int32) &&& 31)).toInt8.toInt32)), .int ((nar .byte ((cs.getD j 0).toInt8.toInt32)) &&& (255 : Int32))])) (A97.ldB hx Va1 (j := (Int32.ofNat ((2 * j) + 1))) ((2 * j) + 1) (n_clamp (by omega)) ⟨(n_pos (by omega)), ((n_lt (by omega) (by omega)).mpr (by omega))⟩ (v := (.int (nar .byte (((cs.getD j 0) >>> ((8 : Int32) &&& 31)).toInt8.toInt32)))) (wid_hi cs j _ hj) (g := (mkF m 48 #[vA b1, vI (Int32.ofNat ((2 * j) + 1))] [.int (Int32.ofNat ((2 * j) + 1)), (.ref b1), .int ((nar .byte ((cs.getD j 0).toInt8.toInt32)) &&& (255 : Int32))])) rfl rfl (hb hby d18_48)) ?_
  refine Run.st (T97.setTop (mkF m 53 #[vA b1, vI (Int32.ofNat ((2 * j) + 1))] [.int ((nar .byte (((cs.getD j 0) >>> ((8 : Int32) &&& 31)).toInt8.toInt32)) &&& (255 : Int32)), .int ((nar .byte ((cs.getD j 0).toInt8.toInt32)) &&& (255 : Int32))])) (fun _ k => XS.sipush A97.here hx rfl (hb hby d18_49) (XS.iand A97.here hx rfl (hb hby d18_52) rfl k)) ?_
  obtain ⟨T98, A98, st98⟩ := A97.getS hx (tw127 H.1) Via.refl (H.2.2.2.2.2.ext A97.old.2) (g := (mkF m 53 #[vA b1, vI (Int32.ofNat ((2 * j) + 1))] [.int ((nar .byte (((cs.getD j 0) >>> ((8 : Int32) &&& 31)).toInt8.toInt32)) &&& (255 : Int32)), .int ((nar .byte ((cs.getD j 0).toInt8.toInt32)) &&& (255 : Int32))])) rfl (hb hby d18_53)
  refine Run.st (T98.setTop (mkF m 56 #[vA b1, vI (Int32.ofNat ((2 * j) + 1))] [.int 8, .int ((nar .byte (((cs.getD j 0) >>> ((8 : Int32) &&& 31)).toInt8.toInt32)) &&& (255 : Int32)), .int ((nar .byte ((cs.getD j 0).toInt8.toInt32)) &&& (255 : Int32))])) st98 ?_
  refine Run.st (T98.setTop (mkF m 59 #[vA b1, vI (Int32.ofNat ((2 * j) + 1))] [.int ((((nar .byte ((cs.getD j 0).toInt8.toInt32)) &&& (255 : Int32)) ||| (((nar .byte (((cs.getD j 0) >>> ((8 : Int32) &&& 31)).toInt8.toInt32)) &&& (255 : Int32)) <<< ((8 : Int32) &&& 31))).toUInt32.toUInt16.toUInt32.toInt32)])) (fun _ k => XS.ishl A98.here hx rfl (hb hby d18_56) rfl (XS.ior A98.here hx rfl (hb hby d18_57) rfl (XS.i2c A98.here hx rfl (hb hby d18_58) rfl k))) ?_
  exact A98.leaveN hlk (some (.int (nar .char ((((nar .byte ((cs.getD j 0).toInt8.toInt32)) &&& (255 : Int32)) ||| (((nar .byte (((cs.getD j 0) >>> ((8 : Int32) &&& 31)).toInt8.toInt32)) &&& (255 : Int32)) <<< ((8 : Int32) &&& 31))).toUInt32.toUInt16.toUInt32.toInt32)))) (fun q => by rw [hrt] at q; cases q) (by decide) (by decide) ⟨congrArg (fun z => some (Value.int z)) (mix16 (hr _ (mem_at hj))), rfl⟩ (fun X hr => retN X hx (t := .char) hrt (by simp) (hb hby d18_59) hr)
theorem ef_chW (m : MethodId) (y0 : Addr) (y1 : Int32) : entryFrame m #[(.ref y0), (.int y1)] 2 = mkF m 0 #[vA y0, vI y1] [] := by first | (simp [entryFrame, mkF, argsToLocals, vI, vA, Value.category, maxLocals]; done) | rfl
def Q_chW (Z : State) (b1 : Addr) (k1 : ClassId) (cs : List Int32) (j : Nat) (h0 : Heap) (v : Option Value) (h : Heap) : Prop := v = some (.int (cs.getD j 0)) ∧ h = h0
def rm_chW : Room := { frames := 3, cells := 0, slots := 0, locals := 40 }
set_option maxRecDepth 65536 in
set_option maxHeartbeats 40000000 in
theorem ct_chW {l : Launch} {Z : State} {a0 : Array Value} (H : Ev Z a0) (b1 : Addr) (k1 : ClassId) (cs : List Int32) (j : Nat) {h0 : Heap} {n0 : Nat} (O0 : Old Z n0 h0) (Va1 : Arv Z h0 b1 k1 .byte (Int32.ofNat (2 * cs.length)) (wid cs) (.int 0)) (hj : j < cs.length) (hl : cs.length ≤ 4) (hr : ∀ c ∈ cs, R16 c) : CtrN l Z (⟨"java/lang/StringUTF16", "charAt", "([BI)C"⟩ : MethodName) jdk_52_method_83_code 2 (some .char) [] rm_chW #[(.ref b1), (.int (Int32.ofNat j))] h0 [] n0 (Q_chW Z b1 k1 cs j h0) := by
  refine enterN (a0 := a0) (plainFor_of_name pn_4) O0 all0 ?_
  intro p e s m below meth c T0 hx hby hml hrt hnm hlk A0
  replace A0 : Wk false Z a0 [] n0 h0 [] "java/lang/StringUTF16" p l e rm_chW s m #[(.ref b1), (.int (Int32.ofNat j))] below meth c [] T0 h0 0 0 := A0
  refine Run.st (T0.setTop (mkF m 0 #[vA b1, vI (Int32.ofNat j)] [])) (fun _ k => castTop (ef_chW m b1 (Int32.ofNat j)) k) ?_
  refine Run.st (T0.setTop (mkF m 2 #[vA b1, vI (Int32.ofNat j)] [(.ref b1), .int (Int32.ofNat j)])) (fun _ k => XS.iloadN A0.here hx rfl (hb hby d19_0) rfl (XS.aloadN A0.here hx rfl (hb hby d19_1) rfl rfl k)) ?_
  obtain ⟨v99, T99, h99, AA99, K99, ⟨L99, Q99⟩, st99⟩ := A0.callS hx (tw134 H.1) (tw135 H.1) (tw40 H.1) (tw136 H.1) (by decide) (g := (mkF m 2 #[vA b1, vI (Int32.ofNat j)] [(.ref b1), .int (Int32.ofNat j)])) rfl (by rw [hml]; rfl) [(.int (Int32.ofNat j)), (.ref b1)] [] (lenOf pd_9 rfl) rfl (Wd := 0) (Nat.le_refl _) (hb hby d19_2) (by decide) (by decide) [] (fun _ _ _ q => q.2) all0 (fun vm0 hZ => payN (ct_ckW H b1 k1 cs j A0.old Va1 hj hl) (tw136 H.1) (tw40 H.1) (by decide) (by decide) hZ)
  obtain ⟨Q99, N99, -⟩ := Q99
  obtain ⟨rfl, q99⟩ := Q99
  have q99 := q99.symm
  subst q99
  have A99 := AA99 [] all0
  refine Run.st (T99.setTop (mkF m 5 #[vA b1, vI (Int32.ofNat j)] [])) st99 ?_
  refine Run.st (T99.setTop (mkF m 7 #[vA b1, vI (Int32.ofNat j)] [.int (Int32.ofNat j), (.ref b1)])) (fun _ k => XS.aloadN A99.here hx rfl (hb hby d19_5) rfl rfl (XS.iloadN A99.here hx rfl (hb hby d19_6) rfl k)) ?_
  obtain ⟨v100, T100, h100, AA100, K100, ⟨L100, Q100⟩, st100⟩ := A99.callS hx (tw128 H.1) (tw129 H.1) (tw40 H.1) (tw130 H.1) (by decide) (g := (mkF m 7 #[vA b1, vI (Int32.ofNat j)] [.int (Int32.ofNat j), (.ref b1)])) rfl (by rw [hml]; rfl) [(.ref b1), (.int (Int32.ofNat j))] [] (lenOf pd_10 rfl) rfl (Wd := 0) (Nat.le_refl _) (hb hby d19_7) (by decide) (by decide) [] (fun _ _ _ q => q.2) all0 (fun vm0 hZ => payN (ct_getc H b1 _ cs j A99.old Va1 hj hl hr) (tw130 H.1) (tw40 H.1) (by decide) (by decide) hZ)
  obtain ⟨Q100, N100, -⟩ := Q100
  obtain ⟨rfl, q100⟩ := Q100
  have q100 := q100.symm
  subst q100
  have A100 := AA100 [] all0
  refine Run.st (T100.setTop (mkF m 10 #[vA b1, vI (Int32.ofNat j)] [.int (cs.getD j 0)])) st100 ?_
  exact A100.leaveN hlk (some (.int (nar .char (cs.getD j 0)))) (fun q => by rw [hrt] at q; cases q) (by decide) (by decide) ⟨congrArg (fun z => some (Value.int z)) (hr _ (mem_at hj)).nar, rfl⟩ (fun X hr => retN X hx (t := .char) hrt (by simp) (hb hby d19_10) hr)
theorem ef_charAt (m : MethodId) (y0 : Addr) (y1 : Int32) : entryFrame m #[(.ref y0), (.int y1)] 2 = mkF m 0 #[vA y0, vI y1] [] := by first | (simp [entryFrame, mkF, argsToLocals, vI, vA, Value.category, maxLocals]; done) | rfl
def Q_charAt (Z : State) (a1 : Addr) (cs : List Int32) (j : Nat) (h0 : Heap) (v : Option Value) (h : Heap) : Prop := v = some (.int (cs.getD j 0)) ∧ h = h0
def rm_charAt : Room := { frames := 4, cells := 0, slots := 0, locals := 53 }
set_option maxRecDepth 65536 in
set_option maxHeartbeats 40000000 in
theorem ct_charAt {l : Launch} {Z : State} {a0 : Array Value} (H : Ev Z a0) (a1 : Addr) (cs : List Int32) (j : Nat) {h0 : Heap} {n0 : Nat} (O0 : Old Z n0 h0) (S1 : StrU Z h0 a1 cs) (hj : j < cs.length) (hl : cs.length ≤ 4) (hr : ∀ c ∈ cs, R16 c) : CtrN l Z (⟨"java/lang/String", "charAt", "(I)C"⟩ : MethodName) jdk_42_method_56_code 2 (some .char) [] rm_charAt #[(.ref a1), (.int (Int32.ofNat j))] h0 [] n0 (Q_charAt Z a1 cs j h0) := by
  refine enterN (a0 := a0) (plainFor_of_name pn_1) O0 all0 ?_
  intro p e s m below meth c T0 hx hby hml hrt hnm hlk A0
  replace A0 : Wk false Z a0 [] n0 h0 [] "java/lang/String" p l e rm_charAt s m #[(.ref a1), (.int (Int32.ofNat j))] below meth c [] T0 h0 0 0 := A0
  refine Run.st (T0.setTop (mkF m 0 #[vA a1, vI (Int32.ofNat j)] [])) (fun _ k => castTop (ef_charAt m a1 (Int32.ofNat j)) k) ?_
  obtain ⟨E1, b1, k1, Fv1, S2⟩ := S1
  rcases S2 with ⟨Fc1, Va1, hr1⟩ | ⟨Fc1, Va1, hp1⟩
  · refine Run.st (T0.setTop (mkF m 1 #[vA a1, vI (Int32.ofNat j)] [(.ref a1)])) (fun _ k => XS.aloadN A0.here hx rfl (hb hby d20_0) rfl rfl k) ?_
    obtain ⟨v101, T101, h101, AA101, K101, ⟨L101, Q101⟩, st101⟩ := A0.callV hx (y := (⟨"java/lang/String", "isLatin1", "()Z"⟩ : MethodName)) (z := (⟨"java/lang/String", "isLatin1", "()Z"⟩ : MethodName)) (tw66 H.1) (tw67 H.1) (tw69 H.1) (tw68 H.1) (nfSel (tw69 H.1)) (by decide) E1 (g := (mkF m 1 #[vA a1, vI (Int32.ofNat j)] [(.ref a1)])) rfl (by rw [hml]; rfl) [] [] (lenOf pd_4 rfl) rfl (Wd := 0) (Nat.le_refl _) (hb hby d20_1) (by decide) (by decide) [] (fun _ _ _ q => q.2) all0 (fun vm0 hZ => payN (ct_isLatin10 H a1 A0.old Fc1) (tw70 H.1) (tw8 H.1) (by decide) (by decide) hZ)
    obtain ⟨Q101, N101, -⟩ := Q101
    obtain ⟨rfl, q101⟩ := Q101
    have q101 := q101.symm
    subst q101
    have A101 := AA101 [] all0
    refine Run.st (T101.setTop (mkF m 4 #[vA a1, vI (Int32.ofNat j)] [.int 1])) st101 ?_
    refine Run.st (T101.setTop (mkF m 8 #[vA a1, vI (Int32.ofNat j)] [(.ref a1)])) (fun _ k => XS.ifNo A101.here hx rfl (hb hby d20_4) rfl (by decide) (XS.aloadN A101.here hx rfl (hb hby d20_7) rfl rfl k)) ?_
    obtain ⟨T102, A102, st102⟩ := A101.getF hx (tw26 H.1) Via.refl Fv1 (g := (mkF m 8 #[vA a1, vI (Int32.ofNat j)] [(.ref a1)])) rfl rfl (hb hby d20_8)
    refine Run.st (T102.setTop (mkF m 11 #[vA a1, vI (Int32.ofNat j)] [(.ref b1)])) st102 ?_
    refine Run.st (T102.setTop (mkF m 12 #[vA a1, vI (Int32.ofNat j)] [.int (Int32.ofNat j), (.ref b1)])) (fun _ k => XS.iloadN A102.here hx rfl (hb hby d20_11) rfl k) ?_
    obtain ⟨v103, T103, h103, AA103, K103, ⟨L103, Q103⟩, st103⟩ := A102.callS hx (tw71 H.1) (tw72 H.1) (tw73 H.1) (tw74 H.1) (by decide) (g := (mkF m 12 #[vA a1, vI (Int32.ofNat j)] [.int (Int32.ofNat j), (.ref b1)])) rfl (by rw [hml]; rfl) [(.ref b1), (.int (Int32.ofNat j))] [] (lenOf pd_10 rfl) rfl (Wd := 0) (Nat.le_refl _) (hb hby d20_12) (by decide) (by decide) [] (fun _ _ _ q => q.2) all0 (fun vm0 hZ => payN (ct_chL H b1 k1 cs j A102.old Va1 hj hl hr1) (tw74 H.1) (tw73 H.1) (by decide) (by decide) hZ)
    obtain ⟨Q103, N103, -⟩ := Q103
    obtain ⟨rfl, q103⟩ := Q103
    have q103 := q103.symm
    subst q103
    have A103 := AA103 [] all0
    refine Run.st (T103.setTop (mkF m 15 #[vA a1, vI (Int32.ofNat j)] [.int (cs.getD j 0)])) st103 ?_
    exact A103.leaveN hlk (some (.int (nar .char (cs.getD j 0)))) (fun q => by rw [hrt] at q; cases q) (by decide) (by decide) ⟨congrArg (fun z => some (Value.int z)) (hr _ (mem_at hj)).nar, rfl⟩ (fun X hr => retN X hx (t := .char) hrt (by simp) (hb hby d20_15) hr)
  · refine Run.st (T0.setTop (mkF m 1 #[vA a1, vI (Int32.ofNat j)] [(.ref a1)])) (fun _ k => XS.aloadN A0.here hx rfl (hb hby d20_0) rfl rfl k) ?_
    obtain ⟨v104, T104, h104, AA104, K104, ⟨L104, Q104⟩, st104⟩ := A0.callV hx (y := (⟨"java/lang/String", "isLatin1", "()Z"⟩ : MethodName)) (z := (⟨"java/lang/String", "isLatin1", "()Z"⟩ : MethodName)) (tw66 H.1) (tw67 H.1) (tw69 H.1) (tw68 H.1) (nfSel (tw69 H.1)) (by decide) E1 (g := (mkF m 1 #[vA a1, vI (Int32.ofNat j)] [(.ref a1)])) rfl (by rw [hml]; rfl) [] [] (lenOf pd_4 rfl) rfl (Wd := 0) (Nat.le_refl _) (hb hby d20_1) (by decide) (by decide) [] (fun _ _ _ q => q.2) all0 (fun vm0 hZ => payN (ct_isLatin11 H a1 A0.old Fc1) (tw70 H.1) (tw8 H.1) (by decide) (by decide) hZ)
    obtain ⟨Q104, N104, -⟩ := Q104
    obtain ⟨rfl, q104⟩ := Q104
    have q104 := q104.symm
    subst q104
    have A104 := AA104 [] all0
    refine Run.st (T104.setTop (mkF m 4 #[vA a1, vI (Int32.ofNat j)] [.int 0])) st104 ?_
    refine Run.st (T104.setTop (mkF m 17 #[vA a1, vI (Int32.ofNat j)] [(.ref a1)])) (fun _ k => XS.ifYes A104.here hx rfl (pc0 := 4) (pc' := 16) rfl (hb hby d20_4) rfl (by decide) (by decide) (by decide) (XS.aloadN A104.here hx rfl (hb hby d20_16) rfl rfl k)) ?_
    obtain ⟨T105, A105, st105⟩ := A104.getF hx (tw26 H.1) Via.refl Fv1 (g := (mkF m 17 #[vA a1, vI (Int32.ofNat j)] [(.ref a1)])) rfl rfl (hb hby d20_17)
    refine Run.st (T105.setTop (mkF m 20 #[vA a1, vI (Int32.ofNat j)] [(.ref b1)])) st105 ?_
    refine Run.st (T105.setTop (mkF m 21 #[vA a1, vI (Int32.ofNat j)] [.int (Int32.ofNat j), (.ref b1)])) (fun _ k => XS.iloadN A105.here hx rfl (hb hby d20_20) rfl k) ?_
    obtain ⟨v106, T106, h106, AA106, K106, ⟨L106, Q106⟩, st106⟩ := A105.callS hx (tw131 H.1) (tw132 H.1) (tw40 H.1) (tw133 H.1) (by decide) (g := (mkF m 21 #[vA a1, vI (Int32.ofNat j)] [.int (Int32.ofNat j), (.ref b1)])) rfl (by rw [hml]; rfl) [(.ref b1), (.int (Int32.ofNat j))] [] (lenOf pd_10 rfl) rfl (Wd := 0) (Nat.le_refl _) (hb hby d20_21) (by decide) (by decide) [] (fun _ _ _ q => q.2) all0 (fun vm0 hZ => payN (ct_chW H b1 k1 cs j A105.old Va1 hj hl hr) (tw133 H.1) (tw40 H.1) (by decide) (by decide) hZ)
    obtain ⟨Q106, N106, -⟩ := Q106
    obtain ⟨rfl, q106⟩ := Q106
    have q106 := q106.symm
    subst q106
    have A106 := AA106 [] all0
    refine Run.st (T106.setTop (mkF m 24 #[vA a1, vI (Int32.ofNat j)] [.int (cs.getD j 0)])) st106 ?_
    exact A106.leaveN hlk (some (.int (nar .char (cs.getD j 0)))) (fun q => by rw [hrt] at q; cases q) (by decide) (by decide) ⟨congrArg (fun z => some (Value.int z)) (hr _ (mem_at hj)).nar, rfl⟩ (fun X hr => retN X hx (t := .char) hrt (by simp) (hb hby d20_24) hr)
theorem ef_nbl1 (m : MethodId) (y0 : Int32) : entryFrame m #[(.int y0)] 1 = mkF m 0 #[vI y0] [] := by first | (simp [entryFrame, mkF, argsToLocals, vI, vA, Value.category, maxLocals]; done) | rfl
def Q_nbl1 (Z : State) (h0 : Heap) (v : Option Value) (h : Heap) : Prop := v = some (.int 2) ∧ h = h0
def rm_nbl1 : Room := { frames := 0, cells := 0, slots := 0, locals := 0 }
set_option maxRecDepth 65536 in
set_option maxHeartbeats 40000000 in
theorem ct_nbl1 {l : Launch} {Z : State} {a0 : Array Value} (H : Ev Z a0) {h0 : Heap} {n0 : Nat} (O0 : Old Z n0 h0) : CtrN l Z (⟨"java/lang/StringUTF16", "newBytesLength", "(I)I"⟩ : MethodName) jdk_52_method_3_code 1 (some .int) [] rm_nbl1 #[(.int (1 : Int32))] h0 [] n0 (Q_nbl1 Z h0) := by
  refine enterN (a0 := a0) (plainFor_of_name pn_4) O0 all0 ?_
  intro p e s m below meth c T0 hx hby hml hrt hnm hlk A0
  replace A0 : Wk false Z a0 [] n0 h0 [] "java/lang/StringUTF16" p l e rm_nbl1 s m #[(.int (1 : Int32))] below meth c [] T0 h0 0 0 := A0
  refine Run.st (T0.setTop (mkF m 0 #[vI 1] [])) (fun _ k => castTop (ef_nbl1 m (1 : Int32)) k) ?_
  refine Run.st (T0.setTop (mkF m 13 #[vI 1] [.int 1])) (fun _ k => XS.iloadN A0.here hx rfl (hb hby d21_0) rfl (XS.ifYes A0.here hx rfl (pc0 := 1) (pc' := 12) rfl (hb hby d21_1) rfl (by decide) (by decide) (by decide) (XS.iloadN A0.here hx rfl (hb hby d21_12) rfl k))) ?_
  refine Run.st (T0.setTop (mkF m 15 #[vI 1] [.int 1073741823, .int 1])) (A0.ldcI hx (tw121 H.1) (g := (mkF m 13 #[vI 1] [.int 1])) rfl (hb hby d21_13)) ?_
  refine Run.st (T0.setTop (mkF m 57 #[vI 1] [.int 1, .int 1])) (fun _ k => XS.icmpYes A0.here hx rfl (pc0 := 15) (pc' := 55) rfl (hb hby d21_15) rfl (by decide) (by decide) (by decide) (XS.iloadN A0.here hx rfl (hb hby d21_55) rfl (XS.iconst A0.here hx rfl (hb hby d21_56) k))) ?_
  refine Run.st (T0.setTop (mkF m 58 #[vI 1] [.int ((1 : Int32) <<< ((1 : Int32) &&& 31))])) (fun _ k => XS.ishl A0.here hx rfl (hb hby d21_57) rfl k) ?_
  rw [show ((1 : Int32) <<< ((1 : Int32) &&& 31)) = (2 : Int32) from (by decide)]
  exact A0.leaveN hlk (some (.int (2 : Int32))) (fun q => by rw [hrt] at q; cases q) (by decide) (by decide) ⟨rfl, rfl⟩ (fun X hr => retOut X hx (w := (.int (2 : Int32))) (t := .int) hrt rfl (Or.inl ⟨rfl, Or.inl rfl, _, rfl⟩) (hb hby d21_58) hr)
theorem ef_nbf1 (m : MethodId) (y0 : Int32) : entryFrame m #[(.int y0)] 1 = mkF m 0 #[vI y0] [] := by first | (simp [entryFrame, mkF, argsToLocals, vI, vA, Value.category, maxLocals]; done) | rfl
def Q_nbf1 (Z : State) (h0 : Heap) (v : Option Value) (h : Heap) : Prop := ∃ (t : Addr) (k : ClassId), v = some (.ref t) ∧ (h0.size ≤ t ∧ t < h.size) ∧ Ext h0 h ∧ Arv Z h t k .byte (2 : Int32) [(.int (0 : Int32)), (.int (0 : Int32))] (.int 0)
def rm_nbf1 : Room := { frames := 1, cells := 1, slots := 2, locals := 12 }
set_option maxRecDepth 65536 in
set_option maxHeartbeats 40000000 in
theorem ct_nbf1 {l : Launch} {Z : State} {a0 : Array Value} (H : Ev Z a0) {h0 : Heap} {n0 : Nat} (O0 : Old Z n0 h0) : CtrN l Z (⟨"java/lang/StringUTF16", "newBytesFor", "(I)[B"⟩ : MethodName) jdk_52_method_2_code 1 (some (.array .byte)) [] rm_nbf1 #[(.int (1 : Int32))] h0 [] n0 (Q_nbf1 Z h0) := by
  refine enterN (a0 := a0) (plainFor_of_name pn_4) O0 all0 ?_
  intro p e s m below meth c T0 hx hby hml hrt hnm hlk A0
  replace A0 : Wk false Z a0 [] n0 h0 [] "java/lang/StringUTF16" p l e rm_nbf1 s m #[(.int (1 : Int32))] below meth c [] T0 h0 0 0 := A0
  refine Run.st (T0.setTop (mkF m 0 #[vI 1] [])) (fun _ k => castTop (ef_nbf1 m (1 : Int32)) k) ?_
  refine Run.st (T0.setTop (mkF m 1 #[vI 1] [.int 1])) (fun _ k => XS.iloadN A0.here hx rfl (hb hby d22_0) rfl k) ?_
  obtain ⟨v107, T107, h107, AA107, K107, ⟨L107, Q107⟩, st107⟩ := A0.callS hx (tw118 H.1) (tw119 H.1) (tw40 H.1) (tw120 H.1) (by decide) (g := (mkF m 1 #[vI 1] [.int 1])) rfl (by rw [hml]; rfl) [(.int (1 : Int32))] [] (lenOf pd_11 rfl) rfl (Wd := 0) (Nat.le_refl _) (hb hby d22_1) (by decide) (by decide) [] (fun _ _ _ q => q.2) all0 (fun vm0 hZ => payN (ct_nbl1 H A0.old) (tw120 H.1) (tw40 H.1) (by decide) (by decide) hZ)
  obtain ⟨Q107, N107, -⟩ := Q107
  obtain ⟨rfl, q107⟩ := Q107
  have q107 := q107.symm
  subst q107
  have A107 := AA107 [] all0
  refine Run.st (T107.setTop (mkF m 4 #[vI 1] [.int 2])) st107 ?_
  obtain ⟨a108, T108, h108, kA108, A108, E108, g108, V108, st108⟩ := A107.newP hx (aty := .byte) (N := (2 : Int32)) (tw21 H.1) (g := (mkF m 4 #[vI 1] [.int 2])) rfl (hb hby d22_4) rfl (by decide) (cap := 2) (by decide) (by decide) (by decide) (by decide)
  refine Run.st (T108.setTop (mkF m 6 #[vI 1] [(.ref a108)])) st108 ?_
  exact A108.leaveN hlk (some (.ref a108)) (fun q => by rw [hrt] at q; cases q) (by decide) (by decide) ⟨_, _, rfl, ⟨(Nat.le_of_eq g108), V108.lt⟩, keepE A108.keep, V108⟩ (fun X hr => retOut X hx (w := (.ref a108)) (t := (.array .byte)) hrt rfl (Or.inr (Or.inr (Or.inr (Or.inr ⟨rfl, rfl, rfl⟩)))) (hb hby d22_6) hr)
theorem ef_nbl2 (m : MethodId) (y0 : Int32) : entryFrame m #[(.int y0)] 1 = mkF m 0 #[vI y0] [] := by first | (simp [entryFrame, mkF, argsToLocals, vI, vA, Value.category, maxLocals]; done) | rfl
def Q_nbl2 (Z : State) (h0 : Heap) (v : Option Value) (h : Heap) : Prop := v = some (.int 4) ∧ h = h0
def rm_nbl2 : Room := { frames := 0, cells := 0, slots := 0, locals := 0 }
set_option maxRecDepth 65536 in
set_option maxHeartbeats 40000000 in
theorem ct_nbl2 {l : Launch} {Z : State} {a0 : Array Value} (H : Ev Z a0) {h0 : Heap} {n0 : Nat} (O0 : Old Z n0 h0) : CtrN l Z (⟨"java/lang/StringUTF16", "newBytesLength", "(I)I"⟩ : MethodName) jdk_52_method_3_code 1 (some .int) [] rm_nbl2 #[(.int (2 : Int32))] h0 [] n0 (Q_nbl2 Z h0) := by
  refine enterN (a0 := a0) (plainFor_of_name pn_4) O0 all0 ?_
  intro p e s m below meth c T0 hx hby hml hrt hnm hlk A0
  replace A0 : Wk false Z a0 [] n0 h0 [] "java/lang/StringUTF16" p l e rm_nbl2 s m #[(.int (2 : Int32))] below meth c [] T0 h0 0 0 := A0
  refine Run.st (T0.setTop (mkF m 0 #[vI 2] [])) (fun _ k => castTop (ef_nbl2 m (2 : Int32)) k) ?_
  refine Run.st (T0.setTop (mkF m 13 #[vI 2] [.int 2])) (fun _ k => XS.iloadN A0.here hx rfl (hb hby d21_0) rfl (XS.ifYes A0.here hx rfl (pc0 := 1) (pc' := 12) rfl (hb hby d21_1) rfl (by decide) (by decide) (by decide) (XS.iloadN A0.here hx rfl (hb hby d21_12) rfl k))) ?_
  refine Run.st (T0.setTop (mkF m 15 #[vI 2] [.int 1073741823, .int 2])) (A0.ldcI hx (tw121 H.1) (g := (mkF m 13 #[vI 2] [.int 2])) rfl (hb hby d21_13)) ?_
  refine Run.st (T0.setTop (mkF m 57 #[vI 2] [.int 1, .int 2])) (fun _ k => XS.icmpYes A0.here hx rfl (pc0 := 15) (pc' := 55) rfl (hb hby d21_15) rfl (by decide) (by decide) (by decide) (XS.iloadN A0.here hx rfl (hb hby d21_55) rfl (XS.iconst A0.here hx rfl (hb hby d21_56) k))) ?_
  refine Run.st (T0.setTop (mkF m 58 #[vI 2] [.int ((2 : Int32) <<< ((1 : Int32) &&& 31))])) (fun _ k => XS.ishl A0.here hx rfl (hb hby d21_57) rfl k) ?_
  rw [show ((2 : Int32) <<< ((1 : Int32) &&& 31)) = (4 : Int32) from (by decide)]
  exact A0.leaveN hlk (some (.int (4 : Int32))) (fun q => by rw [hrt] at q; cases q) (by decide) (by decide) ⟨rfl, rfl⟩ (fun X hr => retOut X hx (w := (.int (4 : Int32))) (t := .int) hrt rfl (Or.inl ⟨rfl, Or.inl rfl, _, rfl⟩) (hb hby d21_58) hr)
theorem ef_nbf2 (m : MethodId) (y0 : Int32) : entryFrame m #[(.int y0)] 1 = mkF m 0 #[vI y0] [] := by first | (simp [entryFrame, mkF, argsToLocals, vI, vA, Value.category, maxLocals]; done) | rfl
def Q_nbf2 (Z : State) (h0 : Heap) (v : Option Value) (h : Heap) : Prop := ∃ (t : Addr) (k : ClassId), v = some (.ref t) ∧ (h0.size ≤ t ∧ t < h.size) ∧ Ext h0 h ∧ Arv Z h t k .byte (4 : Int32) [(.int (0 : Int32)), (.int (0 : Int32)), (.int (0 : Int32)), (.int (0 : Int32))] (.int 0)
def rm_nbf2 : Room := { frames := 1, cells := 1, slots := 4, locals := 12 }
set_option maxRecDepth 65536 in
set_option maxHeartbeats 40000000 in
theorem ct_nbf2 {l : Launch} {Z : State} {a0 : Array Value} (H : Ev Z a0) {h0 : Heap} {n0 : Nat} (O0 : Old Z n0 h0) : CtrN l Z (⟨"java/lang/StringUTF16", "newBytesFor", "(I)[B"⟩ : MethodName) jdk_52_method_2_code 1 (some (.array .byte)) [] rm_nbf2 #[(.int (2 : Int32))] h0 [] n0 (Q_nbf2 Z h0) := by
  refine enterN (a0 := a0) (plainFor_of_name pn_4) O0 all0 ?_
  intro p e s m below meth c T0 hx hby hml hrt hnm hlk A0
  replace A0 : Wk false Z a0 [] n0 h0 [] "java/lang/StringUTF16" p l e rm_nbf2 s m #[(.int (2 : Int32))] below meth c [] T0 h0 0 0 := A0
  refine Run.st (T0.setTop (mkF m 0 #[vI 2] [])) (fun _ k => castTop (ef_nbf2 m (2 : Int32)) k) ?_
  refine Run.st (T0.setTop (mkF m 1 #[vI 2] [.int 2])) (fun _ k => XS.iloadN A0.here hx rfl (hb hby d22_0) rfl k) ?_
  obtain ⟨v109, T109, h109, AA109, K109, ⟨L109, Q109⟩, st109⟩ := A0.callS hx (tw118 H.1) (tw119 H.1) (tw40 H.1) (tw120 H.1) (by decide) (g := (mkF m 1 #[vI 2] [.int 2])) rfl (by rw [hml]; rfl) [(.int (2 : Int32))] [] (lenOf pd_11 rfl) rfl (Wd := 0) (Nat.le_refl _) (hb hby d22_1) (by decide) (by decide) [] (fun _ _ _ q => q.2) all0 (fun vm0 hZ => payN (ct_nbl2 H A0.old) (tw120 H.1) (tw40 H.1) (by decide) (by decide) hZ)
  obtain ⟨Q109, N109, -⟩ := Q109
  obtain ⟨rfl, q109⟩ := Q109
  have q109 := q109.symm
  subst q109
  have A109 := AA109 [] all0
  refine Run.st (T109.setTop (mkF m 4 #[vI 2] [.int 4])) st109 ?_
  obtain ⟨a110, T110, h110, kA110, A110, E110, g110, V110, st110⟩ := A109.newP hx (aty := .byte) (N := (4 : Int32)) (tw21 H.1) (g := (mkF m 4 #[vI 2] [.int 4])) rfl (hb hby d22_4) rfl (by decide) (cap := 4) (by decide) (by decide) (by decide) (by decide)
  refine Run.st (T110.setTop (mkF m 6 #[vI 2] [(.ref a110)])) st110 ?_
  exact A110.leaveN hlk (some (.ref a110)) (fun q => by rw [hrt] at q; cases q) (by decide) (by decide) ⟨_, _, rfl, ⟨(Nat.le_of_eq g110), V110.lt⟩, keepE A110.keep, V110⟩ (fun X hr => retOut X hx (w := (.ref a110)) (t := (.array .byte)) hrt rfl (Or.inr (Or.inr (Or.inr (Or.inr ⟨rfl, rfl, rfl⟩)))) (hb hby d22_6) hr)
theorem ef_nbl3 (m : MethodId) (y0 : Int32) : entryFrame m #[(.int y0)] 1 = mkF m 0 #[vI y0] [] := by first | (simp [entryFrame, mkF, argsToLocals, vI, vA, Value.category, maxLocals]; done) | rfl
def Q_nbl3 (Z : State) (h0 : Heap) (v : Option Value) (h : Heap) : Prop := v = some (.int 6) ∧ h = h0
def rm_nbl3 : Room := { frames := 0, cells := 0, slots := 0, locals := 0 }
set_option maxRecDepth 65536 in
set_option maxHeartbeats 40000000 in
theorem ct_nbl3 {l : Launch} {Z : State} {a0 : Array Value} (H : Ev Z a0) {h0 : Heap} {n0 : Nat} (O0 : Old Z n0 h0) : CtrN l Z (⟨"java/lang/StringUTF16", "newBytesLength", "(I)I"⟩ : MethodName) jdk_52_method_3_code 1 (some .int) [] rm_nbl3 #[(.int (3 : Int32))] h0 [] n0 (Q_nbl3 Z h0) := by
  refine enterN (a0 := a0) (plainFor_of_name pn_4) O0 all0 ?_
  intro p e s m below meth c T0 hx hby hml hrt hnm hlk A0
  replace A0 : Wk false Z a0 [] n0 h0 [] "java/lang/StringUTF16" p l e rm_nbl3 s m #[(.int (3 : Int32))] below meth c [] T0 h0 0 0 := A0
  refine Run.st (T0.setTop (mkF m 0 #[vI 3] [])) (fun _ k => castTop (ef_nbl3 m (3 : Int32)) k) ?_
  refine Run.st (T0.setTop (mkF m 13 #[vI 3] [.int 3])) (fun _ k => XS.iloadN A0.here hx rfl (hb hby d21_0) rfl (XS.ifYes A0.here hx rfl (pc0 := 1) (pc' := 12) rfl (hb hby d21_1) rfl (by decide) (by decide) (by decide) (XS.iloadN A0.here hx rfl (hb hby d21_12) rfl k))) ?_
  refine Run.st (T0.setTop (mkF m 15 #[vI 3] [.int 1073741823, .int 3])) (A0.ldcI hx (tw121 H.1) (g := (mkF m 13 #[vI 3] [.int 3])) rfl (hb hby d21_13)) ?_
  refine Run.st (T0.setTop (mkF m 57 #[vI 3] [.int 1, .int 3])) (fun _ k => XS.icmpYes A0.here hx rfl (pc0 := 15) (pc' := 55) rfl (hb hby d21_15) rfl (by decide) (by decide) (by decide) (XS.iloadN A0.here hx rfl (hb hby d21_55) rfl (XS.iconst A0.here hx rfl (hb hby d21_56) k))) ?_
  refine Run.st (T0.setTop (mkF m 58 #[vI 3] [.int ((3 : Int32) <<< ((1 : Int32) &&& 31))])) (fun _ k => XS.ishl A0.here hx rfl (hb hby d21_57) rfl k) ?_
  rw [show ((3 : Int32) <<< ((1 : Int32) &&& 31)) = (6 : Int32) from (by decide)]
  exact A0.leaveN hlk (some (.int (6 : Int32))) (fun q => by rw [hrt] at q; cases q) (by decide) (by decide) ⟨rfl, rfl⟩ (fun X hr => retOut X hx (w := (.int (6 : Int32))) (t := .int) hrt rfl (Or.inl ⟨rfl, Or.inl rfl, _, rfl⟩) (hb hby d21_58) hr)
theorem ef_nbf3 (m : MethodId) (y0 : Int32) : entryFrame m #[(.int y0)] 1 = mkF m 0 #[vI y0] [] := by first | (simp [entryFrame, mkF, argsToLocals, vI, vA, Value.category, maxLocals]; done) | rfl
def Q_nbf3 (Z : State) (h0 : Heap) (v : Option Value) (h : Heap) : Prop := ∃ (t : Addr) (k : ClassId), v = some (.ref t) ∧ (h0.size ≤ t ∧ t < h.size) ∧ Ext h0 h ∧ Arv Z h t k .byte (6 : Int32) [(.int (0 : Int32)), (.int (0 : Int32)), (.int (0 : Int32)), (.int (0 : Int32)), (.int (0 : Int32)), (.int (0 : Int32))] (.int 0)
def rm_nbf3 : Room := { frames := 1, cells := 1, slots := 6, locals := 12 }
set_option maxRecDepth 65536 in
set_option maxHeartbeats 40000000 in
theorem ct_nbf3 {l : Launch} {Z : State} {a0 : Array Value} (H : Ev Z a0) {h0 : Heap} {n0 : Nat} (O0 : Old Z n0 h0) : CtrN l Z (⟨"java/lang/StringUTF16", "newBytesFor", "(I)[B"⟩ : MethodName) jdk_52_method_2_code 1 (some (.array .byte)) [] rm_nbf3 #[(.int (3 : Int32))] h0 [] n0 (Q_nbf3 Z h0) := by
  refine enterN (a0 := a0) (plainFor_of_name pn_4) O0 all0 ?_
  intro p e s m below meth c T0 hx hby hml hrt hnm hlk A0
  replace A0 : Wk false Z a0 [] n0 h0 [] "java/lang/StringUTF16" p l e rm_nbf3 s m #[(.int (3 : Int32))] below meth c [] T0 h0 0 0 := A0
  refine Run.st (T0.setTop (mkF m 0 #[vI 3] [])) (fun _ k => castTop (ef_nbf3 m (3 : Int32)) k) ?_
  refine Run.st (T0.setTop (mkF m 1 #[vI 3] [.int 3])) (fun _ k => XS.iloadN A0.here hx rfl (hb hby d22_0) rfl k) ?_
  obtain ⟨v111, T111, h111, AA111, K111, ⟨L111, Q111⟩, st111⟩ := A0.callS hx (tw118 H.1) (tw119 H.1) (tw40 H.1) (tw120 H.1) (by decide) (g := (mkF m 1 #[vI 3] [.int 3])) rfl (by rw [hml]; rfl) [(.int (3 : Int32))] [] (lenOf pd_11 rfl) rfl (Wd := 0) (Nat.le_refl _) (hb hby d22_1) (by decide) (by decide) [] (fun _ _ _ q => q.2) all0 (fun vm0 hZ => payN (ct_nbl3 H A0.old) (tw120 H.1) (tw40 H.1) (by decide) (by decide) hZ)
  obtain ⟨Q111, N111, -⟩ := Q111
  obtain ⟨rfl, q111⟩ := Q111
  have q111 := q111.symm
  subst q111
  have A111 := AA111 [] all0
  refine Run.st (T111.setTop (mkF m 4 #[vI 3] [.int 6])) st111 ?_
  obtain ⟨a112, T112, h112, kA112, A112, E112, g112, V112, st112⟩ := A111.newP hx (aty := .byte) (N := (6 : Int32)) (tw21 H.1) (g := (mkF m 4 #[vI 3] [.int 6])) rfl (hb hby d22_4) rfl (by decide) (cap := 6) (by decide) (by decide) (by decide) (by decide)
  refine Run.st (T112.setTop (mkF m 6 #[vI 3] [(.ref a112)])) st112 ?_
  exact A112.leaveN hlk (some (.ref a112)) (fun q => by rw [hrt] at q; cases q) (by decide) (by decide) ⟨_, _, rfl, ⟨(Nat.le_of_eq g112), V112.lt⟩, keepE A112.keep, V112⟩ (fun X hr => retOut X hx (w := (.ref a112)) (t := (.array .byte)) hrt rfl (Or.inr (Or.inr (Or.inr (Or.inr ⟨rfl, rfl, rfl⟩)))) (hb hby d22_6) hr)
theorem ef_nbl4 (m : MethodId) (y0 : Int32) : entryFrame m #[(.int y0)] 1 = mkF m 0 #[vI y0] [] := by first | (simp [entryFrame, mkF, argsToLocals, vI, vA, Value.category, maxLocals]; done) | rfl
def Q_nbl4 (Z : State) (h0 : Heap) (v : Option Value) (h : Heap) : Prop := v = some (.int 8) ∧ h = h0
def rm_nbl4 : Room := { frames := 0, cells := 0, slots := 0, locals := 0 }
set_option maxRecDepth 65536 in
set_option maxHeartbeats 40000000 in
theorem ct_nbl4 {l : Launch} {Z : State} {a0 : Array Value} (H : Ev Z a0) {h0 : Heap} {n0 : Nat} (O0 : Old Z n0 h0) : CtrN l Z (⟨"java/lang/StringUTF16", "newBytesLength", "(I)I"⟩ : MethodName) jdk_52_method_3_code 1 (some .int) [] rm_nbl4 #[(.int (4 : Int32))] h0 [] n0 (Q_nbl4 Z h0) := by
  refine enterN (a0 := a0) (plainFor_of_name pn_4) O0 all0 ?_
  intro p e s m below meth c T0 hx hby hml hrt hnm hlk A0
  replace A0 : Wk false Z a0 [] n0 h0 [] "java/lang/StringUTF16" p l e rm_nbl4 s m #[(.int (4 : Int32))] below meth c [] T0 h0 0 0 := A0
  refine Run.st (T0.setTop (mkF m 0 #[vI 4] [])) (fun _ k => castTop (ef_nbl4 m (4 : Int32)) k) ?_
  refine Run.st (T0.setTop (mkF m 13 #[vI 4] [.int 4])) (fun _ k => XS.iloadN A0.here hx rfl (hb hby d21_0) rfl (XS.ifYes A0.here hx rfl (pc0 := 1) (pc' := 12) rfl (hb hby d21_1) rfl (by decide) (by decide) (by decide) (XS.iloadN A0.here hx rfl (hb hby d21_12) rfl k))) ?_
  refine Run.st (T0.setTop (mkF m 15 #[vI 4] [.int 1073741823, .int 4])) (A0.ldcI hx (tw121 H.1) (g := (mkF m 13 #[vI 4] [.int 4])) rfl (hb hby d21_13)) ?_
  refine Run.st (T0.setTop (mkF m 57 #[vI 4] [.int 1, .int 4])) (fun _ k => XS.icmpYes A0.here hx rfl (pc0 := 15) (pc' := 55) rfl (hb hby d21_15) rfl (by decide) (by decide) (by decide) (XS.iloadN A0.here hx rfl (hb hby d21_55) rfl (XS.iconst A0.here hx rfl (hb hby d21_56) k))) ?_
  refine Run.st (T0.setTop (mkF m 58 #[vI 4] [.int ((4 : Int32) <<< ((1 : Int32) &&& 31))])) (fun _ k => XS.ishl A0.here hx rfl (hb hby d21_57) rfl k) ?_
  rw [show ((4 : Int32) <<< ((1 : Int32) &&& 31)) = (8 : Int32) from (by decide)]
  exact A0.leaveN hlk (some (.int (8 : Int32))) (fun q => by rw [hrt] at q; cases q) (by decide) (by decide) ⟨rfl, rfl⟩ (fun X hr => retOut X hx (w := (.int (8 : Int32))) (t := .int) hrt rfl (Or.inl ⟨rfl, Or.inl rfl, _, rfl⟩) (hb hby d21_58) hr)
theorem ef_nbf4 (m : MethodId) (y0 : Int32) : entryFrame m #[(.int y0)] 1 = mkF m 0 #[vI y0] [] := by first | (simp [entryFrame, mkF, argsToLocals, vI, vA, Value.category, maxLocals]; done) | rfl
def Q_nbf4 (Z : State) (h0 : Heap) (v : Option Value) (h : Heap) : Prop := ∃ (t : Addr) (k : ClassId), v = some (.ref t) ∧ (h0.size ≤ t ∧ t < h.size) ∧ Ext h0 h ∧ Arv Z h t k .byte (8 : Int32) [(.int (0 : Int32)), (.int (0 : Int32)), (.int (0 : Int32)), (.int (0 : Int32)), (.int (0 : Int32)), (.int (0 : Int32)), (.int (0 : Int32)), (.int (0 : Int32))] (.int 0)
def rm_nbf4 : Room := { frames := 1, cells := 1, slots := 8, locals := 12 }
set_option maxRecDepth 65536 in
set_option maxHeartbeats 40000000 in
theorem ct_nbf4 {l : Launch} {Z : State} {a0 : Array Value} (H : Ev Z a0) {h0 : Heap} {n0 : Nat} (O0 : Old Z n0 h0) : CtrN l Z (⟨"java/lang/StringUTF16", "newBytesFor", "(I)[B"⟩ : MethodName) jdk_52_method_2_code 1 (some (.array .byte)) [] rm_nbf4 #[(.int (4 : Int32))] h0 [] n0 (Q_nbf4 Z h0) := by
  refine enterN (a0 := a0) (plainFor_of_name pn_4) O0 all0 ?_
  intro p e s m below meth c T0 hx hby hml hrt hnm hlk A0
  replace A0 : Wk false Z a0 [] n0 h0 [] "java/lang/StringUTF16" p l e rm_nbf4 s m #[(.int (4 : Int32))] below meth c [] T0 h0 0 0 := A0
  refine Run.st (T0.setTop (mkF m 0 #[vI 4] [])) (fun _ k => castTop (ef_nbf4 m (4 : Int32)) k) ?_
  refine Run.st (T0.setTop (mkF m 1 #[vI 4] [.int 4])) (fun _ k => XS.iloadN A0.here hx rfl (hb hby d22_0) rfl k) ?_
  obtain ⟨v113, T113, h113, AA113, K113, ⟨L113, Q113⟩, st113⟩ := A0.callS hx (tw118 H.1) (tw119 H.1) (tw40 H.1) (tw120 H.1) (by decide) (g := (mkF m 1 #[vI 4] [.int 4])) rfl (by rw [hml]; rfl) [(.int (4 : Int32))] [] (lenOf pd_11 rfl) rfl (Wd := 0) (Nat.le_refl _) (hb hby d22_1) (by decide) (by decide) [] (fun _ _ _ q => q.2) all0 (fun vm0 hZ => payN (ct_nbl4 H A0.old) (tw120 H.1) (tw40 H.1) (by decide) (by decide) hZ)
  obtain ⟨Q113, N113, -⟩ := Q113
  obtain ⟨rfl, q113⟩ := Q113
  have q113 := q113.symm
  subst q113
  have A113 := AA113 [] all0
  refine Run.st (T113.setTop (mkF m 4 #[vI 4] [.int 8])) st113 ?_
  obtain ⟨a114, T114, h114, kA114, A114, E114, g114, V114, st114⟩ := A113.newP hx (aty := .byte) (N := (8 : Int32)) (tw21 H.1) (g := (mkF m 4 #[vI 4] [.int 8])) rfl (hb hby d22_4) rfl (by decide) (cap := 8) (by decide) (by decide) (by decide) (by decide)
  refine Run.st (T114.setTop (mkF m 6 #[vI 4] [(.ref a114)])) st114 ?_
  exact A114.leaveN hlk (some (.ref a114)) (fun q => by rw [hrt] at q; cases q) (by decide) (by decide) ⟨_, _, rfl, ⟨(Nat.le_of_eq g114), V114.lt⟩, keepE A114.keep, V114⟩ (fun X hr => retOut X hx (w := (.ref a114)) (t := (.array .byte)) hrt rfl (Or.inr (Or.inr (Or.inr (Or.inr ⟨rfl, rfl, rfl⟩)))) (hb hby d22_6) hr)
theorem ef_put0 (m : MethodId) (y0 : Addr) (y1 : Int32) (y2 : Int32) : entryFrame m #[(.ref y0), (.int y1), (.int y2)] 3 = mkF m 0 #[vA y0, vI y1, vI y2] [] := by first | (simp [entryFrame, mkF, argsToLocals, vI, vA, Value.category, maxLocals]; done) | rfl
def Q_put0 (Z : State) (b1 : Addr) (k1 : ClassId) (N1 : Int32) (vs : List Value) (p1 : Int32) (h0 : Heap) (v : Option Value) (h : Heap) : Prop := v = none ∧ Arv Z h b1 k1 .byte N1 ((vs.set 0 (lo8 p1)).set 1 (hi8 p1)) (.int 0)
def rm_put0 : Room := { frames := 0, cells := 0, slots := 0, locals := 0 }
set_option maxRecDepth 65536 in
set_option maxHeartbeats 40000000 in
theorem ct_put0 {l : Launch} {Z : State} {a0 : Array Value} (H : Ev Z a0) (b1 : Addr) (k1 : ClassId) (N1 : Int32) (vs : List Value) (p1 : Int32) {h0 : Heap} {n0 : Nat} (O0 : Old Z n0 h0) (g_b1 : n0 ≤ b1) (z_b1 : b1 < h0.size) (Va1 : Arv Z h0 b1 k1 .byte N1 vs (.int 0)) (hN0 : (0 : Int32) < N1) (hN1 : (1 : Int32) < N1) (hL : 1 < vs.length) : CtrN l Z (⟨"java/lang/StringUTF16", "putChar", "([BII)V"⟩ : MethodName) jdk_52_method_4_code 3 none [] rm_put0 #[(.ref b1), (.int (0 : Int32)), (.int p1)] h0 [b1] n0 (Q_put0 Z b1 k1 N1 vs p1 h0) := by
  refine enterN (a0 := a0) (plainFor_of_name pn_4) O0 (allS ⟨g_b1, z_b1⟩ all0) ?_
  intro p e s m below meth c T0 hx hby hml hrt hnm hlk A0
  replace A0 : Wk false Z a0 [] n0 h0 [b1] "java/lang/StringUTF16" p l e rm_put0 s m #[(.ref b1), (.int (0 : Int32)), (.int p1)] below meth c [b1] T0 h0 0 0 := A0
  refine Run.st (T0.setTop (mkF m 0 #[vA b1, vI 0, vI p1] [])) (fun _ k => castTop (ef_put0 m b1 (0 : Int32) p1) k) ?_
  obtain ⟨zc, Sc, hzc⟩ := H.2.1
  obtain ⟨fm, Sfm, rfm⟩ := H.2.2.1
  obtain ⟨T115, A115, st115⟩ := A0.getS hx (tw125 H.1) Via.refl (H.2.2.2.1.ext A0.old.2) (g := (mkF m 0 #[vA b1, vI 0, vI p1] [])) rfl (hb hby d23_0)
  refine Run.st (T115.setTop (mkF m 3 #[vA b1, vI 0, vI p1] [.int 1])) st115 ?_
  refine Run.st (T115.setTop (mkF m 30 #[vA b1, vI 0, vI p1] [.int 1, .int 0])) (fun _ k => XS.ifYes A115.here hx rfl (pc0 := 3) (pc' := 28) rfl (hb hby d23_3) rfl (by decide) (by decide) (by decide) (XS.iloadN A115.here hx rfl (hb hby d23_28) rfl (XS.iconst A115.here hx rfl (hb hby d23_29) k))) ?_
  refine Run.st (T115.setTop (mkF m 31 #[vA b1, vI 0, vI p1] [.int ((0 : Int32) <<< ((1 : Int32) &&& 31))])) (fun _ k => XS.ishl A115.here hx rfl (hb hby d23_30) rfl k) ?_
  rw [show ((0 : Int32) <<< ((1 : Int32) &&& 31)) = (0 : Int32) from (by decide)]
  refine Run.st (T115.setTop (mkF m 38 #[vA b1, vI 1, vI p1] [.int p1, .int 0, (.ref b1)])) (fun _ k => XS.istoreN A115.here hx rfl (hb hby d23_31) rfl (l' := #[vA b1, vI 0, vI p1]) rfl (XS.aloadN A115.here hx rfl (hb hby d23_32) rfl rfl (XS.iloadN A115.here hx rfl (hb hby d23_33) rfl (XS.iinc A115.here hx rfl (hb hby d23_34) rfl (l' := #[vA b1, vI 1, vI p1]) rfl (XS.iloadN A115.here hx rfl (hb hby d23_37) rfl k))))) ?_
  obtain ⟨T116, A116, st116⟩ := A115.getS hx (tw126 H.1) Via.refl (H.2.2.2.2.1.ext A115.old.2) (g := (mkF m 38 #[vA b1, vI 1, vI p1] [.int p1, .int 0, (.ref b1)])) rfl (hb hby d23_38)
  refine Run.st (T116.setTop (mkF m 41 #[vA b1, vI 1, vI p1] [.int 0, .int p1, .int 0, (.ref b1)])) st116 ?_
  refine Run.st (T116.setTop (mkF m 42 #[vA b1, vI 1, vI p1] [.int (p1 >>> ((0 : Int32) &&& 31)), .int 0, (.ref b1)])) (fun _ k => XS.ishr A116.here hx rfl (hb hby d23_41) rfl k) ?_
  rw [show (p1 >>> ((0 : Int32) &&& 31)) = p1 from shr0 p1]
  refine Run.st (T116.setTop (mkF m 43 #[vA b1, vI 1, vI p1] [.int (p1.toInt8.toInt32), .int 0, (.ref b1)])) (fun _ k => XS.i2b A116.here hx rfl (hb hby d23_42) rfl k) ?_
  obtain ⟨T117, h117, A117, K117, V117, st117⟩ := A116.stB hx Va1 (List.mem_of_getElem? (i := 0) rfl) (j := (0 : Int32)) 0 rfl ⟨(by decide), hN0⟩ (by first | omega | (simp only [List.length_set]; omega)) (fitsNB _) (g := (mkF m 43 #[vA b1, vI 1, vI p1] [.int (p1.toInt8.toInt32), .int 0, (.ref b1)])) rfl rfl (hb hby d23_43)
  refine Run.st (T117.setTop (mkF m 44 #[vA b1, vI 1, vI p1] [])) st117 ?_
  refine Run.st (T117.setTop (mkF m 47 #[vA b1, vI 1, vI p1] [.int p1, .int 1, (.ref b1)])) (fun _ k => XS.aloadN A117.here hx rfl (hb hby d23_44) rfl rfl (XS.iloadN A117.here hx rfl (hb hby d23_45) rfl (XS.iloadN A117.here hx rfl (hb hby d23_46) rfl k))) ?_
  obtain ⟨T118, A118, st118⟩ := A117.getS hx (tw127 H.1) Via.refl (H.2.2.2.2.2.ext A117.old.2) (g := (mkF m 47 #[vA b1, vI 1, vI p1] [.int p1, .int 1, (.ref b1)])) rfl (hb hby d23_47)
  refine Run.st (T118.setTop (mkF m 50 #[vA b1, vI 1, vI p1] [.int 8, .int p1, .int 1, (.ref b1)])) st118 ?_
  refine Run.st (T118.setTop (mkF m 52 #[vA b1, vI 1, vI p1] [.int ((p1 >>> ((8 : Int32) &&& 31)).toInt8.toInt32), .int 1, (.ref b1)])) (fun _ k => XS.ishr A118.here hx rfl (hb hby d23_50) rfl (XS.i2b A118.here hx rfl (hb hby d23_51) rfl k)) ?_
  obtain ⟨T119, h119, A119, K119, V119, st119⟩ := A118.stB hx V117 (List.mem_of_getElem? (i := 0) rfl) (j := (1 : Int32)) 1 rfl ⟨(by decide), hN1⟩ (by first | omega | (simp only [List.length_set]; omega)) (fitsNB _) (g := (mkF m 52 #[vA b1, vI 1, vI p1] [.int ((p1 >>> ((8 : Int32) &&& 31)).toInt8.toInt32), .int 1, (.ref b1)])) rfl rfl (hb hby d23_52)
  refine Run.st (T119.setTop (mkF m 53 #[vA b1, vI 1, vI p1] [])) st119 ?_
  exact A119.leaveN hlk none (fun _ => rfl) (by decide) (by decide) ⟨rfl, V119⟩ (fun X hr => X.returnOut hx hrt (hb hby d23_53) hr)
theorem ef_put1 (m : MethodId) (y0 : Addr) (y1 : Int32) (y2 : Int32) : entryFrame m #[(.ref y0), (.int y1), (.int y2)] 3 = mkF m 0 #[vA y0, vI y1, vI y2] [] := by first | (simp [entryFrame, mkF, argsToLocals, vI, vA, Value.category, maxLocals]; done) | rfl
def Q_put1 (Z : State) (b1 : Addr) (k1 : ClassId) (N1 : Int32) (vs : List Value) (p1 : Int32) (h0 : Heap) (v : Option Value) (h : Heap) : Prop := v = none ∧ Arv Z h b1 k1 .byte N1 ((vs.set 2 (lo8 p1)).set 3 (hi8 p1)) (.int 0)
def rm_put1 : Room := { frames := 0, cells := 0, slots := 0, locals := 0 }
set_option maxRecDepth 65536 in
set_option maxHeartbeats 40000000 in
theorem ct_put1 {l : Launch} {Z : State} {a0 : Array Value} (H : Ev Z a0) (b1 : Addr) (k1 : ClassId) (N1 : Int32) (vs : List Value) (p1 : Int32) {h0 : Heap} {n0 : Nat} (O0 : Old Z n0 h0) (g_b1 : n0 ≤ b1) (z_b1 : b1 < h0.size) (Va1 : Arv Z h0 b1 k1 .byte N1 vs (.int 0)) (hN0 : (2 : Int32) < N1) (hN1 : (3 : Int32) < N1) (hL : 3 < vs.length) : CtrN l Z (⟨"java/lang/StringUTF16", "putChar", "([BII)V"⟩ : MethodName) jdk_52_method_4_code 3 none [] rm_put1 #[(.ref b1), (.int (1 : Int32)), (.int p1)] h0 [b1] n0 (Q_put1 Z b1 k1 N1 vs p1 h0) := by
  refine enterN (a0 := a0) (plainFor_of_name pn_4) O0 (allS ⟨g_b1, z_b1⟩ all0) ?_
  intro p e s m below meth c T0 hx hby hml hrt hnm hlk A0
  replace A0 : Wk false Z a0 [] n0 h0 [b1] "java/lang/StringUTF16" p l e rm_put1 s m #[(.ref b1), (.int (1 : Int32)), (.int p1)] below meth c [b1] T0 h0 0 0 := A0
  refine Run.st (T0.setTop (mkF m 0 #[vA b1, vI 1, vI p1] [])) (fun _ k => castTop (ef_put1 m b1 (1 : Int32) p1) k) ?_
  obtain ⟨zc, Sc, hzc⟩ := H.2.1
  obtain ⟨fm, Sfm, rfm⟩ := H.2.2.1
  obtain ⟨T120, A120, st120⟩ := A0.getS hx (tw125 H.1) Via.refl (H.2.2.2.1.ext A0.old.2) (g := (mkF m 0 #[vA b1, vI 1, vI p1] [])) rfl (hb hby d23_0)
  refine Run.st (T120.setTop (mkF m 3 #[vA b1, vI 1, vI p1] [.int 1])) st120 ?_
  refine Run.st (T120.setTop (mkF m 30 #[vA b1, vI 1, vI p1] [.int 1, .int 1])) (fun _ k => XS.ifYes A120.here hx rfl (pc0 := 3) (pc' := 28) rfl (hb hby d23_3) rfl (by decide) (by decide) (by decide) (XS.iloadN A120.here hx rfl (hb hby d23_28) rfl (XS.iconst A120.here hx rfl (hb hby d23_29) k))) ?_
  refine Run.st (T120.setTop (mkF m 31 #[vA b1, vI 1, vI p1] [.int ((1 : Int32) <<< ((1 : Int32) &&& 31))])) (fun _ k => XS.ishl A120.here hx rfl (hb hby d23_30) rfl k) ?_
  rw [show ((1 : Int32) <<< ((1 : Int32) &&& 31)) = (2 : Int32) from (by decide)]
  refine Run.st (T120.setTop (mkF m 38 #[vA b1, vI 3, vI p1] [.int p1, .int 2, (.ref b1)])) (fun _ k => XS.istoreN A120.here hx rfl (hb hby d23_31) rfl (l' := #[vA b1, vI 2, vI p1]) rfl (XS.aloadN A120.here hx rfl (hb hby d23_32) rfl rfl (XS.iloadN A120.here hx rfl (hb hby d23_33) rfl (XS.iinc A120.here hx rfl (hb hby d23_34) rfl (l' := #[vA b1, vI 3, vI p1]) rfl (XS.iloadN A120.here hx rfl (hb hby d23_37) rfl k))))) ?_
  obtain ⟨T121, A121, st121⟩ := A120.getS hx (tw126 H.1) Via.refl (H.2.2.2.2.1.ext A120.old.2) (g := (mkF m 38 #[vA b1, vI 3, vI p1] [.int p1, .int 2, (.ref b1)])) rfl (hb hby d23_38)
  refine Run.st (T121.setTop (mkF m 41 #[vA b1, vI 3, vI p1] [.int 0, .int p1, .int 2, (.ref b1)])) st121 ?_
  refine Run.st (T121.setTop (mkF m 42 #[vA b1, vI 3, vI p1] [.int (p1 >>> ((0 : Int32) &&& 31)), .int 2, (.ref b1)])) (fun _ k => XS.ishr A121.here hx rfl (hb hby d23_41) rfl k) ?_
  rw [show (p1 >>> ((0 : Int32) &&& 31)) = p1 from shr0 p1]
  refine Run.st (T121.setTop (mkF m 43 #[vA b1, vI 3, vI p1] [.int (p1.toInt8.toInt32), .int 2, (.ref b1)])) (fun _ k => XS.i2b A121.here hx rfl (hb hby d23_42) rfl k) ?_
  obtain ⟨T122, h122, A122, K122, V122, st122⟩ := A121.stB hx Va1 (List.mem_of_getElem? (i := 0) rfl) (j := (2 : Int32)) 2 rfl ⟨(by decide), hN0⟩ (by first | omega | (simp only [List.length_set]; omega)) (fitsNB _) (g := (mkF m 43 #[vA b1, vI 3, vI p1] [.int (p1.toInt8.toInt32), .int 2, (.ref b1)])) rfl rfl (hb hby d23_43)
  refine Run.st (T122.setTop (mkF m 44 #[vA b1, vI 3, vI p1] [])) st122 ?_
  refine Run.st (T122.setTop (mkF m 47 #[vA b1, vI 3, vI p1] [.int p1, .int 3, (.ref b1)])) (fun _ k => XS.aloadN A122.here hx rfl (hb hby d23_44) rfl rfl (XS.iloadN A122.here hx rfl (hb hby d23_45) rfl (XS.iloadN A122.here hx rfl (hb hby d23_46) rfl k))) ?_
  obtain ⟨T123, A123, st123⟩ := A122.getS hx (tw127 H.1) Via.refl (H.2.2.2.2.2.ext A122.old.2) (g := (mkF m 47 #[vA b1, vI 3, vI p1] [.int p1, .int 3, (.ref b1)])) rfl (hb hby d23_47)
  refine Run.st (T123.setTop (mkF m 50 #[vA b1, vI 3, vI p1] [.int 8, .int p1, .int 3, (.ref b1)])) st123 ?_
  refine Run.st (T123.setTop (mkF m 52 #[vA b1, vI 3, vI p1] [.int ((p1 >>> ((8 : Int32) &&& 31)).toInt8.toInt32), .int 3, (.ref b1)])) (fun _ k => XS.ishr A123.here hx rfl (hb hby d23_50) rfl (XS.i2b A123.here hx rfl (hb hby d23_51) rfl k)) ?_
  obtain ⟨T124, h124, A124, K124, V124, st124⟩ := A123.stB hx V122 (List.mem_of_getElem? (i := 0) rfl) (j := (3 : Int32)) 3 rfl ⟨(by decide), hN1⟩ (by first | omega | (simp only [List.length_set]; omega)) (fitsNB _) (g := (mkF m 52 #[vA b1, vI 3, vI p1] [.int ((p1 >>> ((8 : Int32) &&& 31)).toInt8.toInt32), .int 3, (.ref b1)])) rfl rfl (hb hby d23_52)
  refine Run.st (T124.setTop (mkF m 53 #[vA b1, vI 3, vI p1] [])) st124 ?_
  exact A124.leaveN hlk none (fun _ => rfl) (by decide) (by decide) ⟨rfl, V124⟩ (fun X hr => X.returnOut hx hrt (hb hby d23_53) hr)
theorem ef_put2 (m : MethodId) (y0 : Addr) (y1 : Int32) (y2 : Int32) : entryFrame m #[(.ref y0), (.int y1), (.int y2)] 3 = mkF m 0 #[vA y0, vI y1, vI y2] [] := by first | (simp [entryFrame, mkF, argsToLocals, vI, vA, Value.category, maxLocals]; done) | rfl
def Q_put2 (Z : State) (b1 : Addr) (k1 : ClassId) (N1 : Int32) (vs : List Value) (p1 : Int32) (h0 : Heap) (v : Option Value) (h : Heap) : Prop := v = none ∧ Arv Z h b1 k1 .byte N1 ((vs.set 4 (lo8 p1)).set 5 (hi8 p1)) (.int 0)
def rm_put2 : Room := { frames := 0, cells := 0, slots := 0, locals := 0 }
set_option maxRecDepth 65536 in
set_option maxHeartbeats 40000000 in
theorem ct_put2 {l : Launch} {Z : State} {a0 : Array Value} (H : Ev Z a0) (b1 : Addr) (k1 : ClassId) (N1 : Int32) (vs : List Value) (p1 : Int32) {h0 : Heap} {n0 : Nat} (O0 : Old Z n0 h0) (g_b1 : n0 ≤ b1) (z_b1 : b1 < h0.size) (Va1 : Arv Z h0 b1 k1 .byte N1 vs (.int 0)) (hN0 : (4 : Int32) < N1) (hN1 : (5 : Int32) < N1) (hL : 5 < vs.length) : CtrN l Z (⟨"java/lang/StringUTF16", "putChar", "([BII)V"⟩ : MethodName) jdk_52_method_4_code 3 none [] rm_put2 #[(.ref b1), (.int (2 : Int32)), (.int p1)] h0 [b1] n0 (Q_put2 Z b1 k1 N1 vs p1 h0) := by
  refine enterN (a0 := a0) (plainFor_of_name pn_4) O0 (allS ⟨g_b1, z_b1⟩ all0) ?_
  intro p e s m below meth c T0 hx hby hml hrt hnm hlk A0
  replace A0 : Wk false Z a0 [] n0 h0 [b1] "java/lang/StringUTF16" p l e rm_put2 s m #[(.ref b1), (.int (2 : Int32)), (.int p1)] below meth c [b1] T0 h0 0 0 := A0
  refine Run.st (T0.setTop (mkF m 0 #[vA b1, vI 2, vI p1] [])) (fun _ k => castTop (ef_put2 m b1 (2 : Int32) p1) k) ?_
  obtain ⟨zc, Sc, hzc⟩ := H.2.1
  obtain ⟨fm, Sfm, rfm⟩ := H.2.2.1
  obtain ⟨T125, A125, st125⟩ := A0.getS hx (tw125 H.1) Via.refl (H.2.2.2.1.ext A0.old.2) (g := (mkF m 0 #[vA b1, vI 2, vI p1] [])) rfl (hb hby d23_0)
  refine Run.st (T125.setTop (mkF m 3 #[vA b1, vI 2, vI p1] [.int 1])) st125 ?_
  refine Run.st (T125.setTop (mkF m 30 #[vA b1, vI 2, vI p1] [.int 1, .int 2])) (fun _ k => XS.ifYes A125.here hx rfl (pc0 := 3) (pc' := 28) rfl (hb hby d23_3) rfl (by decide) (by decide) (by decide) (XS.iloadN A125.here hx rfl (hb hby d23_28) rfl (XS.iconst A125.here hx rfl (hb hby d23_29) k))) ?_
  refine Run.st (T125.setTop (mkF m 31 #[vA b1, vI 2, vI p1] [.int ((2 : Int32) <<< ((1 : Int32) &&& 31))])) (fun _ k => XS.ishl A125.here hx rfl (hb hby d23_30) rfl k) ?_
  rw [show ((2 : Int32) <<< ((1 : Int32) &&& 31)) = (4 : Int32) from (by decide)]
  refine Run.st (T125.setTop (mkF m 38 #[vA b1, vI 5, vI p1] [.int p1, .int 4, (.ref b1)])) (fun _ k => XS.istoreN A125.here hx rfl (hb hby d23_31) rfl (l' := #[vA b1, vI 4, vI p1]) rfl (XS.aloadN A125.here hx rfl (hb hby d23_32) rfl rfl (XS.iloadN A125.here hx rfl (hb hby d23_33) rfl (XS.iinc A125.here hx rfl (hb hby d23_34) rfl (l' := #[vA b1, vI 5, vI p1]) rfl (XS.iloadN A125.here hx rfl (hb hby d23_37) rfl k))))) ?_
  obtain ⟨T126, A126, st126⟩ := A125.getS hx (tw126 H.1) Via.refl (H.2.2.2.2.1.ext A125.old.2) (g := (mkF m 38 #[vA b1, vI 5, vI p1] [.int p1, .int 4, (.ref b1)])) rfl (hb hby d23_38)
  refine Run.st (T126.setTop (mkF m 41 #[vA b1, vI 5, vI p1] [.int 0, .int p1, .int 4, (.ref b1)])) st126 ?_
  refine Run.st (T126.setTop (mkF m 42 #[vA b1, vI 5, vI p1] [.int (p1 >>> ((0 : Int32) &&& 31)), .int 4, (.ref b1)])) (fun _ k => XS.ishr A126.here hx rfl (hb hby d23_41) rfl k) ?_
  rw [show (p1 >>> ((0 : Int32) &&& 31)) = p1 from shr0 p1]
  refine Run.st (T126.setTop (mkF m 43 #[vA b1, vI 5, vI p1] [.int (p1.toInt8.toInt32), .int 4, (.ref b1)])) (fun _ k => XS.i2b A126.here hx rfl (hb hby d23_42) rfl k) ?_
  obtain ⟨T127, h127, A127, K127, V127, st127⟩ := A126.stB hx Va1 (List.mem_of_getElem? (i := 0) rfl) (j := (4 : Int32)) 4 rfl ⟨(by decide), hN0⟩ (by first | omega | (simp only [List.length_set]; omega)) (fitsNB _) (g := (mkF m 43 #[vA b1, vI 5, vI p1] [.int (p1.toInt8.toInt32), .int 4, (.ref b1)])) rfl rfl (hb hby d23_43)
  refine Run.st (T127.setTop (mkF m 44 #[vA b1, vI 5, vI p1] [])) st127 ?_
  refine Run.st (T127.setTop (mkF m 47 #[vA b1, vI 5, vI p1] [.int p1, .int 5, (.ref b1)])) (fun _ k => XS.aloadN A127.here hx rfl (hb hby d23_44) rfl rfl (XS.iloadN A127.here hx rfl (hb hby d23_45) rfl (XS.iloadN A127.here hx rfl (hb hby d23_46) rfl k))) ?_
  obtain ⟨T128, A128, st128⟩ := A127.getS hx (tw127 H.1) Via.refl (H.2.2.2.2.2.ext A127.old.2) (g := (mkF m 47 #[vA b1, vI 5, vI p1] [.int p1, .int 5, (.ref b1)])) rfl (hb hby d23_47)
  refine Run.st (T128.setTop (mkF m 50 #[vA b1, vI 5, vI p1] [.int 8, .int p1, .int 5, (.ref b1)])) st128 ?_
  refine Run.st (T128.setTop (mkF m 52 #[vA b1, vI 5, vI p1] [.int ((p1 >>> ((8 : Int32) &&& 31)).toInt8.toInt32), .int 5, (.ref b1)])) (fun _ k => XS.ishr A128.here hx rfl (hb hby d23_50) rfl (XS.i2b A128.here hx rfl (hb hby d23_51) rfl k)) ?_
  obtain ⟨T129, h129, A129, K129, V129, st129⟩ := A128.stB hx V127 (List.mem_of_getElem? (i := 0) rfl) (j := (5 : Int32)) 5 rfl ⟨(by decide), hN1⟩ (by first | omega | (simp only [List.length_set]; omega)) (fitsNB _) (g := (mkF m 52 #[vA b1, vI 5, vI p1] [.int ((p1 >>> ((8 : Int32) &&& 31)).toInt8.toInt32), .int 5, (.ref b1)])) rfl rfl (hb hby d23_52)
  refine Run.st (T129.setTop (mkF m 53 #[vA b1, vI 5, vI p1] [])) st129 ?_
  exact A129.leaveN hlk none (fun _ => rfl) (by decide) (by decide) ⟨rfl, V129⟩ (fun X hr => X.returnOut hx hrt (hb hby d23_53) hr)
theorem ef_put3 (m : MethodId) (y0 : Addr) (y1 : Int32) (y2 : Int32) : entryFrame m #[(.ref y0), (.int y1), (.int y2)] 3 = mkF m 0 #[vA y0, vI y1, vI y2] [] := by first | (simp [entryFrame, mkF, argsToLocals, vI, vA, Value.category, maxLocals]; done) | rfl
def Q_put3 (Z : State) (b1 : Addr) (k1 : ClassId) (N1 : Int32) (vs : List Value) (p1 : Int32) (h0 : Heap) (v : Option Value) (h : Heap) : Prop := v = none ∧ Arv Z h b1 k1 .byte N1 ((vs.set 6 (lo8 p1)).set 7 (hi8 p1)) (.int 0)
def rm_put3 : Room := { frames := 0, cells := 0, slots := 0, locals := 0 }
set_option maxRecDepth 65536 in
set_option maxHeartbeats 40000000 in
theorem ct_put3 {l : Launch} {Z : State} {a0 : Array Value} (H : Ev Z a0) (b1 : Addr) (k1 : ClassId) (N1 : Int32) (vs : List Value) (p1 : Int32) {h0 : Heap} {n0 : Nat} (O0 : Old Z n0 h0) (g_b1 : n0 ≤ b1) (z_b1 : b1 < h0.size) (Va1 : Arv Z h0 b1 k1 .byte N1 vs (.int 0)) (hN0 : (6 : Int32) < N1) (hN1 : (7 : Int32) < N1) (hL : 7 < vs.length) : CtrN l Z (⟨"java/lang/StringUTF16", "putChar", "([BII)V"⟩ : MethodName) jdk_52_method_4_code 3 none [] rm_put3 #[(.ref b1), (.int (3 : Int32)), (.int p1)] h0 [b1] n0 (Q_put3 Z b1 k1 N1 vs p1 h0) := by
  refine enterN (a0 := a0) (plainFor_of_name pn_4) O0 (allS ⟨g_b1, z_b1⟩ all0) ?_
  intro p e s m below meth c T0 hx hby hml hrt hnm hlk A0
  replace A0 : Wk false Z a0 [] n0 h0 [b1] "java/lang/StringUTF16" p l e rm_put3 s m #[(.ref b1), (.int (3 : Int32)), (.int p1)] below meth c [b1] T0 h0 0 0 := A0
  refine Run.st (T0.setTop (mkF m 0 #[vA b1, vI 3, vI p1] [])) (fun _ k => castTop (ef_put3 m b1 (3 : Int32) p1) k) ?_
  obtain ⟨zc, Sc, hzc⟩ := H.2.1
  obtain ⟨fm, Sfm, rfm⟩ := H.2.2.1
  obtain ⟨T130, A130, st130⟩ := A0.getS hx (tw125 H.1) Via.refl (H.2.2.2.1.ext A0.old.2) (g := (mkF m 0 #[vA b1, vI 3, vI p1] [])) rfl (hb hby d23_0)
  refine Run.st (T130.setTop (mkF m 3 #[vA b1, vI 3, vI p1] [.int 1])) st130 ?_
  refine Run.st (T130.setTop (mkF m 30 #[vA b1, vI 3, vI p1] [.int 1, .int 3])) (fun _ k => XS.ifYes A130.here hx rfl (pc0 := 3) (pc' := 28) rfl (hb hby d23_3) rfl (by decide) (by decide) (by decide) (XS.iloadN A130.here hx rfl (hb hby d23_28) rfl (XS.iconst A130.here hx rfl (hb hby d23_29) k))) ?_
  refine Run.st (T130.setTop (mkF m 31 #[vA b1, vI 3, vI p1] [.int ((3 : Int32) <<< ((1 : Int32) &&& 31))])) (fun _ k => XS.ishl A130.here hx rfl (hb hby d23_30) rfl k) ?_
  rw [show ((3 : Int32) <<< ((1 : Int32) &&& 31)) = (6 : Int32) from (by decide)]
  refine Run.st (T130.setTop (mkF m 38 #[vA b1, vI 7, vI p1] [.int p1, .int 6, (.ref b1)])) (fun _ k => XS.istoreN A130.here hx rfl (hb hby d23_31) rfl (l' := #[vA b1, vI 6, vI p1]) rfl (XS.aloadN A130.here hx rfl (hb hby d23_32) rfl rfl (XS.iloadN A130.here hx rfl (hb hby d23_33) rfl (XS.iinc A130.here hx rfl (hb hby d23_34) rfl (l' := #[vA b1, vI 7, vI p1]) rfl (XS.iloadN A130.here hx rfl (hb hby d23_37) rfl k))))) ?_
  obtain ⟨T131, A131, st131⟩ := A130.getS hx (tw126 H.1) Via.refl (H.2.2.2.2.1.ext A130.old.2) (g := (mkF m 38 #[vA b1, vI 7, vI p1] [.int p1, .int 6, (.ref b1)])) rfl (hb hby d23_38)
  refine Run.st (T131.setTop (mkF m 41 #[vA b1, vI 7, vI p1] [.int 0, .int p1, .int 6, (.ref b1)])) st131 ?_
  refine Run.st (T131.setTop (mkF m 42 #[vA b1, vI 7, vI p1] [.int (p1 >>> ((0 : Int32) &&& 31)), .int 6, (.ref b1)])) (fun _ k => XS.ishr A131.here hx rfl (hb hby d23_41) rfl k) ?_
  rw [show (p1 >>> ((0 : Int32) &&& 31)) = p1 from shr0 p1]
  refine Run.st (T131.setTop (mkF m 43 #[vA b1, vI 7, vI p1] [.int (p1.toInt8.toInt32), .int 6, (.ref b1)])) (fun _ k => XS.i2b A131.here hx rfl (hb hby d23_42) rfl k) ?_
  obtain ⟨T132, h132, A132, K132, V132, st132⟩ := A131.stB hx Va1 (List.mem_of_getElem? (i := 0) rfl) (j := (6 : Int32)) 6 rfl ⟨(by decide), hN0⟩ (by first | omega | (simp only [List.length_set]; omega)) (fitsNB _) (g := (mkF m 43 #[vA b1, vI 7, vI p1] [.int (p1.toInt8.toInt32), .int 6, (.ref b1)])) rfl rfl (hb hby d23_43)
  refine Run.st (T132.setTop (mkF m 44 #[vA b1, vI 7, vI p1] [])) st132 ?_
  refine Run.st (T132.setTop (mkF m 47 #[vA b1, vI 7, vI p1] [.int p1, .int 7, (.ref b1)])) (fun _ k => XS.aloadN A132.here hx rfl (hb hby d23_44) rfl rfl (XS.iloadN A132.here hx rfl (hb hby d23_45) rfl (XS.iloadN A132.here hx rfl (hb hby d23_46) rfl k))) ?_
  obtain ⟨T133, A133, st133⟩ := A132.getS hx (tw127 H.1) Via.refl (H.2.2.2.2.2.ext A132.old.2) (g := (mkF m 47 #[vA b1, vI 7, vI p1] [.int p1, .int 7, (.ref b1)])) rfl (hb hby d23_47)
  refine Run.st (T133.setTop (mkF m 50 #[vA b1, vI 7, vI p1] [.int 8, .int p1, .int 7, (.ref b1)])) st133 ?_
  refine Run.st (T133.setTop (mkF m 52 #[vA b1, vI 7, vI p1] [.int ((p1 >>> ((8 : Int32) &&& 31)).toInt8.toInt32), .int 7, (.ref b1)])) (fun _ k => XS.ishr A133.here hx rfl (hb hby d23_50) rfl (XS.i2b A133.here hx rfl (hb hby d23_51) rfl k)) ?_
  obtain ⟨T134, h134, A134, K134, V134, st134⟩ := A133.stB hx V132 (List.mem_of_getElem? (i := 0) rfl) (j := (7 : Int32)) 7 rfl ⟨(by decide), hN1⟩ (by first | omega | (simp only [List.length_set]; omega)) (fitsNB _) (g := (mkF m 52 #[vA b1, vI 7, vI p1] [.int ((p1 >>> ((8 : Int32) &&& 31)).toInt8.toInt32), .int 7, (.ref b1)])) rfl rfl (hb hby d23_52)
  refine Run.st (T134.setTop (mkF m 53 #[vA b1, vI 7, vI p1] [])) st134 ?_
  exact A134.leaveN hlk none (fun _ => rfl) (by decide) (by decide) ⟨rfl, V134⟩ (fun X hr => X.returnOut hx hrt (hb hby d23_53) hr)
theorem ef_toB1 (m : MethodId) (y0 : Addr) (y1 : Int32) (y2 : Int32) : entryFrame m #[(.ref y0), (.int y1), (.int y2)] 5 = mkF m 0 #[vA y0, vI y1, vI y2, .unset, .unset] [] := by first | (simp [entryFrame, mkF, argsToLocals, vI, vA, Value.category, maxLocals]; done) | rfl
def Q_toB1 (Z : State) (b1 : Addr) (kC : ClassId) (c1 : Int32) (h0 : Heap) (v : Option Value) (h : Heap) : Prop := ∃ (t : Addr) (k : ClassId), v = some (.ref t) ∧ Ext h0 h ∧ Arv Z h t k .byte (2 : Int32) (wid [c1]) (.int 0)
def rm_toB1 : Room := { frames := 2, cells := 1, slots := 2, locals := 24 }
set_option maxRecDepth 65536 in
set_option maxHeartbeats 40000000 in
theorem ct_toB1 {l : Launch} {Z : State} {a0 : Array Value} (H : Ev Z a0) (b1 : Addr) (kC : ClassId) (c1 : Int32) {h0 : Heap} {n0 : Nat} (O0 : Old Z n0 h0) (Vb1 : Arv Z h0 b1 kC .char (1 : Int32) [(.int c1)] (.int 0)) : CtrN l Z (⟨"java/lang/StringUTF16", "toBytes", "([CII)[B"⟩ : MethodName) jdk_52_method_14_code 5 (some (.array .byte)) [] rm_toB1 #[(.ref b1), (.int (0 : Int32)), (.int (1 : Int32))] h0 [] n0 (Q_toB1 Z b1 kC c1 h0) := by
  refine enterN (a0 := a0) (plainFor_of_name pn_4) O0 all0 ?_
  intro p e s m below meth c T0 hx hby hml hrt hnm hlk A0
  replace A0 : Wk false Z a0 [] n0 h0 [] "java/lang/StringUTF16" p l e rm_toB1 s m #[(.ref b1), (.int (0 : Int32)), (.int (1 : Int32))] below meth c [] T0 h0 0 0 := A0
  refine Run.st (T0.setTop (mkF m 0 #[vA b1, vI 0, vI 1, .unset, .unset] [])) (fun _ k => castTop (ef_toB1 m b1 (0 : Int32) (1 : Int32)) k) ?_
  refine Run.st (T0.setTop (mkF m 1 #[vA b1, vI 0, vI 1, .unset, .unset] [.int 1])) (fun _ k => XS.iloadN A0.here hx rfl (hb hby d24_0) rfl k) ?_
  obtain ⟨v135, T135, h135, AA135, K135, ⟨L135, Q135⟩, st135⟩ := A0.callS hx (tw115 H.1) (tw116 H.1) (tw40 H.1) (tw117 H.1) (by decide) (g := (mkF m 1 #[vA b1, vI 0, vI 1, .unset, .unset] [.int 1])) rfl (by rw [hml]; rfl) [(.int (1 : Int32))] [] (lenOf pd_12 rfl) rfl (Wd := 0) (Nat.le_refl _) (hb hby d24_1) (by decide) (by decide) [] (fun _ _ _ q => q.2) all0 (fun vm0 hZ => payN (ct_nbf1 H A0.old) (tw117 H.1) (tw40 H.1) (by decide) (by decide) hZ)
  obtain ⟨Q135, N135, -⟩ := Q135
  obtain ⟨t135, kt135, rfl, hf135, X135, Vt135⟩ := Q135
  have A135 := AA135 [t135] (allS (Or.inr hf135) all0)
  refine Run.st (T135.setTop (mkF m 4 #[vA b1, vI 0, vI 1, .unset, .unset] [(.ref t135)])) st135 ?_
  refine Run.st (T135.setTop (mkF m 18 #[vA b1, vI 0, vI 1, vA t135, vI 0] [(.ref b1), .int 0, (.ref t135)])) (fun _ k => XS.astoreN A135.here hx rfl (hb hby d24_4) rfl rfl (l' := #[vA b1, vI 0, vI 1, vA t135, .unset]) rfl (XS.iconst A135.here hx rfl (hb hby d24_5) (XS.istore A135.here hx rfl (hb hby d24_6) rfl (l' := #[vA b1, vI 0, vI 1, vA t135, vI 0]) rfl (XS.iload A135.here hx rfl (hb hby d24_8) rfl (XS.iloadN A135.here hx rfl (hb hby d24_10) rfl (XS.icmpNo A135.here hx rfl (hb hby d24_11) rfl (by decide) (XS.aloadN A135.here hx rfl (hb hby d24_14) rfl rfl (XS.iload A135.here hx rfl (hb hby d24_15) rfl (XS.aloadN A135.here hx rfl (hb hby d24_17) rfl rfl k))))))))) ?_
  refine Run.st (T135.setTop (mkF m 19 #[vA b1, vI 0, vI 1, vA t135, vI 0] [.int 0, (.ref b1), .int 0, (.ref t135)])) (fun _ k => XS.iloadN A135.here hx rfl (hb hby d24_18) rfl k) ?_
  have X136 : Ext h0 h135 := X135
  have f137 := Vb1.ext X136
  refine Run.st (T135.setTop (mkF m 20 #[vA b1, vI 0, vI 1, vA t135, vI 0] [.int c1, .int 0, (.ref t135)])) (A135.ldC hx f137 (j := (0 : Int32)) 0 rfl ⟨(by decide), (by decide)⟩ (v := (.int c1)) rfl (g := (mkF m 19 #[vA b1, vI 0, vI 1, vA t135, vI 0] [.int 0, (.ref b1), .int 0, (.ref t135)])) rfl rfl (hb hby d24_19)) ?_
  obtain ⟨v138, T138, h138, AA138, K138, ⟨L138, Q138⟩, st138⟩ := A135.callS hx (tw122 H.1) (tw123 H.1) (tw40 H.1) (tw124 H.1) (by decide) (g := (mkF m 20 #[vA b1, vI 0, vI 1, vA t135, vI 0] [.int c1, .int 0, (.ref t135)])) rfl (by rw [hml]; rfl) [(.ref t135), (.int (0 : Int32)), (.int c1)] [] (lenOf pd_13 rfl) rfl (Wd := 0) (Nat.le_refl _) (hb hby d24_20) (by decide) (by decide) [t135] (fun _ _ _ q => q.2) (allS (List.mem_of_getElem? (i := 0) rfl) all0) (fun vm0 hZ => payN (ct_put0 H t135 _ _ [(.int (0 : Int32)), (.int (0 : Int32))] c1 A135.old (A135.nle (List.mem_of_getElem? (i := 0) rfl)) Vt135.lt Vt135 (by decide) (by decide) (Nat.le_of_ble_eq_true rfl)) (tw124 H.1) (tw40 H.1) (by decide) (by decide) hZ)
  obtain ⟨Q138, N138, -⟩ := Q138
  obtain ⟨rfl, V138⟩ := Q138
  replace V138 : Arv Z h138 t135 kt135 .byte (2 : Int32) [(lo8 c1), (hi8 c1)] (.int 0) := V138
  have A138 := AA138 [] all0
  refine Run.st (T138.setTop (mkF m 23 #[vA b1, vI 0, vI 1, vA t135, vI 0] [])) st138 ?_
  refine Run.st (T138.setTop (mkF m 33 #[vA b1, vI 1, vI 1, vA t135, vI 1] [(.ref t135)])) (fun _ k => XS.iinc A138.here hx rfl (hb hby d24_23) rfl (l' := #[vA b1, vI 1, vI 1, vA t135, vI 0]) rfl (XS.iinc A138.here hx rfl (hb hby d24_26) rfl (l' := #[vA b1, vI 1, vI 1, vA t135, vI 1]) rfl (XS.goto A138.here hx rfl (pc0 := 29) (pc' := 8) rfl (hb hby d24_29) (by decide) (by decide) (XS.iload A138.here hx rfl (hb hby d24_8) rfl (XS.iloadN A138.here hx rfl (hb hby d24_10) rfl (XS.icmpYes A138.here hx rfl (pc0 := 11) (pc' := 32) rfl (hb hby d24_11) rfl (by decide) (by decide) (by decide) (XS.aloadN A138.here hx rfl (hb hby d24_32) rfl rfl k))))))) ?_
  exact A138.leaveN hlk (some (.ref t135)) (fun q => by rw [hrt] at q; cases q) (by decide) (by decide) ⟨_, _, rfl, keepE A138.keep, V138⟩ (fun X hr => retOut X hx (w := (.ref t135)) (t := (.array .byte)) hrt rfl (Or.inr (Or.inr (Or.inr (Or.inr ⟨rfl, rfl, rfl⟩)))) (hb hby d24_33) hr)
theorem ef_cmp5_1 (m : MethodId) (y0 : Addr) (y1 : Int32) (y2 : Addr) (y3 : Int32) (y4 : Int32) : entryFrame m #[(.ref y0), (.int y1), (.ref y2), (.int y3), (.int y4)] 7 = mkF m 0 #[vA y0, vI y1, vA y2, vI y3, vI y4, .unset, .unset] [] := by first | (simp [entryFrame, mkF, argsToLocals, vI, vA, Value.category, maxLocals]; done) | rfl
def Q_cmp5_1 (Z : State) (b1 : Addr) (kC : ClassId) (d1 : Addr) (kD : ClassId) (c1 : Int32) (h0 : Heap) (v : Option Value) (h : Heap) : Prop := (v = some (.int (1 : Int32)) ∧ (∀ c ∈ [c1], ¬ c < 0 ∧ ¬ (255 : Int32) < c) ∧ Arv Z h d1 kD .byte (1 : Int32) (lat [c1]) (.int 0)) ∨ ∃ j : Nat, j < 1 ∧ v = some (.int (Int32.ofNat j)) ∧ (255 : Int32) < [c1].getD j 0
def rm_cmp5_1 : Room := { frames := 0, cells := 0, slots := 0, locals := 0 }
set_option maxRecDepth 65536 in
set_option maxHeartbeats 40000000 in
theorem ct_cmp5_1 {l : Launch} {Z : State} {a0 : Array Value} (H : Ev Z a0) (b1 : Addr) (kC : ClassId) (d1 : Addr) (kD : ClassId) (c1 : Int32) {h0 : Heap} {n0 : Nat} (O0 : Old Z n0 h0) (Vb1 : Arv Z h0 b1 kC .char (1 : Int32) [(.int c1)] (.int 0)) (g_d1 : n0 ≤ d1) (z_d1 : d1 < h0.size) (Vd1 : Arv Z h0 d1 kD .byte (1 : Int32) [(.int (0 : Int32))] (.int 0)) (ne1 : b1 ≠ d1) (r1 : R16 c1) : CtrN l Z (⟨"java/lang/StringUTF16", "compress", "([CI[BII)I"⟩ : MethodName) jdk_52_method_21_code 7 (some .int) [] rm_cmp5_1 #[(.ref b1), (.int (0 : Int32)), (.ref d1), (.int (0 : Int32)), (.int (1 : Int32))] h0 [d1] n0 (Q_cmp5_1 Z b1 kC d1 kD c1 h0) := by
  refine enterN (a0 := a0) (plainFor_of_name pn_4) O0 (allS ⟨g_d1, z_d1⟩ all0) ?_
  intro p e s m below meth c T0 hx hby hml hrt hnm hlk A0
  replace A0 : Wk false Z a0 [] n0 h0 [d1] "java/lang/StringUTF16" p l e rm_cmp5_1 s m #[(.ref b1), (.int (0 : Int32)), (.ref d1), (.int (0 : Int32)), (.int (1 : Int32))] below meth c [d1] T0 h0 0 0 := A0
  refine Run.st (T0.setTop (mkF m 0 #[vA b1, vI 0, vA d1, vI 0, vI 1, .unset, .unset] [])) (fun _ k => castTop (ef_cmp5_1 m b1 (0 : Int32) d1 (0 : Int32) (1 : Int32)) k) ?_
  refine Run.st (T0.setTop (mkF m 12 #[vA b1, vI 0, vA d1, vI 0, vI 1, vI 0, .unset] [.int 0, (.ref b1)])) (fun _ k => XS.iconst A0.here hx rfl (hb hby d25_0) (XS.istore A0.here hx rfl (hb hby d25_1) rfl (l' := #[vA b1, vI 0, vA d1, vI 0, vI 1, vI 0, .unset]) rfl (XS.iload A0.here hx rfl (hb hby d25_3) rfl (XS.iload A0.here hx rfl (hb hby d25_5) rfl (XS.icmpNo A0.here hx rfl (hb hby d25_7) rfl (by decide) (XS.aloadN A0.here hx rfl (hb hby d25_10) rfl rfl (XS.iloadN A0.here hx rfl (hb hby d25_11) rfl k))))))) ?_
  refine Run.st (T0.setTop (mkF m 13 #[vA b1, vI 0, vA d1, vI 0, vI 1, vI 0, .unset] [.int c1])) (A0.ldC hx Vb1 (j := (0 : Int32)) 0 rfl ⟨(by decide), (by decide)⟩ (v := (.int c1)) rfl (g := (mkF m 12 #[vA b1, vI 0, vA d1, vI 0, vI 1, vI 0, .unset] [.int 0, (.ref b1)])) rfl rfl (hb hby d25_12)) ?_
  refine Run.st (T0.setTop (mkF m 20 #[vA b1, vI 0, vA d1, vI 0, vI 1, vI 0, vI c1] [.int 255, .int c1])) (fun _ k => XS.istore A0.here hx rfl (hb hby d25_13) rfl (l' := #[vA b1, vI 0, vA d1, vI 0, vI 1, vI 0, vI c1]) rfl (XS.iload A0.here hx rfl (hb hby d25_15) rfl (XS.sipush A0.here hx rfl (hb hby d25_17) k))) ?_
  by_cases c139 : (255 : Int32) < c1
  · refine Run.st (T0.setTop (mkF m 25 #[vA b1, vI 0, vA d1, vI 0, vI 1, vI 0, vI c1] [.int 0])) (fun _ k => XS.icmpNo A0.here hx rfl (hb hby d25_20) rfl (tlt c139).2.2.2 (XS.iload A0.here hx rfl (hb hby d25_23) rfl k)) ?_
    exact A0.leaveN hlk (some (.int (0 : Int32))) (fun q => by rw [hrt] at q; cases q) (by decide) (by decide) (Or.inr ⟨0, by decide, rfl, c139⟩) (fun X hr => retOut X hx (w := (.int (0 : Int32))) (t := .int) hrt rfl (Or.inl ⟨rfl, Or.inl rfl, _, rfl⟩) (hb hby d25_25) hr)
  · refine Run.st (T0.setTop (mkF m 31 #[vA b1, vI 0, vA d1, vI 0, vI 1, vI 0, vI c1] [.int (c1.toInt8.toInt32), .int 0, (.ref d1)])) (fun _ k => XS.icmpYes A0.here hx rfl (pc0 := 20) (pc' := 26) rfl (hb hby d25_20) rfl (flt c139).2.2.2 (by decide) (by decide) (XS.aloadN A0.here hx rfl (hb hby d25_26) rfl rfl (XS.iloadN A0.here hx rfl (hb hby d25_27) rfl (XS.iload A0.here hx rfl (hb hby d25_28) rfl (XS.i2b A0.here hx rfl (hb hby d25_30) rfl k))))) ?_
    obtain ⟨T140, h140, A140, K140, V140, st140⟩ := A0.stB hx Vd1 (List.mem_of_getElem? (i := 0) rfl) (j := (0 : Int32)) 0 rfl ⟨by decide, by decide⟩ (Nat.le_of_ble_eq_true rfl) (fitsNB _) (g := (mkF m 31 #[vA b1, vI 0, vA d1, vI 0, vI 1, vI 0, vI c1] [.int (c1.toInt8.toInt32), .int 0, (.ref d1)])) rfl rfl (hb hby d25_31)
    refine Run.st (T140.setTop (mkF m 32 #[vA b1, vI 0, vA d1, vI 0, vI 1, vI 0, vI c1] [])) st140 ?_
    refine Run.st (T140.setTop (mkF m 46 #[vA b1, vI 1, vA d1, vI 1, vI 1, vI 1, vI c1] [.int 1])) (fun _ k => XS.iinc A140.here hx rfl (hb hby d25_32) rfl (l' := #[vA b1, vI 1, vA d1, vI 0, vI 1, vI 0, vI c1]) rfl (XS.iinc A140.here hx rfl (hb hby d25_35) rfl (l' := #[vA b1, vI 1, vA d1, vI 1, vI 1, vI 0, vI c1]) rfl (XS.iinc A140.here hx rfl (hb hby d25_38) rfl (l' := #[vA b1, vI 1, vA d1, vI 1, vI 1, vI 1, vI c1]) rfl (XS.goto A140.here hx rfl (pc0 := 41) (pc' := 3) rfl (hb hby d25_41) (by decide) (by decide) (XS.iload A140.here hx rfl (hb hby d25_3) rfl (XS.iload A140.here hx rfl (hb hby d25_5) rfl (XS.icmpYes A140.here hx rfl (pc0 := 7) (pc' := 44) rfl (hb hby d25_7) rfl (by decide) (by decide) (by decide) (XS.iload A140.here hx rfl (hb hby d25_44) rfl k)))))))) ?_
    exact A140.leaveN hlk (some (.int (1 : Int32))) (fun q => by rw [hrt] at q; cases q) (by decide) (by decide) (Or.inl ⟨rfl, (chsS ⟨r1.1, c139⟩ chs0), V140⟩) (fun X hr => retOut X hx (w := (.int (1 : Int32))) (t := .int) hrt rfl (Or.inl ⟨rfl, Or.inl rfl, _, rfl⟩) (hb hby d25_46) hr)
theorem ef_cmp3_1 (m : MethodId) (y0 : Addr) (y1 : Int32) (y2 : Int32) : entryFrame m #[(.ref y0), (.int y1), (.int y2)] 6 = mkF m 0 #[vA y0, vI y1, vI y2, .unset, .unset, .unset] [] := by first | (simp [entryFrame, mkF, argsToLocals, vI, vA, Value.category, maxLocals]; done) | rfl
def Q_cmp3_1 (Z : State) (b1 : Addr) (kC : ClassId) (c1 : Int32) (h0 : Heap) (v : Option Value) (h : Heap) : Prop := ∃ (t : Addr) (k : ClassId), v = some (.ref t) ∧ Ext h0 h ∧ ((Arv Z h t k .byte (1 : Int32) (lat [c1]) (.int 0) ∧ ∀ c ∈ [c1], ¬ c < 0 ∧ ¬ (255 : Int32) < c) ∨ Arv Z h t k .byte (2 : Int32) (wid [c1]) (.int 0))
def rm_cmp3_1 : Room := { frames := 3, cells := 2, slots := 3, locals := 40 }
set_option maxRecDepth 65536 in
set_option maxHeartbeats 40000000 in
theorem ct_cmp3_1 {l : Launch} {Z : State} {a0 : Array Value} (H : Ev Z a0) (b1 : Addr) (kC : ClassId) (c1 : Int32) {h0 : Heap} {n0 : Nat} (O0 : Old Z n0 h0) (Vb1 : Arv Z h0 b1 kC .char (1 : Int32) [(.int c1)] (.int 0)) (r1 : R16 c1) : CtrN l Z (⟨"java/lang/StringUTF16", "compress", "([CII)[B"⟩ : MethodName) jdk_52_method_16_code 6 (some (.array .byte)) [] rm_cmp3_1 #[(.ref b1), (.int (0 : Int32)), (.int (1 : Int32))] h0 [] n0 (Q_cmp3_1 Z b1 kC c1 h0) := by
  refine enterN (a0 := a0) (plainFor_of_name pn_4) O0 all0 ?_
  intro p e s m below meth c T0 hx hby hml hrt hnm hlk A0
  replace A0 : Wk false Z a0 [] n0 h0 [] "java/lang/StringUTF16" p l e rm_cmp3_1 s m #[(.ref b1), (.int (0 : Int32)), (.int (1 : Int32))] below meth c [] T0 h0 0 0 := A0
  refine Run.st (T0.setTop (mkF m 0 #[vA b1, vI 0, vI 1, .unset, .unset, .unset] [])) (fun _ k => castTop (ef_cmp3_1 m b1 (0 : Int32) (1 : Int32)) k) ?_
  refine Run.st (T0.setTop (mkF m 1 #[vA b1, vI 0, vI 1, .unset, .unset, .unset] [.int 1])) (fun _ k => XS.iloadN A0.here hx rfl (hb hby d26_0) rfl k) ?_
  obtain ⟨a141, T141, h141, kA141, A141, E141, g141, V141, st141⟩ := A0.newP hx (aty := .byte) (N := (1 : Int32)) (tw21 H.1) (g := (mkF m 1 #[vA b1, vI 0, vI 1, .unset, .unset, .unset] [.int 1])) rfl (hb hby d26_1) rfl (by decide) (cap := 1) (by decide) (by decide) (by decide) (by decide)
  refine Run.st (T141.setTop (mkF m 3 #[vA b1, vI 0, vI 1, .unset, .unset, .unset] [(.ref a141)])) st141 ?_
  refine Run.st (T141.setTop (mkF m 9 #[vA b1, vI 0, vI 1, vA a141, .unset, .unset] [.int 1, .int 0, (.ref a141), .int 0, (.ref b1)])) (fun _ k => XS.astoreN A141.here hx rfl (hb hby d26_3) rfl rfl (l' := #[vA b1, vI 0, vI 1, vA a141, .unset, .unset]) rfl (XS.aloadN A141.here hx rfl (hb hby d26_4) rfl rfl (XS.iloadN A141.here hx rfl (hb hby d26_5) rfl (XS.aloadN A141.here hx rfl (hb hby d26_6) rfl rfl (XS.iconst A141.here hx rfl (hb hby d26_7) (XS.iloadN A141.here hx rfl (hb hby d26_8) rfl k)))))) ?_
  have X143 : Ext h0 h141 := E141
  have f144 := Vb1.ext X143
  obtain ⟨v142, T142, h142, AA142, K142, ⟨L142, Q142⟩, st142⟩ := A141.callS hx (tw42 H.1) (tw43 H.1) (tw40 H.1) (tw44 H.1) (by decide) (g := (mkF m 9 #[vA b1, vI 0, vI 1, vA a141, .unset, .unset] [.int 1, .int 0, (.ref a141), .int 0, (.ref b1)])) rfl (by rw [hml]; rfl) [(.ref b1), (.int (0 : Int32)), (.ref a141), (.int (0 : Int32)), (.int (1 : Int32))] [] (lenOf pd_14 rfl) rfl (Wd := 0) (Nat.le_refl _) (hb hby d26_9) (by decide) (by decide) [a141] (fun _ _ _ q => q.2) (allS (List.mem_of_getElem? (i := 0) rfl) all0) (fun vm0 hZ => payN (ct_cmp5_1 H b1 _ a141 _ c1 A141.old f144 (A141.nle (List.mem_of_getElem? (i := 0) rfl)) V141.lt V141 (Nat.ne_of_lt (Nat.lt_of_lt_of_le Vb1.lt (Nat.le_of_eq g141))) r1) (tw44 H.1) (tw40 H.1) (by decide) (by decide) hZ)
  obtain ⟨Q142, N142, -⟩ := Q142
  have hv142 : ∃ z : Int32, v142 = some (.int z) ∧ ((z = (1 : Int32) ∧ (∀ c ∈ [c1], ¬ c < 0 ∧ ¬ (255 : Int32) < c) ∧ Arv Z h142 a141 kA141 .byte (1 : Int32) (lat [c1]) (.int 0)) ∨ ∃ j : Nat, j < 1 ∧ z = Int32.ofNat j ∧ (255 : Int32) < [c1].getD j 0) := by
    rcases Q142 with ⟨e1, e2, e3⟩ | ⟨j, e1, e2, e3⟩
    · exact ⟨_, e1, Or.inl ⟨rfl, e2, e3⟩⟩
    · exact ⟨_, e2, Or.inr ⟨j, e1, rfl, e3⟩⟩
  obtain ⟨z142, rfl, D142⟩ := hv142
  have A142 := AA142 [] all0
  refine Run.st (T142.setTop (mkF m 12 #[vA b1, vI 0, vI 1, vA a141, .unset, .unset] [.int z142])) st142 ?_
  rcases D142 with ⟨e142, l142, L142a⟩ | ⟨j142, hj142, e142, l142⟩
  · subst e142
    refine Run.st (T142.setTop (mkF m 58 #[vA b1, vI 0, vI 1, vA a141, vI 1, .unset] [(.ref a141)])) (fun _ k => XS.istore A142.here hx rfl (hb hby d26_12) rfl (l' := #[vA b1, vI 0, vI 1, vA a141, vI 1, .unset]) rfl (XS.iload A142.here hx rfl (hb hby d26_14) rfl (XS.iloadN A142.here hx rfl (hb hby d26_16) rfl (XS.icmpYes A142.here hx rfl (pc0 := 17) (pc' := 57) rfl (hb hby d26_17) rfl (by decide) (by decide) (by decide) (XS.aloadN A142.here hx rfl (hb hby d26_57) rfl rfl k))))) ?_
    exact A142.leaveN hlk (some (.ref a141)) (fun q => by rw [hrt] at q; cases q) (by decide) (by decide) ⟨_, _, rfl, keepE A142.keep, Or.inl ⟨L142a, l142⟩⟩ (fun X hr => retOut X hx (w := (.ref a141)) (t := (.array .byte)) hrt rfl (Or.inr (Or.inr (Or.inr (Or.inr ⟨rfl, rfl, rfl⟩)))) (hb hby d26_58) hr)
  · subst e142
    refine Run.st (T142.setTop (mkF m 23 #[vA b1, vI 0, vI 1, vA a141, vI (Int32.ofNat j142), .unset] [.int 1, .int 0, (.ref b1)])) (fun _ k => XS.istore A142.here hx rfl (hb hby d26_12) rfl (l' := #[vA b1, vI 0, vI 1, vA a141, vI (Int32.ofNat j142), .unset]) rfl (XS.iload A142.here hx rfl (hb hby d26_14) rfl (XS.iloadN A142.here hx rfl (hb hby d26_16) rfl (XS.icmpNo A142.here hx rfl (hb hby d26_17) rfl (feq (n_ne (n := 1) hj142 (by decide))).1 (XS.aloadN A142.here hx rfl (hb hby d26_20) rfl rfl (XS.iloadN A142.here hx rfl (hb hby d26_21) rfl (XS.iloadN A142.here hx rfl (hb hby d26_22) rfl k))))))) ?_
    have X146 : Ext h0 h142 := extK X143 K142 (allS (Nat.le_of_eq g141) all0)
    have f147 := Vb1.ext X146
    obtain ⟨v145, T145, h145, AA145, K145, ⟨L145, Q145⟩, st145⟩ := A142.callS hx (tw112 H.1) (tw113 H.1) (tw40 H.1) (tw114 H.1) (by decide) (g := (mkF m 23 #[vA b1, vI 0, vI 1, vA a141, vI (Int32.ofNat j142), .unset] [.int 1, .int 0, (.ref b1)])) rfl (by rw [hml]; rfl) [(.ref b1), (.int (0 : Int32)), (.int (1 : Int32))] [] (lenOf pd_15 rfl) rfl (Wd := 0) (Nat.le_refl _) (hb hby d26_23) (by decide) (by decide) [] (fun _ _ _ q => q.2) all0 (fun vm0 hZ => payN (ct_toB1 H b1 _ c1 A142.old f147) (tw114 H.1) (tw40 H.1) (by decide) (by decide) hZ)
    obtain ⟨Q145, N145, -⟩ := Q145
    obtain ⟨t145, kt145, rfl, X145, Vt145⟩ := Q145
    have A145 := AA145 [] all0
    refine Run.st (T145.setTop (mkF m 26 #[vA b1, vI 0, vI 1, vA a141, vI (Int32.ofNat j142), .unset] [(.ref t145)])) st145 ?_
    refine Run.st (T145.setTop (mkF m 32 #[vA b1, vI 0, vI 1, vA a141, vI (Int32.ofNat j142), vA t145] [.int (Int32.ofNat j142), (.ref t145)])) (fun _ k => XS.astore A145.here hx rfl (hb hby d26_26) rfl rfl (l' := #[vA b1, vI 0, vI 1, vA a141, vI (Int32.ofNat j142), vA t145]) rfl (XS.aload A145.here hx rfl (hb hby d26_28) rfl rfl (XS.iload A145.here hx rfl (hb hby d26_30) rfl k))) ?_
    obtain ⟨v148, T148, h148, AA148, K148, ⟨L148, Q148⟩, st148⟩ := A145.callS hx (tw128 H.1) (tw129 H.1) (tw40 H.1) (tw130 H.1) (by decide) (g := (mkF m 32 #[vA b1, vI 0, vI 1, vA a141, vI (Int32.ofNat j142), vA t145] [.int (Int32.ofNat j142), (.ref t145)])) rfl (by rw [hml]; rfl) [(.ref t145), (.int (Int32.ofNat j142))] [] (lenOf pd_10 rfl) rfl (Wd := 0) (Nat.le_refl _) (hb hby d26_32) (by decide) (by decide) [] (fun _ _ _ q => q.2) all0 (fun vm0 hZ => payN (ct_getc H t145 _ [c1] j142 A145.old Vt145 (show j142 < ([c1] : List Int32).length from hj142) (Nat.le_of_ble_eq_true rfl) (chsS r1 chs0)) (tw130 H.1) (tw40 H.1) (by decide) (by decide) hZ)
    obtain ⟨Q148, N148, -⟩ := Q148
    obtain ⟨rfl, q148⟩ := Q148
    have q148 := q148.symm
    subst q148
    have A148 := AA148 [] all0
    refine Run.st (T148.setTop (mkF m 35 #[vA b1, vI 0, vI 1, vA a141, vI (Int32.ofNat j142), vA t145] [.int ([c1].getD j142 0)])) st148 ?_
    refine Run.st (T148.setTop (mkF m 56 #[vA b1, vI 0, vI 1, vA a141, vI (Int32.ofNat j142), vA t145] [(.ref t145)])) (fun _ k => XS.sipush A148.here hx rfl (hb hby d26_35) (XS.icmpYes A148.here hx rfl (pc0 := 38) (pc' := 54) rfl (hb hby d26_38) rfl (tlt l142).2.2.1 (by decide) (by decide) (XS.aload A148.here hx rfl (hb hby d26_54) rfl rfl k))) ?_
    exact A148.leaveN hlk (some (.ref t145)) (fun q => by rw [hrt] at q; cases q) (by decide) (by decide) ⟨_, _, rfl, keepE A148.keep, Or.inr Vt145⟩ (fun X hr => retOut X hx (w := (.ref t145)) (t := (.array .byte)) hrt rfl (Or.inr (Or.inr (Or.inr (Or.inr ⟨rfl, rfl, rfl⟩)))) (hb hby d26_56) hr)
theorem ef_cfl1_0 (m : MethodId) (y0 : Addr) (y1 : Int32) : entryFrame m #[(.ref y0), (.int y1)] 2 = mkF m 0 #[vA y0, vI y1] [] := by first | (simp [entryFrame, mkF, argsToLocals, vI, vA, Value.category, maxLocals]; done) | rfl
def Q_cfl1_0 (Z : State) (t1 : Addr) (k1 : ClassId) (vs : List Value) (h0 : Heap) (v : Option Value) (h : Heap) : Prop := v = some (.int 0) ∧ h = h0
def rm_cfl1_0 : Room := { frames := 0, cells := 0, slots := 0, locals := 0 }
set_option maxRecDepth 65536 in
set_option maxHeartbeats 40000000 in
theorem ct_cfl1_0 {l : Launch} {Z : State} {a0 : Array Value} (H : Ev Z a0) (t1 : Addr) (k1 : ClassId) (vs : List Value) {h0 : Heap} {n0 : Nat} (O0 : Old Z n0 h0) (V1 : Arv Z h0 t1 k1 .byte (1 : Int32) vs (.int 0)) : CtrN l Z (⟨"java/lang/StringUTF16", "coderFromArrayLen", "([BI)B"⟩ : MethodName) jdk_52_method_15_code 2 (some .byte) [] rm_cfl1_0 #[(.ref t1), (.int (1 : Int32))] h0 [] n0 (Q_cfl1_0 Z t1 k1 vs h0) := by
  refine enterN (a0 := a0) (plainFor_of_name pn_4) O0 all0 ?_
  intro p e s m below meth c T0 hx hby hml hrt hnm hlk A0
  replace A0 : Wk false Z a0 [] n0 h0 [] "java/lang/StringUTF16" p l e rm_cfl1_0 s m #[(.ref t1), (.int (1 : Int32))] below meth c [] T0 h0 0 0 := A0
  refine Run.st (T0.setTop (mkF m 0 #[vA t1, vI 1] [])) (fun _ k => castTop (ef_cfl1_0 m t1 (1 : Int32)) k) ?_
  refine Run.st (T0.setTop (mkF m 2 #[vA t1, vI 1] [(.ref t1), .int 1])) (fun _ k => XS.iloadN A0.here hx rfl (hb hby d27_0) rfl (XS.aloadN A0.here hx rfl (hb hby d27_1) rfl rfl k)) ?_
  refine Run.st (T0.setTop (mkF m 3 #[vA t1, vI 1] [.int 1, .int 1])) (A0.alen hx V1 (g := (mkF m 2 #[vA t1, vI 1] [(.ref t1), .int 1])) rfl rfl (hb hby d27_2)) ?_
  refine Run.st (T0.setTop (mkF m 8 #[vA t1, vI 1] [.int ((XT.ushr (0 : Int32) (31 : Int32)).toInt8.toInt32)])) (fun _ k => XS.isub A0.here hx rfl (hb hby d27_3) rfl (XS.bipush A0.here hx rfl (hb hby d27_4) (XT.iushr A0.here hx rfl (hb hby d27_6) rfl (XS.i2b A0.here hx rfl (hb hby d27_7) rfl k)))) ?_
  exact A0.leaveN hlk (some (.int (nar .byte ((XT.ushr (0 : Int32) (31 : Int32)).toInt8.toInt32)))) (fun q => by rw [hrt] at q; cases q) (by decide) (by decide) ⟨congrArg some (congrArg Value.int (by decide)), rfl⟩ (fun X hr => retN X hx (t := .byte) hrt (by simp) (hb hby d27_8) hr)
theorem ef_cfl1_1 (m : MethodId) (y0 : Addr) (y1 : Int32) : entryFrame m #[(.ref y0), (.int y1)] 2 = mkF m 0 #[vA y0, vI y1] [] := by first | (simp [entryFrame, mkF, argsToLocals, vI, vA, Value.category, maxLocals]; done) | rfl
def Q_cfl1_1 (Z : State) (t1 : Addr) (k1 : ClassId) (vs : List Value) (h0 : Heap) (v : Option Value) (h : Heap) : Prop := v = some (.int 1) ∧ h = h0
def rm_cfl1_1 : Room := { frames := 0, cells := 0, slots := 0, locals := 0 }
set_option maxRecDepth 65536 in
set_option maxHeartbeats 40000000 in
theorem ct_cfl1_1 {l : Launch} {Z : State} {a0 : Array Value} (H : Ev Z a0) (t1 : Addr) (k1 : ClassId) (vs : List Value) {h0 : Heap} {n0 : Nat} (O0 : Old Z n0 h0) (V1 : Arv Z h0 t1 k1 .byte (2 : Int32) vs (.int 0)) : CtrN l Z (⟨"java/lang/StringUTF16", "coderFromArrayLen", "([BI)B"⟩ : MethodName) jdk_52_method_15_code 2 (some .byte) [] rm_cfl1_1 #[(.ref t1), (.int (1 : Int32))] h0 [] n0 (Q_cfl1_1 Z t1 k1 vs h0) := by
  refine enterN (a0 := a0) (plainFor_of_name pn_4) O0 all0 ?_
  intro p e s m below meth c T0 hx hby hml hrt hnm hlk A0
  replace A0 : Wk false Z a0 [] n0 h0 [] "java/lang/StringUTF16" p l e rm_cfl1_1 s m #[(.ref t1), (.int (1 : Int32))] below meth c [] T0 h0 0 0 := A0
  refine Run.st (T0.setTop (mkF m 0 #[vA t1, vI 1] [])) (fun _ k => castTop (ef_cfl1_1 m t1 (1 : Int32)) k) ?_
  refine Run.st (T0.setTop (mkF m 2 #[vA t1, vI 1] [(.ref t1), .int 1])) (fun _ k => XS.iloadN A0.here hx rfl (hb hby d27_0) rfl (XS.aloadN A0.here hx rfl (hb hby d27_1) rfl rfl k)) ?_
  refine Run.st (T0.setTop (mkF m 3 #[vA t1, vI 1] [.int 2, .int 1])) (A0.alen hx V1 (g := (mkF m 2 #[vA t1, vI 1] [(.ref t1), .int 1])) rfl rfl (hb hby d27_2)) ?_
  refine Run.st (T0.setTop (mkF m 8 #[vA t1, vI 1] [.int ((XT.ushr (-1 : Int32) (31 : Int32)).toInt8.toInt32)])) (fun _ k => XS.isub A0.here hx rfl (hb hby d27_3) rfl (XS.bipush A0.here hx rfl (hb hby d27_4) (XT.iushr A0.here hx rfl (hb hby d27_6) rfl (XS.i2b A0.here hx rfl (hb hby d27_7) rfl k)))) ?_
  exact A0.leaveN hlk (some (.int (nar .byte ((XT.ushr (-1 : Int32) (31 : Int32)).toInt8.toInt32)))) (fun q => by rw [hrt] at q; cases q) (by decide) (by decide) ⟨congrArg some (congrArg Value.int (by decide)), rfl⟩ (fun X hr => retN X hx (t := .byte) hrt (by simp) (hb hby d27_8) hr)
theorem ef_toB2 (m : MethodId) (y0 : Addr) (y1 : Int32) (y2 : Int32) : entryFrame m #[(.ref y0), (.int y1), (.int y2)] 5 = mkF m 0 #[vA y0, vI y1, vI y2, .unset, .unset] [] := by first | (simp [entryFrame, mkF, argsToLocals, vI, vA, Value.category, maxLocals]; done) | rfl
def Q_toB2 (Z : State) (b1 : Addr) (kC : ClassId) (c1 : Int32) (c2 : Int32) (h0 : Heap) (v : Option Value) (h : Heap) : Prop := ∃ (t : Addr) (k : ClassId), v = some (.ref t) ∧ Ext h0 h ∧ Arv Z h t k .byte (4 : Int32) (wid [c1, c2]) (.int 0)
def rm_toB2 : Room := { frames := 2, cells := 1, slots := 4, locals := 24 }
set_option maxRecDepth 65536 in
set_option maxHeartbeats 40000000 in
theorem ct_toB2 {l : Launch} {Z : State} {a0 : Array Value} (H : Ev Z a0) (b1 : Addr) (kC : ClassId) (c1 : Int32) (c2 : Int32) {h0 : Heap} {n0 : Nat} (O0 : Old Z n0 h0) (Vb1 : Arv Z h0 b1 kC .char (2 : Int32) [(.int c1), (.int c2)] (.int 0)) : CtrN l Z (⟨"java/lang/StringUTF16", "toBytes", "([CII)[B"⟩ : MethodName) jdk_52_method_14_code 5 (some (.array .byte)) [] rm_toB2 #[(.ref b1), (.int (0 : Int32)), (.int (2 : Int32))] h0 [] n0 (Q_toB2 Z b1 kC c1 c2 h0) := by
  refine enterN (a0 := a0) (plainFor_of_name pn_4) O0 all0 ?_
  intro p e s m below meth c T0 hx hby hml hrt hnm hlk A0
  replace A0 : Wk false Z a0 [] n0 h0 [] "java/lang/StringUTF16" p l e rm_toB2 s m #[(.ref b1), (.int (0 : Int32)), (.int (2 : Int32))] below meth c [] T0 h0 0 0 := A0
  refine Run.st (T0.setTop (mkF m 0 #[vA b1, vI 0, vI 2, .unset, .unset] [])) (fun _ k => castTop (ef_toB2 m b1 (0 : Int32) (2 : Int32)) k) ?_
  refine Run.st (T0.setTop (mkF m 1 #[vA b1, vI 0, vI 2, .unset, .unset] [.int 2])) (fun _ k => XS.iloadN A0.here hx rfl (hb hby d24_0) rfl k) ?_
  obtain ⟨v149, T149, h149, AA149, K149, ⟨L149, Q149⟩, st149⟩ := A0.callS hx (tw115 H.1) (tw116 H.1) (tw40 H.1) (tw117 H.1) (by decide) (g := (mkF m 1 #[vA b1, vI 0, vI 2, .unset, .unset] [.int 2])) rfl (by rw [hml]; rfl) [(.int (2 : Int32))] [] (lenOf pd_12 rfl) rfl (Wd := 0) (Nat.le_refl _) (hb hby d24_1) (by decide) (by decide) [] (fun _ _ _ q => q.2) all0 (fun vm0 hZ => payN (ct_nbf2 H A0.old) (tw117 H.1) (tw40 H.1) (by decide) (by decide) hZ)
  obtain ⟨Q149, N149, -⟩ := Q149
  obtain ⟨t149, kt149, rfl, hf149, X149, Vt149⟩ := Q149
  have A149 := AA149 [t149] (allS (Or.inr hf149) all0)
  refine Run.st (T149.setTop (mkF m 4 #[vA b1, vI 0, vI 2, .unset, .unset] [(.ref t149)])) st149 ?_
  refine Run.st (T149.setTop (mkF m 18 #[vA b1, vI 0, vI 2, vA t149, vI 0] [(.ref b1), .int 0, (.ref t149)])) (fun _ k => XS.astoreN A149.here hx rfl (hb hby d24_4) rfl rfl (l' := #[vA b1, vI 0, vI 2, vA t149, .unset]) rfl (XS.iconst A149.here hx rfl (hb hby d24_5) (XS.istore A149.here hx rfl (hb hby d24_6) rfl (l' := #[vA b1, vI 0, vI 2, vA t149, vI 0]) rfl (XS.iload A149.here hx rfl (hb hby d24_8) rfl (XS.iloadN A149.here hx rfl (hb hby d24_10) rfl (XS.icmpNo A149.here hx rfl (hb hby d24_11) rfl (by decide) (XS.aloadN A149.here hx rfl (hb hby d24_14) rfl rfl (XS.iload A149.here hx rfl (hb hby d24_15) rfl (XS.aloadN A149.here hx rfl (hb hby d24_17) rfl rfl k))))))))) ?_
  refine Run.st (T149.setTop (mkF m 19 #[vA b1, vI 0, vI 2, vA t149, vI 0] [.int 0, (.ref b1), .int 0, (.ref t149)])) (fun _ k => XS.iloadN A149.here hx rfl (hb hby d24_18) rfl k) ?_
  have X150 : Ext h0 h149 := X149
  have f151 := Vb1.ext X150
  refine Run.st (T149.setTop (mkF m 20 #[vA b1, vI 0, vI 2, vA t149, vI 0] [.int c1, .int 0, (.ref t149)])) (A149.ldC hx f151 (j := (0 : Int32)) 0 rfl ⟨(by decide), (by decide)⟩ (v := (.int c1)) rfl (g := (mkF m 19 #[vA b1, vI 0, vI 2, vA t149, vI 0] [.int 0, (.ref b1), .int 0, (.ref t149)])) rfl rfl (hb hby d24_19)) ?_
  obtain ⟨v152, T152, h152, AA152, K152, ⟨L152, Q152⟩, st152⟩ := A149.callS hx (tw122 H.1) (tw123 H.1) (tw40 H.1) (tw124 H.1) (by decide) (g := (mkF m 20 #[vA b1, vI 0, vI 2, vA t149, vI 0] [.int c1, .int 0, (.ref t149)])) rfl (by rw [hml]; rfl) [(.ref t149), (.int (0 : Int32)), (.int c1)] [] (lenOf pd_13 rfl) rfl (Wd := 0) (Nat.le_refl _) (hb hby d24_20) (by decide) (by decide) [t149] (fun _ _ _ q => q.2) (allS (List.mem_of_getElem? (i := 0) rfl) all0) (fun vm0 hZ => payN (ct_put0 H t149 _ _ [(.int (0 : Int32)), (.int (0 : Int32)), (.int (0 : Int32)), (.int (0 : Int32))] c1 A149.old (A149.nle (List.mem_of_getElem? (i := 0) rfl)) Vt149.lt Vt149 (by decide) (by decide) (Nat.le_of_ble_eq_true rfl)) (tw124 H.1) (tw40 H.1) (by decide) (by decide) hZ)
  obtain ⟨Q152, N152, -⟩ := Q152
  obtain ⟨rfl, V152⟩ := Q152
  replace V152 : Arv Z h152 t149 kt149 .byte (4 : Int32) [(lo8 c1), (hi8 c1), (.int (0 : Int32)), (.int (0 : Int32))] (.int 0) := V152
  have A152 := AA152 [] all0
  refine Run.st (T152.setTop (mkF m 23 #[vA b1, vI 0, vI 2, vA t149, vI 0] [])) st152 ?_
  refine Run.st (T152.setTop (mkF m 18 #[vA b1, vI 1, vI 2, vA t149, vI 1] [(.ref b1), .int 1, (.ref t149)])) (fun _ k => XS.iinc A152.here hx rfl (hb hby d24_23) rfl (l' := #[vA b1, vI 1, vI 2, vA t149, vI 0]) rfl (XS.iinc A152.here hx rfl (hb hby d24_26) rfl (l' := #[vA b1, vI 1, vI 2, vA t149, vI 1]) rfl (XS.goto A152.here hx rfl (pc0 := 29) (pc' := 8) rfl (hb hby d24_29) (by decide) (by decide) (XS.iload A152.here hx rfl (hb hby d24_8) rfl (XS.iloadN A152.here hx rfl (hb hby d24_10) rfl (XS.icmpNo A152.here hx rfl (hb hby d24_11) rfl (by decide) (XS.aloadN A152.here hx rfl (hb hby d24_14) rfl rfl (XS.iload A152.here hx rfl (hb hby d24_15) rfl (XS.aloadN A152.here hx rfl (hb hby d24_17) rfl rfl k))))))))) ?_
  refine Run.st (T152.setTop (mkF m 19 #[vA b1, vI 1, vI 2, vA t149, vI 1] [.int 1, (.ref b1), .int 1, (.ref t149)])) (fun _ k => XS.iloadN A152.here hx rfl (hb hby d24_18) rfl k) ?_
  have X153 : Ext h0 h152 := extK X150 K152 (allS hf149.1 all0)
  have f154 := Vb1.ext X153
  refine Run.st (T152.setTop (mkF m 20 #[vA b1, vI 1, vI 2, vA t149, vI 1] [.int c2, .int 1, (.ref t149)])) (A152.ldC hx f154 (j := (1 : Int32)) 1 rfl ⟨(by decide), (by decide)⟩ (v := (.int c2)) rfl (g := (mkF m 19 #[vA b1, vI 1, vI 2, vA t149, vI 1] [.int 1, (.ref b1), .int 1, (.ref t149)])) rfl rfl (hb hby d24_19)) ?_
  obtain ⟨v155, T155, h155, AA155, K155, ⟨L155, Q155⟩, st155⟩ := A152.callS hx (tw122 H.1) (tw123 H.1) (tw40 H.1) (tw124 H.1) (by decide) (g := (mkF m 20 #[vA b1, vI 1, vI 2, vA t149, vI 1] [.int c2, .int 1, (.ref t149)])) rfl (by rw [hml]; rfl) [(.ref t149), (.int (1 : Int32)), (.int c2)] [] (lenOf pd_13 rfl) rfl (Wd := 0) (Nat.le_refl _) (hb hby d24_20) (by decide) (by decide) [t149] (fun _ _ _ q => q.2) (allS (List.mem_of_getElem? (i := 0) rfl) all0) (fun vm0 hZ => payN (ct_put1 H t149 _ _ [(lo8 c1), (hi8 c1), (.int (0 : Int32)), (.int (0 : Int32))] c2 A152.old (A152.nle (List.mem_of_getElem? (i := 0) rfl)) V152.lt V152 (by decide) (by decide) (Nat.le_of_ble_eq_true rfl)) (tw124 H.1) (tw40 H.1) (by decide) (by decide) hZ)
  obtain ⟨Q155, N155, -⟩ := Q155
  obtain ⟨rfl, V155⟩ := Q155
  replace V155 : Arv Z h155 t149 kt149 .byte (4 : Int32) [(lo8 c1), (hi8 c1), (lo8 c2), (hi8 c2)] (.int 0) := V155
  have A155 := AA155 [] all0
  refine Run.st (T155.setTop (mkF m 23 #[vA b1, vI 1, vI 2, vA t149, vI 1] [])) st155 ?_
  refine Run.st (T155.setTop (mkF m 33 #[vA b1, vI 2, vI 2, vA t149, vI 2] [(.ref t149)])) (fun _ k => XS.iinc A155.here hx rfl (hb hby d24_23) rfl (l' := #[vA b1, vI 2, vI 2, vA t149, vI 1]) rfl (XS.iinc A155.here hx rfl (hb hby d24_26) rfl (l' := #[vA b1, vI 2, vI 2, vA t149, vI 2]) rfl (XS.goto A155.here hx rfl (pc0 := 29) (pc' := 8) rfl (hb hby d24_29) (by decide) (by decide) (XS.iload A155.here hx rfl (hb hby d24_8) rfl (XS.iloadN A155.here hx rfl (hb hby d24_10) rfl (XS.icmpYes A155.here hx rfl (pc0 := 11) (pc' := 32) rfl (hb hby d24_11) rfl (by decide) (by decide) (by decide) (XS.aloadN A155.here hx rfl (hb hby d24_32) rfl rfl k))))))) ?_
  exact A155.leaveN hlk (some (.ref t149)) (fun q => by rw [hrt] at q; cases q) (by decide) (by decide) ⟨_, _, rfl, keepE A155.keep, V155⟩ (fun X hr => retOut X hx (w := (.ref t149)) (t := (.array .byte)) hrt rfl (Or.inr (Or.inr (Or.inr (Or.inr ⟨rfl, rfl, rfl⟩)))) (hb hby d24_33) hr)
theorem ef_cmp5_2 (m : MethodId) (y0 : Addr) (y1 : Int32) (y2 : Addr) (y3 : Int32) (y4 : Int32) : entryFrame m #[(.ref y0), (.int y1), (.ref y2), (.int y3), (.int y4)] 7 = mkF m 0 #[vA y0, vI y1, vA y2, vI y3, vI y4, .unset, .unset] [] := by first | (simp [entryFrame, mkF, argsToLocals, vI, vA, Value.category, maxLocals]; done) | rfl
def Q_cmp5_2 (Z : State) (b1 : Addr) (kC : ClassId) (d1 : Addr) (kD : ClassId) (c1 : Int32) (c2 : Int32) (h0 : Heap) (v : Option Value) (h : Heap) : Prop := (v = some (.int (2 : Int32)) ∧ (∀ c ∈ [c1, c2], ¬ c < 0 ∧ ¬ (255 : Int32) < c) ∧ Arv Z h d1 kD .byte (2 : Int32) (lat [c1, c2]) (.int 0)) ∨ ∃ j : Nat, j < 2 ∧ v = some (.int (Int32.ofNat j)) ∧ (255 : Int32) < [c1, c2].getD j 0
def rm_cmp5_2 : Room := { frames := 0, cells := 0, slots := 0, locals := 0 }
set_option maxRecDepth 65536 in
set_option maxHeartbeats 40000000 in
theorem ct_cmp5_2 {l : Launch} {Z : State} {a0 : Array Value} (H : Ev Z a0) (b1 : Addr) (kC : ClassId) (d1 : Addr) (kD : ClassId) (c1 : Int32) (c2 : Int32) {h0 : Heap} {n0 : Nat} (O0 : Old Z n0 h0) (Vb1 : Arv Z h0 b1 kC .char (2 : Int32) [(.int c1), (.int c2)] (.int 0)) (g_d1 : n0 ≤ d1) (z_d1 : d1 < h0.size) (Vd1 : Arv Z h0 d1 kD .byte (2 : Int32) [(.int (0 : Int32)), (.int (0 : Int32))] (.int 0)) (ne1 : b1 ≠ d1) (r1 : R16 c1) (r2 : R16 c2) : CtrN l Z (⟨"java/lang/StringUTF16", "compress", "([CI[BII)I"⟩ : MethodName) jdk_52_method_21_code 7 (some .int) [] rm_cmp5_2 #[(.ref b1), (.int (0 : Int32)), (.ref d1), (.int (0 : Int32)), (.int (2 : Int32))] h0 [d1] n0 (Q_cmp5_2 Z b1 kC d1 kD c1 c2 h0) := by
  refine enterN (a0 := a0) (plainFor_of_name pn_4) O0 (allS ⟨g_d1, z_d1⟩ all0) ?_
  intro p e s m below meth c T0 hx hby hml hrt hnm hlk A0
  replace A0 : Wk false Z a0 [] n0 h0 [d1] "java/lang/StringUTF16" p l e rm_cmp5_2 s m #[(.ref b1), (.int (0 : Int32)), (.ref d1), (.int (0 : Int32)), (.int (2 : Int32))] below meth c [d1] T0 h0 0 0 := A0
  refine Run.st (T0.setTop (mkF m 0 #[vA b1, vI 0, vA d1, vI 0, vI 2, .unset, .unset] [])) (fun _ k => castTop (ef_cmp5_2 m b1 (0 : Int32) d1 (0 : Int32) (2 : Int32)) k) ?_
  refine Run.st (T0.setTop (mkF m 12 #[vA b1, vI 0, vA d1, vI 0, vI 2, vI 0, .unset] [.int 0, (.ref b1)])) (fun _ k => XS.iconst A0.here hx rfl (hb hby d25_0) (XS.istore A0.here hx rfl (hb hby d25_1) rfl (l' := #[vA b1, vI 0, vA d1, vI 0, vI 2, vI 0, .unset]) rfl (XS.iload A0.here hx rfl (hb hby d25_3) rfl (XS.iload A0.here hx rfl (hb hby d25_5) rfl (XS.icmpNo A0.here hx rfl (hb hby d25_7) rfl (by decide) (XS.aloadN A0.here hx rfl (hb hby d25_10) rfl rfl (XS.iloadN A0.here hx rfl (hb hby d25_11) rfl k))))))) ?_
  refine Run.st (T0.setTop (mkF m 13 #[vA b1, vI 0, vA d1, vI 0, vI 2, vI 0, .unset] [.int c1])) (A0.ldC hx Vb1 (j := (0 : Int32)) 0 rfl ⟨(by decide), (by decide)⟩ (v := (.int c1)) rfl (g := (mkF m 12 #[vA b1, vI 0, vA d1, vI 0, vI 2, vI 0, .unset] [.int 0, (.ref b1)])) rfl rfl (hb hby d25_12)) ?_
  refine Run.st (T0.setTop (mkF m 20 #[vA b1, vI 0, vA d1, vI 0, vI 2, vI 0, vI c1] [.int 255, .int c1])) (fun _ k => XS.istore A0.here hx rfl (hb hby d25_13) rfl (l' := #[vA b1, vI 0, vA d1, vI 0, vI 2, vI 0, vI c1]) rfl (XS.iload A0.here hx rfl (hb hby d25_15) rfl (XS.sipush A0.here hx rfl (hb hby d25_17) k))) ?_
  by_cases c156 : (255 : Int32) < c1
  · refine Run.st (T0.setTop (mkF m 25 #[vA b1, vI 0, vA d1, vI 0, vI 2, vI 0, vI c1] [.int 0])) (fun _ k => XS.icmpNo A0.here hx rfl (hb hby d25_20) rfl (tlt c156).2.2.2 (XS.iload A0.here hx rfl (hb hby d25_23) rfl k)) ?_
    exact A0.leaveN hlk (some (.int (0 : Int32))) (fun q => by rw [hrt] at q; cases q) (by decide) (by decide) (Or.inr ⟨0, by decide, rfl, c156⟩) (fun X hr => retOut X hx (w := (.int (0 : Int32))) (t := .int) hrt rfl (Or.inl ⟨rfl, Or.inl rfl, _, rfl⟩) (hb hby d25_25) hr)
  · refine Run.st (T0.setTop (mkF m 31 #[vA b1, vI 0, vA d1, vI 0, vI 2, vI 0, vI c1] [.int (c1.toInt8.toInt32), .int 0, (.ref d1)])) (fun _ k => XS.icmpYes A0.here hx rfl (pc0 := 20) (pc' := 26) rfl (hb hby d25_20) rfl (flt c156).2.2.2 (by decide) (by decide) (XS.aloadN A0.here hx rfl (hb hby d25_26) rfl rfl (XS.iloadN A0.here hx rfl (hb hby d25_27) rfl (XS.iload A0.here hx rfl (hb hby d25_28) rfl (XS.i2b A0.here hx rfl (hb hby d25_30) rfl k))))) ?_
    obtain ⟨T157, h157, A157, K157, V157, st157⟩ := A0.stB hx Vd1 (List.mem_of_getElem? (i := 0) rfl) (j := (0 : Int32)) 0 rfl ⟨by decide, by decide⟩ (Nat.le_of_ble_eq_true rfl) (fitsNB _) (g := (mkF m 31 #[vA b1, vI 0, vA d1, vI 0, vI 2, vI 0, vI c1] [.int (c1.toInt8.toInt32), .int 0, (.ref d1)])) rfl rfl (hb hby d25_31)
    refine Run.st (T157.setTop (mkF m 32 #[vA b1, vI 0, vA d1, vI 0, vI 2, vI 0, vI c1] [])) st157 ?_
    refine Run.st (T157.setTop (mkF m 12 #[vA b1, vI 1, vA d1, vI 1, vI 2, vI 1, vI c1] [.int 1, (.ref b1)])) (fun _ k => XS.iinc A157.here hx rfl (hb hby d25_32) rfl (l' := #[vA b1, vI 1, vA d1, vI 0, vI 2, vI 0, vI c1]) rfl (XS.iinc A157.here hx rfl (hb hby d25_35) rfl (l' := #[vA b1, vI 1, vA d1, vI 1, vI 2, vI 0, vI c1]) rfl (XS.iinc A157.here hx rfl (hb hby d25_38) rfl (l' := #[vA b1, vI 1, vA d1, vI 1, vI 2, vI 1, vI c1]) rfl (XS.goto A157.here hx rfl (pc0 := 41) (pc' := 3) rfl (hb hby d25_41) (by decide) (by decide) (XS.iload A157.here hx rfl (hb hby d25_3) rfl (XS.iload A157.here hx rfl (hb hby d25_5) rfl (XS.icmpNo A157.here hx rfl (hb hby d25_7) rfl (by decide) (XS.aloadN A157.here hx rfl (hb hby d25_10) rfl rfl (XS.iloadN A157.here hx rfl (hb hby d25_11) rfl k))))))))) ?_
    have f158 := (Vb1.keep K157 (ninS ne1 nin0))
    refine Run.st (T157.setTop (mkF m 13 #[vA b1, vI 1, vA d1, vI 1, vI 2, vI 1, vI c1] [.int c2])) (A157.ldC hx f158 (j := (1 : Int32)) 1 rfl ⟨(by decide), (by decide)⟩ (v := (.int c2)) rfl (g := (mkF m 12 #[vA b1, vI 1, vA d1, vI 1, vI 2, vI 1, vI c1] [.int 1, (.ref b1)])) rfl rfl (hb hby d25_12)) ?_
    refine Run.st (T157.setTop (mkF m 20 #[vA b1, vI 1, vA d1, vI 1, vI 2, vI 1, vI c2] [.int 255, .int c2])) (fun _ k => XS.istore A157.here hx rfl (hb hby d25_13) rfl (l' := #[vA b1, vI 1, vA d1, vI 1, vI 2, vI 1, vI c2]) rfl (XS.iload A157.here hx rfl (hb hby d25_15) rfl (XS.sipush A157.here hx rfl (hb hby d25_17) k))) ?_
    by_cases c159 : (255 : Int32) < c2
    · refine Run.st (T157.setTop (mkF m 25 #[vA b1, vI 1, vA d1, vI 1, vI 2, vI 1, vI c2] [.int 1])) (fun _ k => XS.icmpNo A157.here hx rfl (hb hby d25_20) rfl (tlt c159).2.2.2 (XS.iload A157.here hx rfl (hb hby d25_23) rfl k)) ?_
      exact A157.leaveN hlk (some (.int (1 : Int32))) (fun q => by rw [hrt] at q; cases q) (by decide) (by decide) (Or.inr ⟨1, by decide, rfl, c159⟩) (fun X hr => retOut X hx (w := (.int (1 : Int32))) (t := .int) hrt rfl (Or.inl ⟨rfl, Or.inl rfl, _, rfl⟩) (hb hby d25_25) hr)
    · refine Run.st (T157.setTop (mkF m 31 #[vA b1, vI 1, vA d1, vI 1, vI 2, vI 1, vI c2] [.int (c2.toInt8.toInt32), .int 1, (.ref d1)])) (fun _ k => XS.icmpYes A157.here hx rfl (pc0 := 20) (pc' := 26) rfl (hb hby d25_20) rfl (flt c159).2.2.2 (by decide) (by decide) (XS.aloadN A157.here hx rfl (hb hby d25_26) rfl rfl (XS.iloadN A157.here hx rfl (hb hby d25_27) rfl (XS.iload A157.here hx rfl (hb hby d25_28) rfl (XS.i2b A157.here hx rfl (hb hby d25_30) rfl k))))) ?_
      obtain ⟨T160, h160, A160, K160, V160, st160⟩ := A157.stB hx V157 (List.mem_of_getElem? (i := 0) rfl) (j := (1 : Int32)) 1 rfl ⟨by decide, by decide⟩ (Nat.le_of_ble_eq_true rfl) (fitsNB _) (g := (mkF m 31 #[vA b1, vI 1, vA d1, vI 1, vI 2, vI 1, vI c2] [.int (c2.toInt8.toInt32), .int 1, (.ref d1)])) rfl rfl (hb hby d25_31)
      refine Run.st (T160.setTop (mkF m 32 #[vA b1, vI 1, vA d1, vI 1, vI 2, vI 1, vI c2] [])) st160 ?_
      refine Run.st (T160.setTop (mkF m 46 #[vA b1, vI 2, vA d1, vI 2, vI 2, vI 2, vI c2] [.int 2])) (fun _ k => XS.iinc A160.here hx rfl (hb hby d25_32) rfl (l' := #[vA b1, vI 2, vA d1, vI 1, vI 2, vI 1, vI c2]) rfl (XS.iinc A160.here hx rfl (hb hby d25_35) rfl (l' := #[vA b1, vI 2, vA d1, vI 2, vI 2, vI 1, vI c2]) rfl (XS.iinc A160.here hx rfl (hb hby d25_38) rfl (l' := #[vA b1, vI 2, vA d1, vI 2, vI 2, vI 2, vI c2]) rfl (XS.goto A160.here hx rfl (pc0 := 41) (pc' := 3) rfl (hb hby d25_41) (by decide) (by decide) (XS.iload A160.here hx rfl (hb hby d25_3) rfl (XS.iload A160.here hx rfl (hb hby d25_5) rfl (XS.icmpYes A160.here hx rfl (pc0 := 7) (pc' := 44) rfl (hb hby d25_7) rfl (by decide) (by decide) (by decide) (XS.iload A160.here hx rfl (hb hby d25_44) rfl k)))))))) ?_
      exact A160.leaveN hlk (some (.int (2 : Int32))) (fun q => by rw [hrt] at q; cases q) (by decide) (by decide) (Or.inl ⟨rfl, (chsS ⟨r1.1, c156⟩ (chsS ⟨r2.1, c159⟩ chs0)), V160⟩) (fun X hr => retOut X hx (w := (.int (2 : Int32))) (t := .int) hrt rfl (Or.inl ⟨rfl, Or.inl rfl, _, rfl⟩) (hb hby d25_46) hr)
theorem ef_cmp3_2 (m : MethodId) (y0 : Addr) (y1 : Int32) (y2 : Int32) : entryFrame m #[(.ref y0), (.int y1), (.int y2)] 6 = mkF m 0 #[vA y0, vI y1, vI y2, .unset, .unset, .unset] [] := by first | (simp [entryFrame, mkF, argsToLocals, vI, vA, Value.category, maxLocals]; done) | rfl
def Q_cmp3_2 (Z : State) (b1 : Addr) (kC : ClassId) (c1 : Int32) (c2 : Int32) (h0 : Heap) (v : Option Value) (h : Heap) : Prop := ∃ (t : Addr) (k : ClassId), v = some (.ref t) ∧ Ext h0 h ∧ ((Arv Z h t k .byte (2 : Int32) (lat [c1, c2]) (.int 0) ∧ ∀ c ∈ [c1, c2], ¬ c < 0 ∧ ¬ (255 : Int32) < c) ∨ Arv Z h t k .byte (4 : Int32) (wid [c1, c2]) (.int 0))
def rm_cmp3_2 : Room := { frames := 3, cells := 2, slots := 6, locals := 40 }
set_option maxRecDepth 65536 in
set_option maxHeartbeats 40000000 in
theorem ct_cmp3_2 {l : Launch} {Z : State} {a0 : Array Value} (H : Ev Z a0) (b1 : Addr) (kC : ClassId) (c1 : Int32) (c2 : Int32) {h0 : Heap} {n0 : Nat} (O0 : Old Z n0 h0) (Vb1 : Arv Z h0 b1 kC .char (2 : Int32) [(.int c1), (.int c2)] (.int 0)) (r1 : R16 c1) (r2 : R16 c2) : CtrN l Z (⟨"java/lang/StringUTF16", "compress", "([CII)[B"⟩ : MethodName) jdk_52_method_16_code 6 (some (.array .byte)) [] rm_cmp3_2 #[(.ref b1), (.int (0 : Int32)), (.int (2 : Int32))] h0 [] n0 (Q_cmp3_2 Z b1 kC c1 c2 h0) := by
  refine enterN (a0 := a0) (plainFor_of_name pn_4) O0 all0 ?_
  intro p e s m below meth c T0 hx hby hml hrt hnm hlk A0
  replace A0 : Wk false Z a0 [] n0 h0 [] "java/lang/StringUTF16" p l e rm_cmp3_2 s m #[(.ref b1), (.int (0 : Int32)), (.int (2 : Int32))] below meth c [] T0 h0 0 0 := A0
  refine Run.st (T0.setTop (mkF m 0 #[vA b1, vI 0, vI 2, .unset, .unset, .unset] [])) (fun _ k => castTop (ef_cmp3_2 m b1 (0 : Int32) (2 : Int32)) k) ?_
  refine Run.st (T0.setTop (mkF m 1 #[vA b1, vI 0, vI 2, .unset, .unset, .unset] [.int 2])) (fun _ k => XS.iloadN A0.here hx rfl (hb hby d26_0) rfl k) ?_
  obtain ⟨a161, T161, h161, kA161, A161, E161, g161, V161, st161⟩ := A0.newP hx (aty := .byte) (N := (2 : Int32)) (tw21 H.1) (g := (mkF m 1 #[vA b1, vI 0, vI 2, .unset, .unset, .unset] [.int 2])) rfl (hb hby d26_1) rfl (by decide) (cap := 2) (by decide) (by decide) (by decide) (by decide)
  refine Run.st (T161.setTop (mkF m 3 #[vA b1, vI 0, vI 2, .unset, .unset, .unset] [(.ref a161)])) st161 ?_
  refine Run.st (T161.setTop (mkF m 9 #[vA b1, vI 0, vI 2, vA a161, .unset, .unset] [.int 2, .int 0, (.ref a161), .int 0, (.ref b1)])) (fun _ k => XS.astoreN A161.here hx rfl (hb hby d26_3) rfl rfl (l' := #[vA b1, vI 0, vI 2, vA a161, .unset, .unset]) rfl (XS.aloadN A161.here hx rfl (hb hby d26_4) rfl rfl (XS.iloadN A161.here hx rfl (hb hby d26_5) rfl (XS.aloadN A161.here hx rfl (hb hby d26_6) rfl rfl (XS.iconst A161.here hx rfl (hb hby d26_7) (XS.iloadN A161.here hx rfl (hb hby d26_8) rfl k)))))) ?_
  have X163 : Ext h0 h161 := E161
  have f164 := Vb1.ext X163
  obtain ⟨v162, T162, h162, AA162, K162, ⟨L162, Q162⟩, st162⟩ := A161.callS hx (tw42 H.1) (tw43 H.1) (tw40 H.1) (tw44 H.1) (by decide) (g := (mkF m 9 #[vA b1, vI 0, vI 2, vA a161, .unset, .unset] [.int 2, .int 0, (.ref a161), .int 0, (.ref b1)])) rfl (by rw [hml]; rfl) [(.ref b1), (.int (0 : Int32)), (.ref a161), (.int (0 : Int32)), (.int (2 : Int32))] [] (lenOf pd_14 rfl) rfl (Wd := 0) (Nat.le_refl _) (hb hby d26_9) (by decide) (by decide) [a161] (fun _ _ _ q => q.2) (allS (List.mem_of_getElem? (i := 0) rfl) all0) (fun vm0 hZ => payN (ct_cmp5_2 H b1 _ a161 _ c1 c2 A161.old f164 (A161.nle (List.mem_of_getElem? (i := 0) rfl)) V161.lt V161 (Nat.ne_of_lt (Nat.lt_of_lt_of_le Vb1.lt (Nat.le_of_eq g161))) r1 r2) (tw44 H.1) (tw40 H.1) (by decide) (by decide) hZ)
  obtain ⟨Q162, N162, -⟩ := Q162
  have hv162 : ∃ z : Int32, v162 = some (.int z) ∧ ((z = (2 : Int32) ∧ (∀ c ∈ [c1, c2], ¬ c < 0 ∧ ¬ (255 : Int32) < c) ∧ Arv Z h162 a161 kA161 .byte (2 : Int32) (lat [c1, c2]) (.int 0)) ∨ ∃ j : Nat, j < 2 ∧ z = Int32.ofNat j ∧ (255 : Int32) < [c1, c2].getD j 0) := by
    rcases Q162 with ⟨e1, e2, e3⟩ | ⟨j, e1, e2, e3⟩
    · exact ⟨_, e1, Or.inl ⟨rfl, e2, e3⟩⟩
    · exact ⟨_, e2, Or.inr ⟨j, e1, rfl, e3⟩⟩
  obtain ⟨z162, rfl, D162⟩ := hv162
  have A162 := AA162 [] all0
  refine Run.st (T162.setTop (mkF m 12 #[vA b1, vI 0, vI 2, vA a161, .unset, .unset] [.int z162])) st162 ?_
  rcases D162 with ⟨e162, l162, L162a⟩ | ⟨j162, hj162, e162, l162⟩
  · subst e162
    refine Run.st (T162.setTop (mkF m 58 #[vA b1, vI 0, vI 2, vA a161, vI 2, .unset] [(.ref a161)])) (fun _ k => XS.istore A162.here hx rfl (hb hby d26_12) rfl (l' := #[vA b1, vI 0, vI 2, vA a161, vI 2, .unset]) rfl (XS.iload A162.here hx rfl (hb hby d26_14) rfl (XS.iloadN A162.here hx rfl (hb hby d26_16) rfl (XS.icmpYes A162.here hx rfl (pc0 := 17) (pc' := 57) rfl (hb hby d26_17) rfl (by decide) (by decide) (by decide) (XS.aloadN A162.here hx rfl (hb hby d26_57) rfl rfl k))))) ?_
    exact A162.leaveN hlk (some (.ref a161)) (fun q => by rw [hrt] at q; cases q) (by decide) (by decide) ⟨_, _, rfl, keepE A162.keep, Or.inl ⟨L162a, l162⟩⟩ (fun X hr => retOut X hx (w := (.ref a161)) (t := (.array .byte)) hrt rfl (Or.inr (Or.inr (Or.inr (Or.inr ⟨rfl, rfl, rfl⟩)))) (hb hby d26_58) hr)
  · subst e162
    refine Run.st (T162.setTop (mkF m 23 #[vA b1, vI 0, vI 2, vA a161, vI (Int32.ofNat j162), .unset] [.int 2, .int 0, (.ref b1)])) (fun _ k => XS.istore A162.here hx rfl (hb hby d26_12) rfl (l' := #[vA b1, vI 0, vI 2, vA a161, vI (Int32.ofNat j162), .unset]) rfl (XS.iload A162.here hx rfl (hb hby d26_14) rfl (XS.iloadN A162.here hx rfl (hb hby d26_16) rfl (XS.icmpNo A162.here hx rfl (hb hby d26_17) rfl (feq (n_ne (n := 2) hj162 (by decide))).1 (XS.aloadN A162.here hx rfl (hb hby d26_20) rfl rfl (XS.iloadN A162.here hx rfl (hb hby d26_21) rfl (XS.iloadN A162.here hx rfl (hb hby d26_22) rfl k))))))) ?_
    have X166 : Ext h0 h162 := extK X163 K162 (allS (Nat.le_of_eq g161) all0)
    have f167 := Vb1.ext X166
    obtain ⟨v165, T165, h165, AA165, K165, ⟨L165, Q165⟩, st165⟩ := A162.callS hx (tw112 H.1) (tw113 H.1) (tw40 H.1) (tw114 H.1) (by decide) (g := (mkF m 23 #[vA b1, vI 0, vI 2, vA a161, vI (Int32.ofNat j162), .unset] [.int 2, .int 0, (.ref b1)])) rfl (by rw [hml]; rfl) [(.ref b1), (.int (0 : Int32)), (.int (2 : Int32))] [] (lenOf pd_15 rfl) rfl (Wd := 0) (Nat.le_refl _) (hb hby d26_23) (by decide) (by decide) [] (fun _ _ _ q => q.2) all0 (fun vm0 hZ => payN (ct_toB2 H b1 _ c1 c2 A162.old f167) (tw114 H.1) (tw40 H.1) (by decide) (by decide) hZ)
    obtain ⟨Q165, N165, -⟩ := Q165
    obtain ⟨t165, kt165, rfl, X165, Vt165⟩ := Q165
    have A165 := AA165 [] all0
    refine Run.st (T165.setTop (mkF m 26 #[vA b1, vI 0, vI 2, vA a161, vI (Int32.ofNat j162), .unset] [(.ref t165)])) st165 ?_
    refine Run.st (T165.setTop (mkF m 32 #[vA b1, vI 0, vI 2, vA a161, vI (Int32.ofNat j162), vA t165] [.int (Int32.ofNat j162), (.ref t165)])) (fun _ k => XS.astore A165.here hx rfl (hb hby d26_26) rfl rfl (l' := #[vA b1, vI 0, vI 2, vA a161, vI (Int32.ofNat j162), vA t165]) rfl (XS.aload A165.here hx rfl (hb hby d26_28) rfl rfl (XS.iload A165.here hx rfl (hb hby d26_30) rfl k))) ?_
    obtain ⟨v168, T168, h168, AA168, K168, ⟨L168, Q168⟩, st168⟩ := A165.callS hx (tw128 H.1) (tw129 H.1) (tw40 H.1) (tw130 H.1) (by decide) (g := (mkF m 32 #[vA b1, vI 0, vI 2, vA a161, vI (Int32.ofNat j162), vA t165] [.int (Int32.ofNat j162), (.ref t165)])) rfl (by rw [hml]; rfl) [(.ref t165), (.int (Int32.ofNat j162))] [] (lenOf pd_10 rfl) rfl (Wd := 0) (Nat.le_refl _) (hb hby d26_32) (by decide) (by decide) [] (fun _ _ _ q => q.2) all0 (fun vm0 hZ => payN (ct_getc H t165 _ [c1, c2] j162 A165.old Vt165 (show j162 < ([c1, c2] : List Int32).length from hj162) (Nat.le_of_ble_eq_true rfl) (chsS r1 (chsS r2 chs0))) (tw130 H.1) (tw40 H.1) (by decide) (by decide) hZ)
    obtain ⟨Q168, N168, -⟩ := Q168
    obtain ⟨rfl, q168⟩ := Q168
    have q168 := q168.symm
    subst q168
    have A168 := AA168 [] all0
    refine Run.st (T168.setTop (mkF m 35 #[vA b1, vI 0, vI 2, vA a161, vI (Int32.ofNat j162), vA t165] [.int ([c1, c2].getD j162 0)])) st168 ?_
    refine Run.st (T168.setTop (mkF m 56 #[vA b1, vI 0, vI 2, vA a161, vI (Int32.ofNat j162), vA t165] [(.ref t165)])) (fun _ k => XS.sipush A168.here hx rfl (hb hby d26_35) (XS.icmpYes A168.here hx rfl (pc0 := 38) (pc' := 54) rfl (hb hby d26_38) rfl (tlt l162).2.2.1 (by decide) (by decide) (XS.aload A168.here hx rfl (hb hby d26_54) rfl rfl k))) ?_
    exact A168.leaveN hlk (some (.ref t165)) (fun q => by rw [hrt] at q; cases q) (by decide) (by decide) ⟨_, _, rfl, keepE A168.keep, Or.inr Vt165⟩ (fun X hr => retOut X hx (w := (.ref t165)) (t := (.array .byte)) hrt rfl (Or.inr (Or.inr (Or.inr (Or.inr ⟨rfl, rfl, rfl⟩)))) (hb hby d26_56) hr)
theorem ef_cfl2_0 (m : MethodId) (y0 : Addr) (y1 : Int32) : entryFrame m #[(.ref y0), (.int y1)] 2 = mkF m 0 #[vA y0, vI y1] [] := by first | (simp [entryFrame, mkF, argsToLocals, vI, vA, Value.category, maxLocals]; done) | rfl
def Q_cfl2_0 (Z : State) (t1 : Addr) (k1 : ClassId) (vs : List Value) (h0 : Heap) (v : Option Value) (h : Heap) : Prop := v = some (.int 0) ∧ h = h0
def rm_cfl2_0 : Room := { frames := 0, cells := 0, slots := 0, locals := 0 }
set_option maxRecDepth 65536 in
set_option maxHeartbeats 40000000 in
theorem ct_cfl2_0 {l : Launch} {Z : State} {a0 : Array Value} (H : Ev Z a0) (t1 : Addr) (k1 : ClassId) (vs : List Value) {h0 : Heap} {n0 : Nat} (O0 : Old Z n0 h0) (V1 : Arv Z h0 t1 k1 .byte (2 : Int32) vs (.int 0)) : CtrN l Z (⟨"java/lang/StringUTF16", "coderFromArrayLen", "([BI)B"⟩ : MethodName) jdk_52_method_15_code 2 (some .byte) [] rm_cfl2_0 #[(.ref t1), (.int (2 : Int32))] h0 [] n0 (Q_cfl2_0 Z t1 k1 vs h0) := by
  refine enterN (a0 := a0) (plainFor_of_name pn_4) O0 all0 ?_
  intro p e s m below meth c T0 hx hby hml hrt hnm hlk A0
  replace A0 : Wk false Z a0 [] n0 h0 [] "java/lang/StringUTF16" p l e rm_cfl2_0 s m #[(.ref t1), (.int (2 : Int32))] below meth c [] T0 h0 0 0 := A0
  refine Run.st (T0.setTop (mkF m 0 #[vA t1, vI 2] [])) (fun _ k => castTop (ef_cfl2_0 m t1 (2 : Int32)) k) ?_
  refine Run.st (T0.setTop (mkF m 2 #[vA t1, vI 2] [(.ref t1), .int 2])) (fun _ k => XS.iloadN A0.here hx rfl (hb hby d27_0) rfl (XS.aloadN A0.here hx rfl (hb hby d27_1) rfl rfl k)) ?_
  refine Run.st (T0.setTop (mkF m 3 #[vA t1, vI 2] [.int 2, .int 2])) (A0.alen hx V1 (g := (mkF m 2 #[vA t1, vI 2] [(.ref t1), .int 2])) rfl rfl (hb hby d27_2)) ?_
  refine Run.st (T0.setTop (mkF m 8 #[vA t1, vI 2] [.int ((XT.ushr (0 : Int32) (31 : Int32)).toInt8.toInt32)])) (fun _ k => XS.isub A0.here hx rfl (hb hby d27_3) rfl (XS.bipush A0.here hx rfl (hb hby d27_4) (XT.iushr A0.here hx rfl (hb hby d27_6) rfl (XS.i2b A0.here hx rfl (hb hby d27_7) rfl k)))) ?_
  exact A0.leaveN hlk (some (.int (nar .byte ((XT.ushr (0 : Int32) (31 : Int32)).toInt8.toInt32)))) (fun q => by rw [hrt] at q; cases q) (by decide) (by decide) ⟨congrArg some (congrArg Value.int (by decide)), rfl⟩ (fun X hr => retN X hx (t := .byte) hrt (by simp) (hb hby d27_8) hr)
theorem ef_cfl2_1 (m : MethodId) (y0 : Addr) (y1 : Int32) : entryFrame m #[(.ref y0), (.int y1)] 2 = mkF m 0 #[vA y0, vI y1] [] := by first | (simp [entryFrame, mkF, argsToLocals, vI, vA, Value.category, maxLocals]; done) | rfl
def Q_cfl2_1 (Z : State) (t1 : Addr) (k1 : ClassId) (vs : List Value) (h0 : Heap) (v : Option Value) (h : Heap) : Prop := v = some (.int 1) ∧ h = h0
def rm_cfl2_1 : Room := { frames := 0, cells := 0, slots := 0, locals := 0 }
set_option maxRecDepth 65536 in
set_option maxHeartbeats 40000000 in
theorem ct_cfl2_1 {l : Launch} {Z : State} {a0 : Array Value} (H : Ev Z a0) (t1 : Addr) (k1 : ClassId) (vs : List Value) {h0 : Heap} {n0 : Nat} (O0 : Old Z n0 h0) (V1 : Arv Z h0 t1 k1 .byte (4 : Int32) vs (.int 0)) : CtrN l Z (⟨"java/lang/StringUTF16", "coderFromArrayLen", "([BI)B"⟩ : MethodName) jdk_52_method_15_code 2 (some .byte) [] rm_cfl2_1 #[(.ref t1), (.int (2 : Int32))] h0 [] n0 (Q_cfl2_1 Z t1 k1 vs h0) := by
  refine enterN (a0 := a0) (plainFor_of_name pn_4) O0 all0 ?_
  intro p e s m below meth c T0 hx hby hml hrt hnm hlk A0
  replace A0 : Wk false Z a0 [] n0 h0 [] "java/lang/StringUTF16" p l e rm_cfl2_1 s m #[(.ref t1), (.int (2 : Int32))] below meth c [] T0 h0 0 0 := A0
  refine Run.st (T0.setTop (mkF m 0 #[vA t1, vI 2] [])) (fun _ k => castTop (ef_cfl2_1 m t1 (2 : Int32)) k) ?_
  refine Run.st (T0.setTop (mkF m 2 #[vA t1, vI 2] [(.ref t1), .int 2])) (fun _ k => XS.iloadN A0.here hx rfl (hb hby d27_0) rfl (XS.aloadN A0.here hx rfl (hb hby d27_1) rfl rfl k)) ?_
  refine Run.st (T0.setTop (mkF m 3 #[vA t1, vI 2] [.int 4, .int 2])) (A0.alen hx V1 (g := (mkF m 2 #[vA t1, vI 2] [(.ref t1), .int 2])) rfl rfl (hb hby d27_2)) ?_
  refine Run.st (T0.setTop (mkF m 8 #[vA t1, vI 2] [.int ((XT.ushr (-2 : Int32) (31 : Int32)).toInt8.toInt32)])) (fun _ k => XS.isub A0.here hx rfl (hb hby d27_3) rfl (XS.bipush A0.here hx rfl (hb hby d27_4) (XT.iushr A0.here hx rfl (hb hby d27_6) rfl (XS.i2b A0.here hx rfl (hb hby d27_7) rfl k)))) ?_
  exact A0.leaveN hlk (some (.int (nar .byte ((XT.ushr (-2 : Int32) (31 : Int32)).toInt8.toInt32)))) (fun q => by rw [hrt] at q; cases q) (by decide) (by decide) ⟨congrArg some (congrArg Value.int (by decide)), rfl⟩ (fun X hr => retN X hx (t := .byte) hrt (by simp) (hb hby d27_8) hr)
theorem ef_toB3 (m : MethodId) (y0 : Addr) (y1 : Int32) (y2 : Int32) : entryFrame m #[(.ref y0), (.int y1), (.int y2)] 5 = mkF m 0 #[vA y0, vI y1, vI y2, .unset, .unset] [] := by first | (simp [entryFrame, mkF, argsToLocals, vI, vA, Value.category, maxLocals]; done) | rfl
def Q_toB3 (Z : State) (b1 : Addr) (kC : ClassId) (c1 : Int32) (c2 : Int32) (c3 : Int32) (h0 : Heap) (v : Option Value) (h : Heap) : Prop := ∃ (t : Addr) (k : ClassId), v = some (.ref t) ∧ Ext h0 h ∧ Arv Z h t k .byte (6 : Int32) (wid [c1, c2, c3]) (.int 0)
def rm_toB3 : Room := { frames := 2, cells := 1, slots := 6, locals := 24 }
set_option maxRecDepth 65536 in
set_option maxHeartbeats 40000000 in
theorem ct_toB3 {l : Launch} {Z : State} {a0 : Array Value} (H : Ev Z a0) (b1 : Addr) (kC : ClassId) (c1 : Int32) (c2 : Int32) (c3 : Int32) {h0 : Heap} {n0 : Nat} (O0 : Old Z n0 h0) (Vb1 : Arv Z h0 b1 kC .char (3 : Int32) [(.int c1), (.int c2), (.int c3)] (.int 0)) : CtrN l Z (⟨"java/lang/StringUTF16", "toBytes", "([CII)[B"⟩ : MethodName) jdk_52_method_14_code 5 (some (.array .byte)) [] rm_toB3 #[(.ref b1), (.int (0 : Int32)), (.int (3 : Int32))] h0 [] n0 (Q_toB3 Z b1 kC c1 c2 c3 h0) := by
  refine enterN (a0 := a0) (plainFor_of_name pn_4) O0 all0 ?_
  intro p e s m below meth c T0 hx hby hml hrt hnm hlk A0
  replace A0 : Wk false Z a0 [] n0 h0 [] "java/lang/StringUTF16" p l e rm_toB3 s m #[(.ref b1), (.int (0 : Int32)), (.int (3 : Int32))] below meth c [] T0 h0 0 0 := A0
  refine Run.st (T0.setTop (mkF m 0 #[vA b1, vI 0, vI 3, .unset, .unset] [])) (fun _ k => castTop (ef_toB3 m b1 (0 : Int32) (3 : Int32)) k) ?_
  refine Run.st (T0.setTop (mkF m 1 #[vA b1, vI 0, vI 3, .unset, .unset] [.int 3])) (fun _ k => XS.iloadN A0.here hx rfl (hb hby d24_0) rfl k) ?_
  obtain ⟨v169, T169, h169, AA169, K169, ⟨L169, Q169⟩, st169⟩ := A0.callS hx (tw115 H.1) (tw116 H.1) (tw40 H.1) (tw117 H.1) (by decide) (g := (mkF m 1 #[vA b1, vI 0, vI 3, .unset, .unset] [.int 3])) rfl (by rw [hml]; rfl) [(.int (3 : Int32))] [] (lenOf pd_12 rfl) rfl (Wd := 0) (Nat.le_refl _) (hb hby d24_1) (by decide) (by decide) [] (fun _ _ _ q => q.2) all0 (fun vm0 hZ => payN (ct_nbf3 H A0.old) (tw117 H.1) (tw40 H.1) (by decide) (by decide) hZ)
  obtain ⟨Q169, N169, -⟩ := Q169
  obtain ⟨t169, kt169, rfl, hf169, X169, Vt169⟩ := Q169
  have A169 := AA169 [t169] (allS (Or.inr hf169) all0)
  refine Run.st (T169.setTop (mkF m 4 #[vA b1, vI 0, vI 3, .unset, .unset] [(.ref t169)])) st169 ?_
  refine Run.st (T169.setTop (mkF m 18 #[vA b1, vI 0, vI 3, vA t169, vI 0] [(.ref b1), .int 0, (.ref t169)])) (fun _ k => XS.astoreN A169.here hx rfl (hb hby d24_4) rfl rfl (l' := #[vA b1, vI 0, vI 3, vA t169, .unset]) rfl (XS.iconst A169.here hx rfl (hb hby d24_5) (XS.istore A169.here hx rfl (hb hby d24_6) rfl (l' := #[vA b1, vI 0, vI 3, vA t169, vI 0]) rfl (XS.iload A169.here hx rfl (hb hby d24_8) rfl (XS.iloadN A169.here hx rfl (hb hby d24_10) rfl (XS.icmpNo A169.here hx rfl (hb hby d24_11) rfl (by decide) (XS.aloadN A169.here hx rfl (hb hby d24_14) rfl rfl (XS.iload A169.here hx rfl (hb hby d24_15) rfl (XS.aloadN A169.here hx rfl (hb hby d24_17) rfl rfl k))))))))) ?_
  refine Run.st (T169.setTop (mkF m 19 #[vA b1, vI 0, vI 3, vA t169, vI 0] [.int 0, (.ref b1), .int 0, (.ref t169)])) (fun _ k => XS.iloadN A169.here hx rfl (hb hby d24_18) rfl k) ?_
  have X170 : Ext h0 h169 := X169
  have f171 := Vb1.ext X170
  refine Run.st (T169.setTop (mkF m 20 #[vA b1, vI 0, vI 3, vA t169, vI 0] [.int c1, .int 0, (.ref t169)])) (A169.ldC hx f171 (j := (0 : Int32)) 0 rfl ⟨(by decide), (by decide)⟩ (v := (.int c1)) rfl (g := (mkF m 19 #[vA b1, vI 0, vI 3, vA t169, vI 0] [.int 0, (.ref b1), .int 0, (.ref t169)])) rfl rfl (hb hby d24_19)) ?_
  obtain ⟨v172, T172, h172, AA172, K172, ⟨L172, Q172⟩, st172⟩ := A169.callS hx (tw122 H.1) (tw123 H.1) (tw40 H.1) (tw124 H.1) (by decide) (g := (mkF m 20 #[vA b1, vI 0, vI 3, vA t169, vI 0] [.int c1, .int 0, (.ref t169)])) rfl (by rw [hml]; rfl) [(.ref t169), (.int (0 : Int32)), (.int c1)] [] (lenOf pd_13 rfl) rfl (Wd := 0) (Nat.le_refl _) (hb hby d24_20) (by decide) (by decide) [t169] (fun _ _ _ q => q.2) (allS (List.mem_of_getElem? (i := 0) rfl) all0) (fun vm0 hZ => payN (ct_put0 H t169 _ _ [(.int (0 : Int32)), (.int (0 : Int32)), (.int (0 : Int32)), (.int (0 : Int32)), (.int (0 : Int32)), (.int (0 : Int32))] c1 A169.old (A169.nle (List.mem_of_getElem? (i := 0) rfl)) Vt169.lt Vt169 (by decide) (by decide) (Nat.le_of_ble_eq_true rfl)) (tw124 H.1) (tw40 H.1) (by decide) (by decide) hZ)
  obtain ⟨Q172, N172, -⟩ := Q172
  obtain ⟨rfl, V172⟩ := Q172
  replace V172 : Arv Z h172 t169 kt169 .byte (6 : Int32) [(lo8 c1), (hi8 c1), (.int (0 : Int32)), (.int (0 : Int32)), (.int (0 : Int32)), (.int (0 : Int32))] (.int 0) := V172
  have A172 := AA172 [] all0
  refine Run.st (T172.setTop (mkF m 23 #[vA b1, vI 0, vI 3, vA t169, vI 0] [])) st172 ?_
  refine Run.st (T172.setTop (mkF m 18 #[vA b1, vI 1, vI 3, vA t169, vI 1] [(.ref b1), .int 1, (.ref t169)])) (fun _ k => XS.iinc A172.here hx rfl (hb hby d24_23) rfl (l' := #[vA b1, vI 1, vI 3, vA t169, vI 0]) rfl (XS.iinc A172.here hx rfl (hb hby d24_26) rfl (l' := #[vA b1, vI 1, vI 3, vA t169, vI 1]) rfl (XS.goto A172.here hx rfl (pc0 := 29) (pc' := 8) rfl (hb hby d24_29) (by decide) (by decide) (XS.iload A172.here hx rfl (hb hby d24_8) rfl (XS.iloadN A172.here hx rfl (hb hby d24_10) rfl (XS.icmpNo A172.here hx rfl (hb hby d24_11) rfl (by decide) (XS.aloadN A172.here hx rfl (hb hby d24_14) rfl rfl (XS.iload A172.here hx rfl (hb hby d24_15) rfl (XS.aloadN A172.here hx rfl (hb hby d24_17) rfl rfl k))))))))) ?_
  refine Run.st (T172.setTop (mkF m 19 #[vA b1, vI 1, vI 3, vA t169, vI 1] [.int 1, (.ref b1), .int 1, (.ref t169)])) (fun _ k => XS.iloadN A172.here hx rfl (hb hby d24_18) rfl k) ?_
  have X173 : Ext h0 h172 := extK X170 K172 (allS hf169.1 all0)
  have f174 := Vb1.ext X173
  refine Run.st (T172.setTop (mkF m 20 #[vA b1, vI 1, vI 3, vA t169, vI 1] [.int c2, .int 1, (.ref t169)])) (A172.ldC hx f174 (j := (1 : Int32)) 1 rfl ⟨(by decide), (by decide)⟩ (v := (.int c2)) rfl (g := (mkF m 19 #[vA b1, vI 1, vI 3, vA t169, vI 1] [.int 1, (.ref b1), .int 1, (.ref t169)])) rfl rfl (hb hby d24_19)) ?_
  obtain ⟨v175, T175, h175, AA175, K175, ⟨L175, Q175⟩, st175⟩ := A172.callS hx (tw122 H.1) (tw123 H.1) (tw40 H.1) (tw124 H.1) (by decide) (g := (mkF m 20 #[vA b1, vI 1, vI 3, vA t169, vI 1] [.int c2, .int 1, (.ref t169)])) rfl (by rw [hml]; rfl) [(.ref t169), (.int (1 : Int32)), (.int c2)] [] (lenOf pd_13 rfl) rfl (Wd := 0) (Nat.le_refl _) (hb hby d24_20) (by decide) (by decide) [t169] (fun _ _ _ q => q.2) (allS (List.mem_of_getElem? (i := 0) rfl) all0) (fun vm0 hZ => payN (ct_put1 H t169 _ _ [(lo8 c1), (hi8 c1), (.int (0 : Int32)), (.int (0 : Int32)), (.int (0 : Int32)), (.int (0 : Int32))] c2 A172.old (A172.nle (List.mem_of_getElem? (i := 0) rfl)) V172.lt V172 (by decide) (by decide) (Nat.le_of_ble_eq_true rfl)) (tw124 H.1) (tw40 H.1) (by decide) (by decide) hZ)
  obtain ⟨Q175, N175, -⟩ := Q175
  obtain ⟨rfl, V175⟩ := Q175
  replace V175 : Arv Z h175 t169 kt169 .byte (6 : Int32) [(lo8 c1), (hi8 c1), (lo8 c2), (hi8 c2), (.int (0 : Int32)), (.int (0 : Int32))] (.int 0) := V175
  have A175 := AA175 [] all0
  refine Run.st (T175.setTop (mkF m 23 #[vA b1, vI 1, vI 3, vA t169, vI 1] [])) st175 ?_
  refine Run.st (T175.setTop (mkF m 18 #[vA b1, vI 2, vI 3, vA t169, vI 2] [(.ref b1), .int 2, (.ref t169)])) (fun _ k => XS.iinc A175.here hx rfl (hb hby d24_23) rfl (l' := #[vA b1, vI 2, vI 3, vA t169, vI 1]) rfl (XS.iinc A175.here hx rfl (hb hby d24_26) rfl (l' := #[vA b1, vI 2, vI 3, vA t169, vI 2]) rfl (XS.goto A175.here hx rfl (pc0 := 29) (pc' := 8) rfl (hb hby d24_29) (by decide) (by decide) (XS.iload A175.here hx rfl (hb hby d24_8) rfl (XS.iloadN A175.here hx rfl (hb hby d24_10) rfl (XS.icmpNo A175.here hx rfl (hb hby d24_11) rfl (by decide) (XS.aloadN A175.here hx rfl (hb hby d24_14) rfl rfl (XS.iload A175.here hx rfl (hb hby d24_15) rfl (XS.aloadN A175.here hx rfl (hb hby d24_17) rfl rfl k))))))))) ?_
  refine Run.st (T175.setTop (mkF m 19 #[vA b1, vI 2, vI 3, vA t169, vI 2] [.int 2, (.ref b1), .int 2, (.ref t169)])) (fun _ k => XS.iloadN A175.here hx rfl (hb hby d24_18) rfl k) ?_
  have X176 : Ext h0 h175 := extK X173 K175 (allS hf169.1 all0)
  have f177 := Vb1.ext X176
  refine Run.st (T175.setTop (mkF m 20 #[vA b1, vI 2, vI 3, vA t169, vI 2] [.int c3, .int 2, (.ref t169)])) (A175.ldC hx f177 (j := (2 : Int32)) 2 rfl ⟨(by decide), (by decide)⟩ (v := (.int c3)) rfl (g := (mkF m 19 #[vA b1, vI 2, vI 3, vA t169, vI 2] [.int 2, (.ref b1), .int 2, (.ref t169)])) rfl rfl (hb hby d24_19)) ?_
  obtain ⟨v178, T178, h178, AA178, K178, ⟨L178, Q178⟩, st178⟩ := A175.callS hx (tw122 H.1) (tw123 H.1) (tw40 H.1) (tw124 H.1) (by decide) (g := (mkF m 20 #[vA b1, vI 2, vI 3, vA t169, vI 2] [.int c3, .int 2, (.ref t169)])) rfl (by rw [hml]; rfl) [(.ref t169), (.int (2 : Int32)), (.int c3)] [] (lenOf pd_13 rfl) rfl (Wd := 0) (Nat.le_refl _) (hb hby d24_20) (by decide) (by decide) [t169] (fun _ _ _ q => q.2) (allS (List.mem_of_getElem? (i := 0) rfl) all0) (fun vm0 hZ => payN (ct_put2 H t169 _ _ [(lo8 c1), (hi8 c1), (lo8 c2), (hi8 c2), (.int (0 : Int32)), (.int (0 : Int32))] c3 A175.old (A175.nle (List.mem_of_getElem? (i := 0) rfl)) V175.lt V175 (by decide) (by decide) (Nat.le_of_ble_eq_true rfl)) (tw124 H.1) (tw40 H.1) (by decide) (by decide) hZ)
  obtain ⟨Q178, N178, -⟩ := Q178
  obtain ⟨rfl, V178⟩ := Q178
  replace V178 : Arv Z h178 t169 kt169 .byte (6 : Int32) [(lo8 c1), (hi8 c1), (lo8 c2), (hi8 c2), (lo8 c3), (hi8 c3)] (.int 0) := V178
  have A178 := AA178 [] all0
  refine Run.st (T178.setTop (mkF m 23 #[vA b1, vI 2, vI 3, vA t169, vI 2] [])) st178 ?_
  refine Run.st (T178.setTop (mkF m 33 #[vA b1, vI 3, vI 3, vA t169, vI 3] [(.ref t169)])) (fun _ k => XS.iinc A178.here hx rfl (hb hby d24_23) rfl (l' := #[vA b1, vI 3, vI 3, vA t169, vI 2]) rfl (XS.iinc A178.here hx rfl (hb hby d24_26) rfl (l' := #[vA b1, vI 3, vI 3, vA t169, vI 3]) rfl (XS.goto A178.here hx rfl (pc0 := 29) (pc' := 8) rfl (hb hby d24_29) (by decide) (by decide) (XS.iload A178.here hx rfl (hb hby d24_8) rfl (XS.iloadN A178.here hx rfl (hb hby d24_10) rfl (XS.icmpYes A178.here hx rfl (pc0 := 11) (pc' := 32) rfl (hb hby d24_11) rfl (by decide) (by decide) (by decide) (XS.aloadN A178.here hx rfl (hb hby d24_32) rfl rfl k))))))) ?_
  exact A178.leaveN hlk (some (.ref t169)) (fun q => by rw [hrt] at q; cases q) (by decide) (by decide) ⟨_, _, rfl, keepE A178.keep, V178⟩ (fun X hr => retOut X hx (w := (.ref t169)) (t := (.array .byte)) hrt rfl (Or.inr (Or.inr (Or.inr (Or.inr ⟨rfl, rfl, rfl⟩)))) (hb hby d24_33) hr)
theorem ef_cmp5_3 (m : MethodId) (y0 : Addr) (y1 : Int32) (y2 : Addr) (y3 : Int32) (y4 : Int32) : entryFrame m #[(.ref y0), (.int y1), (.ref y2), (.int y3), (.int y4)] 7 = mkF m 0 #[vA y0, vI y1, vA y2, vI y3, vI y4, .unset, .unset] [] := by first | (simp [entryFrame, mkF, argsToLocals, vI, vA, Value.category, maxLocals]; done) | rfl
def Q_cmp5_3 (Z : State) (b1 : Addr) (kC : ClassId) (d1 : Addr) (kD : ClassId) (c1 : Int32) (c2 : Int32) (c3 : Int32) (h0 : Heap) (v : Option Value) (h : Heap) : Prop := (v = some (.int (3 : Int32)) ∧ (∀ c ∈ [c1, c2, c3], ¬ c < 0 ∧ ¬ (255 : Int32) < c) ∧ Arv Z h d1 kD .byte (3 : Int32) (lat [c1, c2, c3]) (.int 0)) ∨ ∃ j : Nat, j < 3 ∧ v = some (.int (Int32.ofNat j)) ∧ (255 : Int32) < [c1, c2, c3].getD j 0
def rm_cmp5_3 : Room := { frames := 0, cells := 0, slots := 0, locals := 0 }
set_option maxRecDepth 65536 in
set_option maxHeartbeats 40000000 in
theorem ct_cmp5_3 {l : Launch} {Z : State} {a0 : Array Value} (H : Ev Z a0) (b1 : Addr) (kC : ClassId) (d1 : Addr) (kD : ClassId) (c1 : Int32) (c2 : Int32) (c3 : Int32) {h0 : Heap} {n0 : Nat} (O0 : Old Z n0 h0) (Vb1 : Arv Z h0 b1 kC .char (3 : Int32) [(.int c1), (.int c2), (.int c3)] (.int 0)) (g_d1 : n0 ≤ d1) (z_d1 : d1 < h0.size) (Vd1 : Arv Z h0 d1 kD .byte (3 : Int32) [(.int (0 : Int32)), (.int (0 : Int32)), (.int (0 : Int32))] (.int 0)) (ne1 : b1 ≠ d1) (r1 : R16 c1) (r2 : R16 c2) (r3 : R16 c3) : CtrN l Z (⟨"java/lang/StringUTF16", "compress", "([CI[BII)I"⟩ : MethodName) jdk_52_method_21_code 7 (some .int) [] rm_cmp5_3 #[(.ref b1), (.int (0 : Int32)), (.ref d1), (.int (0 : Int32)), (.int (3 : Int32))] h0 [d1] n0 (Q_cmp5_3 Z b1 kC d1 kD c1 c2 c3 h0) := by
  refine enterN (a0 := a0) (plainFor_of_name pn_4) O0 (allS ⟨g_d1, z_d1⟩ all0) ?_
  intro p e s m below meth c T0 hx hby hml hrt hnm hlk A0
  replace A0 : Wk false Z a0 [] n0 h0 [d1] "java/lang/StringUTF16" p l e rm_cmp5_3 s m #[(.ref b1), (.int (0 : Int32)), (.ref d1), (.int (0 : Int32)), (.int (3 : Int32))] below meth c [d1] T0 h0 0 0 := A0
  refine Run.st (T0.setTop (mkF m 0 #[vA b1, vI 0, vA d1, vI 0, vI 3, .unset, .unset] [])) (fun _ k => castTop (ef_cmp5_3 m b1 (0 : Int32) d1 (0 : Int32) (3 : Int32)) k) ?_
  refine Run.st (T0.setTop (mkF m 12 #[vA b1, vI 0, vA d1, vI 0, vI 3, vI 0, .unset] [.int 0, (.ref b1)])) (fun _ k => XS.iconst A0.here hx rfl (hb hby d25_0) (XS.istore A0.here hx rfl (hb hby d25_1) rfl (l' := #[vA b1, vI 0, vA d1, vI 0, vI 3, vI 0, .unset]) rfl (XS.iload A0.here hx rfl (hb hby d25_3) rfl (XS.iload A0.here hx rfl (hb hby d25_5) rfl (XS.icmpNo A0.here hx rfl (hb hby d25_7) rfl (by decide) (XS.aloadN A0.here hx rfl (hb hby d25_10) rfl rfl (XS.iloadN A0.here hx rfl (hb hby d25_11) rfl k))))))) ?_
  refine Run.st (T0.setTop (mkF m 13 #[vA b1, vI 0, vA d1, vI 0, vI 3, vI 0, .unset] [.int c1])) (A0.ldC hx Vb1 (j := (0 : Int32)) 0 rfl ⟨(by decide), (by decide)⟩ (v := (.int c1)) rfl (g := (mkF m 12 #[vA b1, vI 0, vA d1, vI 0, vI 3, vI 0, .unset] [.int 0, (.ref b1)])) rfl rfl (hb hby d25_12)) ?_
  refine Run.st (T0.setTop (mkF m 20 #[vA b1, vI 0, vA d1, vI 0, vI 3, vI 0, vI c1] [.int 255, .int c1])) (fun _ k => XS.istore A0.here hx rfl (hb hby d25_13) rfl (l' := #[vA b1, vI 0, vA d1, vI 0, vI 3, vI 0, vI c1]) rfl (XS.iload A0.here hx rfl (hb hby d25_15) rfl (XS.sipush A0.here hx rfl (hb hby d25_17) k))) ?_
  by_cases c179 : (255 : Int32) < c1
  · refine Run.st (T0.setTop (mkF m 25 #[vA b1, vI 0, vA d1, vI 0, vI 3, vI 0, vI c1] [.int 0])) (fun _ k => XS.icmpNo A0.here hx rfl (hb hby d25_20) rfl (tlt c179).2.2.2 (XS.iload A0.here hx rfl (hb hby d25_23) rfl k)) ?_
    exact A0.leaveN hlk (some (.int (0 : Int32))) (fun q => by rw [hrt] at q; cases q) (by decide) (by decide) (Or.inr ⟨0, by decide, rfl, c179⟩) (fun X hr => retOut X hx (w := (.int (0 : Int32))) (t := .int) hrt rfl (Or.inl ⟨rfl, Or.inl rfl, _, rfl⟩) (hb hby d25_25) hr)
  · refine Run.st (T0.setTop (mkF m 31 #[vA b1, vI 0, vA d1, vI 0, vI 3, vI 0, vI c1] [.int (c1.toInt8.toInt32), .int 0, (.ref d1)])) (fun _ k => XS.icmpYes A0.here hx rfl (pc0 := 20) (pc' := 26) rfl (hb hby d25_20) rfl (flt c179).2.2.2 (by decide) (by decide) (XS.aloadN A0.here hx rfl (hb hby d25_26) rfl rfl (XS.iloadN A0.here hx rfl (hb hby d25_27) rfl (XS.iload A0.here hx rfl (hb hby d25_28) rfl (XS.i2b A0.here hx rfl (hb hby d25_30) rfl k))))) ?_
    obtain ⟨T180, h180, A180, K180, V180, st180⟩ := A0.stB hx Vd1 (List.mem_of_getElem? (i := 0) rfl) (j := (0 : Int32)) 0 rfl ⟨by decide, by decide⟩ (Nat.le_of_ble_eq_true rfl) (fitsNB _) (g := (mkF m 31 #[vA b1, vI 0, vA d1, vI 0, vI 3, vI 0, vI c1] [.int (c1.toInt8.toInt32), .int 0, (.ref d1)])) rfl rfl (hb hby d25_31)
    refine Run.st (T180.setTop (mkF m 32 #[vA b1, vI 0, vA d1, vI 0, vI 3, vI 0, vI c1] [])) st180 ?_
    refine Run.st (T180.setTop (mkF m 12 #[vA b1, vI 1, vA d1, vI 1, vI 3, vI 1, vI c1] [.int 1, (.ref b1)])) (fun _ k => XS.iinc A180.here hx rfl (hb hby d25_32) rfl (l' := #[vA b1, vI 1, vA d1, vI 0, vI 3, vI 0, vI c1]) rfl (XS.iinc A180.here hx rfl (hb hby d25_35) rfl (l' := #[vA b1, vI 1, vA d1, vI 1, vI 3, vI 0, vI c1]) rfl (XS.iinc A180.here hx rfl (hb hby d25_38) rfl (l' := #[vA b1, vI 1, vA d1, vI 1, vI 3, vI 1, vI c1]) rfl (XS.goto A180.here hx rfl (pc0 := 41) (pc' := 3) rfl (hb hby d25_41) (by decide) (by decide) (XS.iload A180.here hx rfl (hb hby d25_3) rfl (XS.iload A180.here hx rfl (hb hby d25_5) rfl (XS.icmpNo A180.here hx rfl (hb hby d25_7) rfl (by decide) (XS.aloadN A180.here hx rfl (hb hby d25_10) rfl rfl (XS.iloadN A180.here hx rfl (hb hby d25_11) rfl k))))))))) ?_
    have f181 := (Vb1.keep K180 (ninS ne1 nin0))
    refine Run.st (T180.setTop (mkF m 13 #[vA b1, vI 1, vA d1, vI 1, vI 3, vI 1, vI c1] [.int c2])) (A180.ldC hx f181 (j := (1 : Int32)) 1 rfl ⟨(by decide), (by decide)⟩ (v := (.int c2)) rfl (g := (mkF m 12 #[vA b1, vI 1, vA d1, vI 1, vI 3, vI 1, vI c1] [.int 1, (.ref b1)])) rfl rfl (hb hby d25_12)) ?_
    refine Run.st (T180.setTop (mkF m 20 #[vA b1, vI 1, vA d1, vI 1, vI 3, vI 1, vI c2] [.int 255, .int c2])) (fun _ k => XS.istore A180.here hx rfl (hb hby d25_13) rfl (l' := #[vA b1, vI 1, vA d1, vI 1, vI 3, vI 1, vI c2]) rfl (XS.iload A180.here hx rfl (hb hby d25_15) rfl (XS.sipush A180.here hx rfl (hb hby d25_17) k))) ?_
    by_cases c182 : (255 : Int32) < c2
    · refine Run.st (T180.setTop (mkF m 25 #[vA b1, vI 1, vA d1, vI 1, vI 3, vI 1, vI c2] [.int 1])) (fun _ k => XS.icmpNo A180.here hx rfl (hb hby d25_20) rfl (tlt c182).2.2.2 (XS.iload A180.here hx rfl (hb hby d25_23) rfl k)) ?_
      exact A180.leaveN hlk (some (.int (1 : Int32))) (fun q => by rw [hrt] at q; cases q) (by decide) (by decide) (Or.inr ⟨1, by decide, rfl, c182⟩) (fun X hr => retOut X hx (w := (.int (1 : Int32))) (t := .int) hrt rfl (Or.inl ⟨rfl, Or.inl rfl, _, rfl⟩) (hb hby d25_25) hr)
    · refine Run.st (T180.setTop (mkF m 31 #[vA b1, vI 1, vA d1, vI 1, vI 3, vI 1, vI c2] [.int (c2.toInt8.toInt32), .int 1, (.ref d1)])) (fun _ k => XS.icmpYes A180.here hx rfl (pc0 := 20) (pc' := 26) rfl (hb hby d25_20) rfl (flt c182).2.2.2 (by decide) (by decide) (XS.aloadN A180.here hx rfl (hb hby d25_26) rfl rfl (XS.iloadN A180.here hx rfl (hb hby d25_27) rfl (XS.iload A180.here hx rfl (hb hby d25_28) rfl (XS.i2b A180.here hx rfl (hb hby d25_30) rfl k))))) ?_
      obtain ⟨T183, h183, A183, K183, V183, st183⟩ := A180.stB hx V180 (List.mem_of_getElem? (i := 0) rfl) (j := (1 : Int32)) 1 rfl ⟨by decide, by decide⟩ (Nat.le_of_ble_eq_true rfl) (fitsNB _) (g := (mkF m 31 #[vA b1, vI 1, vA d1, vI 1, vI 3, vI 1, vI c2] [.int (c2.toInt8.toInt32), .int 1, (.ref d1)])) rfl rfl (hb hby d25_31)
      refine Run.st (T183.setTop (mkF m 32 #[vA b1, vI 1, vA d1, vI 1, vI 3, vI 1, vI c2] [])) st183 ?_
      refine Run.st (T183.setTop (mkF m 12 #[vA b1, vI 2, vA d1, vI 2, vI 3, vI 2, vI c2] [.int 2, (.ref b1)])) (fun _ k => XS.iinc A183.here hx rfl (hb hby d25_32) rfl (l' := #[vA b1, vI 2, vA d1, vI 1, vI 3, vI 1, vI c2]) rfl (XS.iinc A183.here hx rfl (hb hby d25_35) rfl (l' := #[vA b1, vI 2, vA d1, vI 2, vI 3, vI 1, vI c2]) rfl (XS.iinc A183.here hx rfl (hb hby d25_38) rfl (l' := #[vA b1, vI 2, vA d1, vI 2, vI 3, vI 2, vI c2]) rfl (XS.goto A183.here hx rfl (pc0 := 41) (pc' := 3) rfl (hb hby d25_41) (by decide) (by decide) (XS.iload A183.here hx rfl (hb hby d25_3) rfl (XS.iload A183.here hx rfl (hb hby d25_5) rfl (XS.icmpNo A183.here hx rfl (hb hby d25_7) rfl (by decide) (XS.aloadN A183.here hx rfl (hb hby d25_10) rfl rfl (XS.iloadN A183.here hx rfl (hb hby d25_11) rfl k))))))))) ?_
      have f184 := ((Vb1.keep K180 (ninS ne1 nin0)).keep K183 (ninS ne1 nin0))
      refine Run.st (T183.setTop (mkF m 13 #[vA b1, vI 2, vA d1, vI 2, vI 3, vI 2, vI c2] [.int c3])) (A183.ldC hx f184 (j := (2 : Int32)) 2 rfl ⟨(by decide), (by decide)⟩ (v := (.int c3)) rfl (g := (mkF m 12 #[vA b1, vI 2, vA d1, vI 2, vI 3, vI 2, vI c2] [.int 2, (.ref b1)])) rfl rfl (hb hby d25_12)) ?_
      refine Run.st (T183.setTop (mkF m 20 #[vA b1, vI 2, vA d1, vI 2, vI 3, vI 2, vI c3] [.int 255, .int c3])) (fun _ k => XS.istore A183.here hx rfl (hb hby d25_13) rfl (l' := #[vA b1, vI 2, vA d1, vI 2, vI 3, vI 2, vI c3]) rfl (XS.iload A183.here hx rfl (hb hby d25_15) rfl (XS.sipush A183.here hx rfl (hb hby d25_17) k))) ?_
      by_cases c185 : (255 : Int32) < c3
      · refine Run.st (T183.setTop (mkF m 25 #[vA b1, vI 2, vA d1, vI 2, vI 3, vI 2, vI c3] [.int 2])) (fun _ k => XS.icmpNo A183.here hx rfl (hb hby d25_20) rfl (tlt c185).2.2.2 (XS.iload A183.here hx rfl (hb hby d25_23) rfl k)) ?_
        exact A183.leaveN hlk (some (.int (2 : Int32))) (fun q => by rw [hrt] at q; cases q) (by decide) (by decide) (Or.inr ⟨2, by decide, rfl, c185⟩) (fun X hr => retOut X hx (w := (.int (2 : Int32))) (t := .int) hrt rfl (Or.inl ⟨rfl, Or.inl rfl, _, rfl⟩) (hb hby d25_25) hr)
      · refine Run.st (T183.setTop (mkF m 31 #[vA b1, vI 2, vA d1, vI 2, vI 3, vI 2, vI c3] [.int (c3.toInt8.toInt32), .int 2, (.ref d1)])) (fun _ k => XS.icmpYes A183.here hx rfl (pc0 := 20) (pc' := 26) rfl (hb hby d25_20) rfl (flt c185).2.2.2 (by decide) (by decide) (XS.aloadN A183.here hx rfl (hb hby d25_26) rfl rfl (XS.iloadN A183.here hx rfl (hb hby d25_27) rfl (XS.iload A183.here hx rfl (hb hby d25_28) rfl (XS.i2b A183.here hx rfl (hb hby d25_30) rfl k))))) ?_
        obtain ⟨T186, h186, A186, K186, V186, st186⟩ := A183.stB hx V183 (List.mem_of_getElem? (i := 0) rfl) (j := (2 : Int32)) 2 rfl ⟨by decide, by decide⟩ (Nat.le_of_ble_eq_true rfl) (fitsNB _) (g := (mkF m 31 #[vA b1, vI 2, vA d1, vI 2, vI 3, vI 2, vI c3] [.int (c3.toInt8.toInt32), .int 2, (.ref d1)])) rfl rfl (hb hby d25_31)
        refine Run.st (T186.setTop (mkF m 32 #[vA b1, vI 2, vA d1, vI 2, vI 3, vI 2, vI c3] [])) st186 ?_
        refine Run.st (T186.setTop (mkF m 46 #[vA b1, vI 3, vA d1, vI 3, vI 3, vI 3, vI c3] [.int 3])) (fun _ k => XS.iinc A186.here hx rfl (hb hby d25_32) rfl (l' := #[vA b1, vI 3, vA d1, vI 2, vI 3, vI 2, vI c3]) rfl (XS.iinc A186.here hx rfl (hb hby d25_35) rfl (l' := #[vA b1, vI 3, vA d1, vI 3, vI 3, vI 2, vI c3]) rfl (XS.iinc A186.here hx rfl (hb hby d25_38) rfl (l' := #[vA b1, vI 3, vA d1, vI 3, vI 3, vI 3, vI c3]) rfl (XS.goto A186.here hx rfl (pc0 := 41) (pc' := 3) rfl (hb hby d25_41) (by decide) (by decide) (XS.iload A186.here hx rfl (hb hby d25_3) rfl (XS.iload A186.here hx rfl (hb hby d25_5) rfl (XS.icmpYes A186.here hx rfl (pc0 := 7) (pc' := 44) rfl (hb hby d25_7) rfl (by decide) (by decide) (by decide) (XS.iload A186.here hx rfl (hb hby d25_44) rfl k)))))))) ?_
        exact A186.leaveN hlk (some (.int (3 : Int32))) (fun q => by rw [hrt] at q; cases q) (by decide) (by decide) (Or.inl ⟨rfl, (chsS ⟨r1.1, c179⟩ (chsS ⟨r2.1, c182⟩ (chsS ⟨r3.1, c185⟩ chs0))), V186⟩) (fun X hr => retOut X hx (w := (.int (3 : Int32))) (t := .int) hrt rfl (Or.inl ⟨rfl, Or.inl rfl, _, rfl⟩) (hb hby d25_46) hr)
theorem ef_cmp3_3 (m : MethodId) (y0 : Addr) (y1 : Int32) (y2 : Int32) : entryFrame m #[(.ref y0), (.int y1), (.int y2)] 6 = mkF m 0 #[vA y0, vI y1, vI y2, .unset, .unset, .unset] [] := by first | (simp [entryFrame, mkF, argsToLocals, vI, vA, Value.category, maxLocals]; done) | rfl
def Q_cmp3_3 (Z : State) (b1 : Addr) (kC : ClassId) (c1 : Int32) (c2 : Int32) (c3 : Int32) (h0 : Heap) (v : Option Value) (h : Heap) : Prop := ∃ (t : Addr) (k : ClassId), v = some (.ref t) ∧ Ext h0 h ∧ ((Arv Z h t k .byte (3 : Int32) (lat [c1, c2, c3]) (.int 0) ∧ ∀ c ∈ [c1, c2, c3], ¬ c < 0 ∧ ¬ (255 : Int32) < c) ∨ Arv Z h t k .byte (6 : Int32) (wid [c1, c2, c3]) (.int 0))
def rm_cmp3_3 : Room := { frames := 3, cells := 2, slots := 9, locals := 40 }
set_option maxRecDepth 65536 in
set_option maxHeartbeats 40000000 in
theorem ct_cmp3_3 {l : Launch} {Z : State} {a0 : Array Value} (H : Ev Z a0) (b1 : Addr) (kC : ClassId) (c1 : Int32) (c2 : Int32) (c3 : Int32) {h0 : Heap} {n0 : Nat} (O0 : Old Z n0 h0) (Vb1 : Arv Z h0 b1 kC .char (3 : Int32) [(.int c1), (.int c2), (.int c3)] (.int 0)) (r1 : R16 c1) (r2 : R16 c2) (r3 : R16 c3) : CtrN l Z (⟨"java/lang/StringUTF16", "compress", "([CII)[B"⟩ : MethodName) jdk_52_method_16_code 6 (some (.array .byte)) [] rm_cmp3_3 #[(.ref b1), (.int (0 : Int32)), (.int (3 : Int32))] h0 [] n0 (Q_cmp3_3 Z b1 kC c1 c2 c3 h0) := by
  refine enterN (a0 := a0) (plainFor_of_name pn_4) O0 all0 ?_
  intro p e s m below meth c T0 hx hby hml hrt hnm hlk A0
  replace A0 : Wk false Z a0 [] n0 h0 [] "java/lang/StringUTF16" p l e rm_cmp3_3 s m #[(.ref b1), (.int (0 : Int32)), (.int (3 : Int32))] below meth c [] T0 h0 0 0 := A0
  refine Run.st (T0.setTop (mkF m 0 #[vA b1, vI 0, vI 3, .unset, .unset, .unset] [])) (fun _ k => castTop (ef_cmp3_3 m b1 (0 : Int32) (3 : Int32)) k) ?_
  refine Run.st (T0.setTop (mkF m 1 #[vA b1, vI 0, vI 3, .unset, .unset, .unset] [.int 3])) (fun _ k => XS.iloadN A0.here hx rfl (hb hby d26_0) rfl k) ?_
  obtain ⟨a187, T187, h187, kA187, A187, E187, g187, V187, st187⟩ := A0.newP hx (aty := .byte) (N := (3 : Int32)) (tw21 H.1) (g := (mkF m 1 #[vA b1, vI 0, vI 3, .unset, .unset, .unset] [.int 3])) rfl (hb hby d26_1) rfl (by decide) (cap := 3) (by decide) (by decide) (by decide) (by decide)
  refine Run.st (T187.setTop (mkF m 3 #[vA b1, vI 0, vI 3, .unset, .unset, .unset] [(.ref a187)])) st187 ?_
  refine Run.st (T187.setTop (mkF m 9 #[vA b1, vI 0, vI 3, vA a187, .unset, .unset] [.int 3, .int 0, (.ref a187), .int 0, (.ref b1)])) (fun _ k => XS.astoreN A187.here hx rfl (hb hby d26_3) rfl rfl (l' := #[vA b1, vI 0, vI 3, vA a187, .unset, .unset]) rfl (XS.aloadN A187.here hx rfl (hb hby d26_4) rfl rfl (XS.iloadN A187.here hx rfl (hb hby d26_5) rfl (XS.aloadN A187.here hx rfl (hb hby d26_6) rfl rfl (XS.iconst A187.here hx rfl (hb hby d26_7) (XS.iloadN A187.here hx rfl (hb hby d26_8) rfl k)))))) ?_
  have X189 : Ext h0 h187 := E187
  have f190 := Vb1.ext X189
  obtain ⟨v188, T188, h188, AA188, K188, ⟨L188, Q188⟩, st188⟩ := A187.callS hx (tw42 H.1) (tw43 H.1) (tw40 H.1) (tw44 H.1) (by decide) (g := (mkF m 9 #[vA b1, vI 0, vI 3, vA a187, .unset, .unset] [.int 3, .int 0, (.ref a187), .int 0, (.ref b1)])) rfl (by rw [hml]; rfl) [(.ref b1), (.int (0 : Int32)), (.ref a187), (.int (0 : Int32)), (.int (3 : Int32))] [] (lenOf pd_14 rfl) rfl (Wd := 0) (Nat.le_refl _) (hb hby d26_9) (by decide) (by decide) [a187] (fun _ _ _ q => q.2) (allS (List.mem_of_getElem? (i := 0) rfl) all0) (fun vm0 hZ => payN (ct_cmp5_3 H b1 _ a187 _ c1 c2 c3 A187.old f190 (A187.nle (List.mem_of_getElem? (i := 0) rfl)) V187.lt V187 (Nat.ne_of_lt (Nat.lt_of_lt_of_le Vb1.lt (Nat.le_of_eq g187))) r1 r2 r3) (tw44 H.1) (tw40 H.1) (by decide) (by decide) hZ)
  obtain ⟨Q188, N188, -⟩ := Q188
  have hv188 : ∃ z : Int32, v188 = some (.int z) ∧ ((z = (3 : Int32) ∧ (∀ c ∈ [c1, c2, c3], ¬ c < 0 ∧ ¬ (255 : Int32) < c) ∧ Arv Z h188 a187 kA187 .byte (3 : Int32) (lat [c1, c2, c3]) (.int 0)) ∨ ∃ j : Nat, j < 3 ∧ z = Int32.ofNat j ∧ (255 : Int32) < [c1, c2, c3].getD j 0) := by
    rcases Q188 with ⟨e1, e2, e3⟩ | ⟨j, e1, e2, e3⟩
    · exact ⟨_, e1, Or.inl ⟨rfl, e2, e3⟩⟩
    · exact ⟨_, e2, Or.inr ⟨j, e1, rfl, e3⟩⟩
  obtain ⟨z188, rfl, D188⟩ := hv188
  have A188 := AA188 [] all0
  refine Run.st (T188.setTop (mkF m 12 #[vA b1, vI 0, vI 3, vA a187, .unset, .unset] [.int z188])) st188 ?_
  rcases D188 with ⟨e188, l188, L188a⟩ | ⟨j188, hj188, e188, l188⟩
  · subst e188
    refine Run.st (T188.setTop (mkF m 58 #[vA b1, vI 0, vI 3, vA a187, vI 3, .unset] [(.ref a187)])) (fun _ k => XS.istore A188.here hx rfl (hb hby d26_12) rfl (l' := #[vA b1, vI 0, vI 3, vA a187, vI 3, .unset]) rfl (XS.iload A188.here hx rfl (hb hby d26_14) rfl (XS.iloadN A188.here hx rfl (hb hby d26_16) rfl (XS.icmpYes A188.here hx rfl (pc0 := 17) (pc' := 57) rfl (hb hby d26_17) rfl (by decide) (by decide) (by decide) (XS.aloadN A188.here hx rfl (hb hby d26_57) rfl rfl k))))) ?_
    exact A188.leaveN hlk (some (.ref a187)) (fun q => by rw [hrt] at q; cases q) (by decide) (by decide) ⟨_, _, rfl, keepE A188.keep, Or.inl ⟨L188a, l188⟩⟩ (fun X hr => retOut X hx (w := (.ref a187)) (t := (.array .byte)) hrt rfl (Or.inr (Or.inr (Or.inr (Or.inr ⟨rfl, rfl, rfl⟩)))) (hb hby d26_58) hr)
  · subst e188
    refine Run.st (T188.setTop (mkF m 23 #[vA b1, vI 0, vI 3, vA a187, vI (Int32.ofNat j188), .unset] [.int 3, .int 0, (.ref b1)])) (fun _ k => XS.istore A188.here hx rfl (hb hby d26_12) rfl (l' := #[vA b1, vI 0, vI 3, vA a187, vI (Int32.ofNat j188), .unset]) rfl (XS.iload A188.here hx rfl (hb hby d26_14) rfl (XS.iloadN A188.here hx rfl (hb hby d26_16) rfl (XS.icmpNo A188.here hx rfl (hb hby d26_17) rfl (feq (n_ne (n := 3) hj188 (by decide))).1 (XS.aloadN A188.here hx rfl (hb hby d26_20) rfl rfl (XS.iloadN A188.here hx rfl (hb hby d26_21) rfl (XS.iloadN A188.here hx rfl (hb hby d26_22) rfl k))))))) ?_
    have X192 : Ext h0 h188 := extK X189 K188 (allS (Nat.le_of_eq g187) all0)
    have f193 := Vb1.ext X192
    obtain ⟨v191, T191, h191, AA191, K191, ⟨L191, Q191⟩, st191⟩ := A188.callS hx (tw112 H.1) (tw113 H.1) (tw40 H.1) (tw114 H.1) (by decide) (g := (mkF m 23 #[vA b1, vI 0, vI 3, vA a187, vI (Int32.ofNat j188), .unset] [.int 3, .int 0, (.ref b1)])) rfl (by rw [hml]; rfl) [(.ref b1), (.int (0 : Int32)), (.int (3 : Int32))] [] (lenOf pd_15 rfl) rfl (Wd := 0) (Nat.le_refl _) (hb hby d26_23) (by decide) (by decide) [] (fun _ _ _ q => q.2) all0 (fun vm0 hZ => payN (ct_toB3 H b1 _ c1 c2 c3 A188.old f193) (tw114 H.1) (tw40 H.1) (by decide) (by decide) hZ)
    obtain ⟨Q191, N191, -⟩ := Q191
    obtain ⟨t191, kt191, rfl, X191, Vt191⟩ := Q191
    have A191 := AA191 [] all0
    refine Run.st (T191.setTop (mkF m 26 #[vA b1, vI 0, vI 3, vA a187, vI (Int32.ofNat j188), .unset] [(.ref t191)])) st191 ?_
    refine Run.st (T191.setTop (mkF m 32 #[vA b1, vI 0, vI 3, vA a187, vI (Int32.ofNat j188), vA t191] [.int (Int32.ofNat j188), (.ref t191)])) (fun _ k => XS.astore A191.here hx rfl (hb hby d26_26) rfl rfl (l' := #[vA b1, vI 0, vI 3, vA a187, vI (Int32.ofNat j188), vA t191]) rfl (XS.aload A191.here hx rfl (hb hby d26_28) rfl rfl (XS.iload A191.here hx rfl (hb hby d26_30) rfl k))) ?_
    obtain ⟨v194, T194, h194, AA194, K194, ⟨L194, Q194⟩, st194⟩ := A191.callS hx (tw128 H.1) (tw129 H.1) (tw40 H.1) (tw130 H.1) (by decide) (g := (mkF m 32 #[vA b1, vI 0, vI 3, vA a187, vI (Int32.ofNat j188), vA t191] [.int (Int32.ofNat j188), (.ref t191)])) rfl (by rw [hml]; rfl) [(.ref t191), (.int (Int32.ofNat j188))] [] (lenOf pd_10 rfl) rfl (Wd := 0) (Nat.le_refl _) (hb hby d26_32) (by decide) (by decide) [] (fun _ _ _ q => q.2) all0 (fun vm0 hZ => payN (ct_getc H t191 _ [c1, c2, c3] j188 A191.old Vt191 (show j188 < ([c1, c2, c3] : List Int32).length from hj188) (Nat.le_of_ble_eq_true rfl) (chsS r1 (chsS r2 (chsS r3 chs0)))) (tw130 H.1) (tw40 H.1) (by decide) (by decide) hZ)
    obtain ⟨Q194, N194, -⟩ := Q194
    obtain ⟨rfl, q194⟩ := Q194
    have q194 := q194.symm
    subst q194
    have A194 := AA194 [] all0
    refine Run.st (T194.setTop (mkF m 35 #[vA b1, vI 0, vI 3, vA a187, vI (Int32.ofNat j188), vA t191] [.int ([c1, c2, c3].getD j188 0)])) st194 ?_
    refine Run.st (T194.setTop (mkF m 56 #[vA b1, vI 0, vI 3, vA a187, vI (Int32.ofNat j188), vA t191] [(.ref t191)])) (fun _ k => XS.sipush A194.here hx rfl (hb hby d26_35) (XS.icmpYes A194.here hx rfl (pc0 := 38) (pc' := 54) rfl (hb hby d26_38) rfl (tlt l188).2.2.1 (by decide) (by decide) (XS.aload A194.here hx rfl (hb hby d26_54) rfl rfl k))) ?_
    exact A194.leaveN hlk (some (.ref t191)) (fun q => by rw [hrt] at q; cases q) (by decide) (by decide) ⟨_, _, rfl, keepE A194.keep, Or.inr Vt191⟩ (fun X hr => retOut X hx (w := (.ref t191)) (t := (.array .byte)) hrt rfl (Or.inr (Or.inr (Or.inr (Or.inr ⟨rfl, rfl, rfl⟩)))) (hb hby d26_56) hr)
theorem ef_cfl3_0 (m : MethodId) (y0 : Addr) (y1 : Int32) : entryFrame m #[(.ref y0), (.int y1)] 2 = mkF m 0 #[vA y0, vI y1] [] := by first | (simp [entryFrame, mkF, argsToLocals, vI, vA, Value.category, maxLocals]; done) | rfl
def Q_cfl3_0 (Z : State) (t1 : Addr) (k1 : ClassId) (vs : List Value) (h0 : Heap) (v : Option Value) (h : Heap) : Prop := v = some (.int 0) ∧ h = h0
def rm_cfl3_0 : Room := { frames := 0, cells := 0, slots := 0, locals := 0 }
set_option maxRecDepth 65536 in
set_option maxHeartbeats 40000000 in
theorem ct_cfl3_0 {l : Launch} {Z : State} {a0 : Array Value} (H : Ev Z a0) (t1 : Addr) (k1 : ClassId) (vs : List Value) {h0 : Heap} {n0 : Nat} (O0 : Old Z n0 h0) (V1 : Arv Z h0 t1 k1 .byte (3 : Int32) vs (.int 0)) : CtrN l Z (⟨"java/lang/StringUTF16", "coderFromArrayLen", "([BI)B"⟩ : MethodName) jdk_52_method_15_code 2 (some .byte) [] rm_cfl3_0 #[(.ref t1), (.int (3 : Int32))] h0 [] n0 (Q_cfl3_0 Z t1 k1 vs h0) := by
  refine enterN (a0 := a0) (plainFor_of_name pn_4) O0 all0 ?_
  intro p e s m below meth c T0 hx hby hml hrt hnm hlk A0
  replace A0 : Wk false Z a0 [] n0 h0 [] "java/lang/StringUTF16" p l e rm_cfl3_0 s m #[(.ref t1), (.int (3 : Int32))] below meth c [] T0 h0 0 0 := A0
  refine Run.st (T0.setTop (mkF m 0 #[vA t1, vI 3] [])) (fun _ k => castTop (ef_cfl3_0 m t1 (3 : Int32)) k) ?_
  refine Run.st (T0.setTop (mkF m 2 #[vA t1, vI 3] [(.ref t1), .int 3])) (fun _ k => XS.iloadN A0.here hx rfl (hb hby d27_0) rfl (XS.aloadN A0.here hx rfl (hb hby d27_1) rfl rfl k)) ?_
  refine Run.st (T0.setTop (mkF m 3 #[vA t1, vI 3] [.int 3, .int 3])) (A0.alen hx V1 (g := (mkF m 2 #[vA t1, vI 3] [(.ref t1), .int 3])) rfl rfl (hb hby d27_2)) ?_
  refine Run.st (T0.setTop (mkF m 8 #[vA t1, vI 3] [.int ((XT.ushr (0 : Int32) (31 : Int32)).toInt8.toInt32)])) (fun _ k => XS.isub A0.here hx rfl (hb hby d27_3) rfl (XS.bipush A0.here hx rfl (hb hby d27_4) (XT.iushr A0.here hx rfl (hb hby d27_6) rfl (XS.i2b A0.here hx rfl (hb hby d27_7) rfl k)))) ?_
  exact A0.leaveN hlk (some (.int (nar .byte ((XT.ushr (0 : Int32) (31 : Int32)).toInt8.toInt32)))) (fun q => by rw [hrt] at q; cases q) (by decide) (by decide) ⟨congrArg some (congrArg Value.int (by decide)), rfl⟩ (fun X hr => retN X hx (t := .byte) hrt (by simp) (hb hby d27_8) hr)
theorem ef_cfl3_1 (m : MethodId) (y0 : Addr) (y1 : Int32) : entryFrame m #[(.ref y0), (.int y1)] 2 = mkF m 0 #[vA y0, vI y1] [] := by first | (simp [entryFrame, mkF, argsToLocals, vI, vA, Value.category, maxLocals]; done) | rfl
def Q_cfl3_1 (Z : State) (t1 : Addr) (k1 : ClassId) (vs : List Value) (h0 : Heap) (v : Option Value) (h : Heap) : Prop := v = some (.int 1) ∧ h = h0
def rm_cfl3_1 : Room := { frames := 0, cells := 0, slots := 0, locals := 0 }
set_option maxRecDepth 65536 in
set_option maxHeartbeats 40000000 in
theorem ct_cfl3_1 {l : Launch} {Z : State} {a0 : Array Value} (H : Ev Z a0) (t1 : Addr) (k1 : ClassId) (vs : List Value) {h0 : Heap} {n0 : Nat} (O0 : Old Z n0 h0) (V1 : Arv Z h0 t1 k1 .byte (6 : Int32) vs (.int 0)) : CtrN l Z (⟨"java/lang/StringUTF16", "coderFromArrayLen", "([BI)B"⟩ : MethodName) jdk_52_method_15_code 2 (some .byte) [] rm_cfl3_1 #[(.ref t1), (.int (3 : Int32))] h0 [] n0 (Q_cfl3_1 Z t1 k1 vs h0) := by
  refine enterN (a0 := a0) (plainFor_of_name pn_4) O0 all0 ?_
  intro p e s m below meth c T0 hx hby hml hrt hnm hlk A0
  replace A0 : Wk false Z a0 [] n0 h0 [] "java/lang/StringUTF16" p l e rm_cfl3_1 s m #[(.ref t1), (.int (3 : Int32))] below meth c [] T0 h0 0 0 := A0
  refine Run.st (T0.setTop (mkF m 0 #[vA t1, vI 3] [])) (fun _ k => castTop (ef_cfl3_1 m t1 (3 : Int32)) k) ?_
  refine Run.st (T0.setTop (mkF m 2 #[vA t1, vI 3] [(.ref t1), .int 3])) (fun _ k => XS.iloadN A0.here hx rfl (hb hby d27_0) rfl (XS.aloadN A0.here hx rfl (hb hby d27_1) rfl rfl k)) ?_
  refine Run.st (T0.setTop (mkF m 3 #[vA t1, vI 3] [.int 6, .int 3])) (A0.alen hx V1 (g := (mkF m 2 #[vA t1, vI 3] [(.ref t1), .int 3])) rfl rfl (hb hby d27_2)) ?_
  refine Run.st (T0.setTop (mkF m 8 #[vA t1, vI 3] [.int ((XT.ushr (-3 : Int32) (31 : Int32)).toInt8.toInt32)])) (fun _ k => XS.isub A0.here hx rfl (hb hby d27_3) rfl (XS.bipush A0.here hx rfl (hb hby d27_4) (XT.iushr A0.here hx rfl (hb hby d27_6) rfl (XS.i2b A0.here hx rfl (hb hby d27_7) rfl k)))) ?_
  exact A0.leaveN hlk (some (.int (nar .byte ((XT.ushr (-3 : Int32) (31 : Int32)).toInt8.toInt32)))) (fun q => by rw [hrt] at q; cases q) (by decide) (by decide) ⟨congrArg some (congrArg Value.int (by decide)), rfl⟩ (fun X hr => retN X hx (t := .byte) hrt (by simp) (hb hby d27_8) hr)
theorem ef_toB4 (m : MethodId) (y0 : Addr) (y1 : Int32) (y2 : Int32) : entryFrame m #[(.ref y0), (.int y1), (.int y2)] 5 = mkF m 0 #[vA y0, vI y1, vI y2, .unset, .unset] [] := by first | (simp [entryFrame, mkF, argsToLocals, vI, vA, Value.category, maxLocals]; done) | rfl
def Q_toB4 (Z : State) (b1 : Addr) (kC : ClassId) (c1 : Int32) (c2 : Int32) (c3 : Int32) (c4 : Int32) (h0 : Heap) (v : Option Value) (h : Heap) : Prop := ∃ (t : Addr) (k : ClassId), v = some (.ref t) ∧ Ext h0 h ∧ Arv Z h t k .byte (8 : Int32) (wid [c1, c2, c3, c4]) (.int 0)
def rm_toB4 : Room := { frames := 2, cells := 1, slots := 8, locals := 24 }
set_option maxRecDepth 65536 in
set_option maxHeartbeats 40000000 in
theorem ct_toB4 {l : Launch} {Z : State} {a0 : Array Value} (H : Ev Z a0) (b1 : Addr) (kC : ClassId) (c1 : Int32) (c2 : Int32) (c3 : Int32) (c4 : Int32) {h0 : Heap} {n0 : Nat} (O0 : Old Z n0 h0) (Vb1 : Arv Z h0 b1 kC .char (4 : Int32) [(.int c1), (.int c2), (.int c3), (.int c4)] (.int 0)) : CtrN l Z (⟨"java/lang/StringUTF16", "toBytes", "([CII)[B"⟩ : MethodName) jdk_52_method_14_code 5 (some (.array .byte)) [] rm_toB4 #[(.ref b1), (.int (0 : Int32)), (.int (4 : Int32))] h0 [] n0 (Q_toB4 Z b1 kC c1 c2 c3 c4 h0) := by
  refine enterN (a0 := a0) (plainFor_of_name pn_4) O0 all0 ?_
  intro p e s m below meth c T0 hx hby hml hrt hnm hlk A0
  replace A0 : Wk false Z a0 [] n0 h0 [] "java/lang/StringUTF16" p l e rm_toB4 s m #[(.ref b1), (.int (0 : Int32)), (.int (4 : Int32))] below meth c [] T0 h0 0 0 := A0
  refine Run.st (T0.setTop (mkF m 0 #[vA b1, vI 0, vI 4, .unset, .unset] [])) (fun _ k => castTop (ef_toB4 m b1 (0 : Int32) (4 : Int32)) k) ?_
  refine Run.st (T0.setTop (mkF m 1 #[vA b1, vI 0, vI 4, .unset, .unset] [.int 4])) (fun _ k => XS.iloadN A0.here hx rfl (hb hby d24_0) rfl k) ?_
  obtain ⟨v195, T195, h195, AA195, K195, ⟨L195, Q195⟩, st195⟩ := A0.callS hx (tw115 H.1) (tw116 H.1) (tw40 H.1) (tw117 H.1) (by decide) (g := (mkF m 1 #[vA b1, vI 0, vI 4, .unset, .unset] [.int 4])) rfl (by rw [hml]; rfl) [(.int (4 : Int32))] [] (lenOf pd_12 rfl) rfl (Wd := 0) (Nat.le_refl _) (hb hby d24_1) (by decide) (by decide) [] (fun _ _ _ q => q.2) all0 (fun vm0 hZ => payN (ct_nbf4 H A0.old) (tw117 H.1) (tw40 H.1) (by decide) (by decide) hZ)
  obtain ⟨Q195, N195, -⟩ := Q195
  obtain ⟨t195, kt195, rfl, hf195, X195, Vt195⟩ := Q195
  have A195 := AA195 [t195] (allS (Or.inr hf195) all0)
  refine Run.st (T195.setTop (mkF m 4 #[vA b1, vI 0, vI 4, .unset, .unset] [(.ref t195)])) st195 ?_
  refine Run.st (T195.setTop (mkF m 18 #[vA b1, vI 0, vI 4, vA t195, vI 0] [(.ref b1), .int 0, (.ref t195)])) (fun _ k => XS.astoreN A195.here hx rfl (hb hby d24_4) rfl rfl (l' := #[vA b1, vI 0, vI 4, vA t195, .unset]) rfl (XS.iconst A195.here hx rfl (hb hby d24_5) (XS.istore A195.here hx rfl (hb hby d24_6) rfl (l' := #[vA b1, vI 0, vI 4, vA t195, vI 0]) rfl (XS.iload A195.here hx rfl (hb hby d24_8) rfl (XS.iloadN A195.here hx rfl (hb hby d24_10) rfl (XS.icmpNo A195.here hx rfl (hb hby d24_11) rfl (by decide) (XS.aloadN A195.here hx rfl (hb hby d24_14) rfl rfl (XS.iload A195.here hx rfl (hb hby d24_15) rfl (XS.aloadN A195.here hx rfl (hb hby d24_17) rfl rfl k))))))))) ?_
  refine Run.st (T195.setTop (mkF m 19 #[vA b1, vI 0, vI 4, vA t195, vI 0] [.int 0, (.ref b1), .int 0, (.ref t195)])) (fun _ k => XS.iloadN A195.here hx rfl (hb hby d24_18) rfl k) ?_
  have X196 : Ext h0 h195 := X195
  have f197 := Vb1.ext X196
  refine Run.st (T195.setTop (mkF m 20 #[vA b1, vI 0, vI 4, vA t195, vI 0] [.int c1, .int 0, (.ref t195)])) (A195.ldC hx f197 (j := (0 : Int32)) 0 rfl ⟨(by decide), (by decide)⟩ (v := (.int c1)) rfl (g := (mkF m 19 #[vA b1, vI 0, vI 4, vA t195, vI 0] [.int 0, (.ref b1), .int 0, (.ref t195)])) rfl rfl (hb hby d24_19)) ?_
  obtain ⟨v198, T198, h198, AA198, K198, ⟨L198, Q198⟩, st198⟩ := A195.callS hx (tw122 H.1) (tw123 H.1) (tw40 H.1) (tw124 H.1) (by decide) (g := (mkF m 20 #[vA b1, vI 0, vI 4, vA t195, vI 0] [.int c1, .int 0, (.ref t195)])) rfl (by rw [hml]; rfl) [(.ref t195), (.int (0 : Int32)), (.int c1)] [] (lenOf pd_13 rfl) rfl (Wd := 0) (Nat.le_refl _) (hb hby d24_20) (by decide) (by decide) [t195] (fun _ _ _ q => q.2) (allS (List.mem_of_getElem? (i := 0) rfl) all0) (fun vm0 hZ => payN (ct_put0 H t195 _ _ [(.int (0 : Int32)), (.int (0 : Int32)), (.int (0 : Int32)), (.int (0 : Int32)), (.int (0 : Int32)), (.int (0 : Int32)), (.int (0 : Int32)), (.int (0 : Int32))] c1 A195.old (A195.nle (List.mem_of_getElem? (i := 0) rfl)) Vt195.lt Vt195 (by decide) (by decide) (Nat.le_of_ble_eq_true rfl)) (tw124 H.1) (tw40 H.1) (by decide) (by decide) hZ)
  obtain ⟨Q198, N198, -⟩ := Q198
  obtain ⟨rfl, V198⟩ := Q198
  replace V198 : Arv Z h198 t195 kt195 .byte (8 : Int32) [(lo8 c1), (hi8 c1), (.int (0 : Int32)), (.int (0 : Int32)), (.int (0 : Int32)), (.int (0 : Int32)), (.int (0 : Int32)), (.int (0 : Int32))] (.int 0) := V198
  have A198 := AA198 [] all0
  refine Run.st (T198.setTop (mkF m 23 #[vA b1, vI 0, vI 4, vA t195, vI 0] [])) st198 ?_
  refine Run.st (T198.setTop (mkF m 18 #[vA b1, vI 1, vI 4, vA t195, vI 1] [(.ref b1), .int 1, (.ref t195)])) (fun _ k => XS.iinc A198.here hx rfl (hb hby d24_23) rfl (l' := #[vA b1, vI 1, vI 4, vA t195, vI 0]) rfl (XS.iinc A198.here hx rfl (hb hby d24_26) rfl (l' := #[vA b1, vI 1, vI 4, vA t195, vI 1]) rfl (XS.goto A198.here hx rfl (pc0 := 29) (pc' := 8) rfl (hb hby d24_29) (by decide) (by decide) (XS.iload A198.here hx rfl (hb hby d24_8) rfl (XS.iloadN A198.here hx rfl (hb hby d24_10) rfl (XS.icmpNo A198.here hx rfl (hb hby d24_11) rfl (by decide) (XS.aloadN A198.here hx rfl (hb hby d24_14) rfl rfl (XS.iload A198.here hx rfl (hb hby d24_15) rfl (XS.aloadN A198.here hx rfl (hb hby d24_17) rfl rfl k))))))))) ?_
  refine Run.st (T198.setTop (mkF m 19 #[vA b1, vI 1, vI 4, vA t195, vI 1] [.int 1, (.ref b1), .int 1, (.ref t195)])) (fun _ k => XS.iloadN A198.here hx rfl (hb hby d24_18) rfl k) ?_
  have X199 : Ext h0 h198 := extK X196 K198 (allS hf195.1 all0)
  have f200 := Vb1.ext X199
  refine Run.st (T198.setTop (mkF m 20 #[vA b1, vI 1, vI 4, vA t195, vI 1] [.int c2, .int 1, (.ref t195)])) (A198.ldC hx f200 (j := (1 : Int32)) 1 rfl ⟨(by decide), (by decide)⟩ (v := (.int c2)) rfl (g := (mkF m 19 #[vA b1, vI 1, vI 4, vA t195, vI 1] [.int 1, (.ref b1), .int 1, (.ref t195)])) rfl rfl (hb hby d24_19)) ?_
  obtain ⟨v201, T201, h201, AA201, K201, ⟨L201, Q201⟩, st201⟩ := A198.callS hx (tw122 H.1) (tw123 H.1) (tw40 H.1) (tw124 H.1) (by decide) (g := (mkF m 20 #[vA b1, vI 1, vI 4, vA t195, vI 1] [.int c2, .int 1, (.ref t195)])) rfl (by rw [hml]; rfl) [(.ref t195), (.int (1 : Int32)), (.int c2)] [] (lenOf pd_13 rfl) rfl (Wd := 0) (Nat.le_refl _) (hb hby d24_20) (by decide) (by decide) [t195] (fun _ _ _ q => q.2) (allS (List.mem_of_getElem? (i := 0) rfl) all0) (fun vm0 hZ => payN (ct_put1 H t195 _ _ [(lo8 c1), (hi8 c1), (.int (0 : Int32)), (.int (0 : Int32)), (.int (0 : Int32)), (.int (0 : Int32)), (.int (0 : Int32)), (.int (0 : Int32))] c2 A198.old (A198.nle (List.mem_of_getElem? (i := 0) rfl)) V198.lt V198 (by decide) (by decide) (Nat.le_of_ble_eq_true rfl)) (tw124 H.1) (tw40 H.1) (by decide) (by decide) hZ)
  obtain ⟨Q201, N201, -⟩ := Q201
  obtain ⟨rfl, V201⟩ := Q201
  replace V201 : Arv Z h201 t195 kt195 .byte (8 : Int32) [(lo8 c1), (hi8 c1), (lo8 c2), (hi8 c2), (.int (0 : Int32)), (.int (0 : Int32)), (.int (0 : Int32)), (.int (0 : Int32))] (.int 0) := V201
  have A201 := AA201 [] all0
  refine Run.st (T201.setTop (mkF m 23 #[vA b1, vI 1, vI 4, vA t195, vI 1] [])) st201 ?_
  refine Run.st (T201.setTop (mkF m 18 #[vA b1, vI 2, vI 4, vA t195, vI 2] [(.ref b1), .int 2, (.ref t195)])) (fun _ k => XS.iinc A201.here hx rfl (hb hby d24_23) rfl (l' := #[vA b1, vI 2, vI 4, vA t195, vI 1]) rfl (XS.iinc A201.here hx rfl (hb hby d24_26) rfl (l' := #[vA b1, vI 2, vI 4, vA t195, vI 2]) rfl (XS.goto A201.here hx rfl (pc0 := 29) (pc' := 8) rfl (hb hby d24_29) (by decide) (by decide) (XS.iload A201.here hx rfl (hb hby d24_8) rfl (XS.iloadN A201.here hx rfl (hb hby d24_10) rfl (XS.icmpNo A201.here hx rfl (hb hby d24_11) rfl (by decide) (XS.aloadN A201.here hx rfl (hb hby d24_14) rfl rfl (XS.iload A201.here hx rfl (hb hby d24_15) rfl (XS.aloadN A201.here hx rfl (hb hby d24_17) rfl rfl k))))))))) ?_
  refine Run.st (T201.setTop (mkF m 19 #[vA b1, vI 2, vI 4, vA t195, vI 2] [.int 2, (.ref b1), .int 2, (.ref t195)])) (fun _ k => XS.iloadN A201.here hx rfl (hb hby d24_18) rfl k) ?_
  have X202 : Ext h0 h201 := extK X199 K201 (allS hf195.1 all0)
  have f203 := Vb1.ext X202
  refine Run.st (T201.setTop (mkF m 20 #[vA b1, vI 2, vI 4, vA t195, vI 2] [.int c3, .int 2, (.ref t195)])) (A201.ldC hx f203 (j := (2 : Int32)) 2 rfl ⟨(by decide), (by decide)⟩ (v := (.int c3)) rfl (g := (mkF m 19 #[vA b1, vI 2, vI 4, vA t195, vI 2] [.int 2, (.ref b1), .int 2, (.ref t195)])) rfl rfl (hb hby d24_19)) ?_
  obtain ⟨v204, T204, h204, AA204, K204, ⟨L204, Q204⟩, st204⟩ := A201.callS hx (tw122 H.1) (tw123 H.1) (tw40 H.1) (tw124 H.1) (by decide) (g := (mkF m 20 #[vA b1, vI 2, vI 4, vA t195, vI 2] [.int c3, .int 2, (.ref t195)])) rfl (by rw [hml]; rfl) [(.ref t195), (.int (2 : Int32)), (.int c3)] [] (lenOf pd_13 rfl) rfl (Wd := 0) (Nat.le_refl _) (hb hby d24_20) (by decide) (by decide) [t195] (fun _ _ _ q => q.2) (allS (List.mem_of_getElem? (i := 0) rfl) all0) (fun vm0 hZ => payN (ct_put2 H t195 _ _ [(lo8 c1), (hi8 c1), (lo8 c2), (hi8 c2), (.int (0 : Int32)), (.int (0 : Int32)), (.int (0 : Int32)), (.int (0 : Int32))] c3 A201.old (A201.nle (List.mem_of_getElem? (i := 0) rfl)) V201.lt V201 (by decide) (by decide) (Nat.le_of_ble_eq_true rfl)) (tw124 H.1) (tw40 H.1) (by decide) (by decide) hZ)
  obtain ⟨Q204, N204, -⟩ := Q204
  obtain ⟨rfl, V204⟩ := Q204
  replace V204 : Arv Z h204 t195 kt195 .byte (8 : Int32) [(lo8 c1), (hi8 c1), (lo8 c2), (hi8 c2), (lo8 c3), (hi8 c3), (.int (0 : Int32)), (.int (0 : Int32))] (.int 0) := V204
  have A204 := AA204 [] all0
  refine Run.st (T204.setTop (mkF m 23 #[vA b1, vI 2, vI 4, vA t195, vI 2] [])) st204 ?_
  refine Run.st (T204.setTop (mkF m 18 #[vA b1, vI 3, vI 4, vA t195, vI 3] [(.ref b1), .int 3, (.ref t195)])) (fun _ k => XS.iinc A204.here hx rfl (hb hby d24_23) rfl (l' := #[vA b1, vI 3, vI 4, vA t195, vI 2]) rfl (XS.iinc A204.here hx rfl (hb hby d24_26) rfl (l' := #[vA b1, vI 3, vI 4, vA t195, vI 3]) rfl (XS.goto A204.here hx rfl (pc0 := 29) (pc' := 8) rfl (hb hby d24_29) (by decide) (by decide) (XS.iload A204.here hx rfl (hb hby d24_8) rfl (XS.iloadN A204.here hx rfl (hb hby d24_10) rfl (XS.icmpNo A204.here hx rfl (hb hby d24_11) rfl (by decide) (XS.aloadN A204.here hx rfl (hb hby d24_14) rfl rfl (XS.iload A204.here hx rfl (hb hby d24_15) rfl (XS.aloadN A204.here hx rfl (hb hby d24_17) rfl rfl k))))))))) ?_
  refine Run.st (T204.setTop (mkF m 19 #[vA b1, vI 3, vI 4, vA t195, vI 3] [.int 3, (.ref b1), .int 3, (.ref t195)])) (fun _ k => XS.iloadN A204.here hx rfl (hb hby d24_18) rfl k) ?_
  have X205 : Ext h0 h204 := extK X202 K204 (allS hf195.1 all0)
  have f206 := Vb1.ext X205
  refine Run.st (T204.setTop (mkF m 20 #[vA b1, vI 3, vI 4, vA t195, vI 3] [.int c4, .int 3, (.ref t195)])) (A204.ldC hx f206 (j := (3 : Int32)) 3 rfl ⟨(by decide), (by decide)⟩ (v := (.int c4)) rfl (g := (mkF m 19 #[vA b1, vI 3, vI 4, vA t195, vI 3] [.int 3, (.ref b1), .int 3, (.ref t195)])) rfl rfl (hb hby d24_19)) ?_
  obtain ⟨v207, T207, h207, AA207, K207, ⟨L207, Q207⟩, st207⟩ := A204.callS hx (tw122 H.1) (tw123 H.1) (tw40 H.1) (tw124 H.1) (by decide) (g := (mkF m 20 #[vA b1, vI 3, vI 4, vA t195, vI 3] [.int c4, .int 3, (.ref t195)])) rfl (by rw [hml]; rfl) [(.ref t195), (.int (3 : Int32)), (.int c4)] [] (lenOf pd_13 rfl) rfl (Wd := 0) (Nat.le_refl _) (hb hby d24_20) (by decide) (by decide) [t195] (fun _ _ _ q => q.2) (allS (List.mem_of_getElem? (i := 0) rfl) all0) (fun vm0 hZ => payN (ct_put3 H t195 _ _ [(lo8 c1), (hi8 c1), (lo8 c2), (hi8 c2), (lo8 c3), (hi8 c3), (.int (0 : Int32)), (.int (0 : Int32))] c4 A204.old (A204.nle (List.mem_of_getElem? (i := 0) rfl)) V204.lt V204 (by decide) (by decide) (Nat.le_of_ble_eq_true rfl)) (tw124 H.1) (tw40 H.1) (by decide) (by decide) hZ)
  obtain ⟨Q207, N207, -⟩ := Q207
  obtain ⟨rfl, V207⟩ := Q207
  replace V207 : Arv Z h207 t195 kt195 .byte (8 : Int32) [(lo8 c1), (hi8 c1), (lo8 c2), (hi8 c2), (lo8 c3), (hi8 c3), (lo8 c4), (hi8 c4)] (.int 0) := V207
  have A207 := AA207 [] all0
  refine Run.st (T207.setTop (mkF m 23 #[vA b1, vI 3, vI 4, vA t195, vI 3] [])) st207 ?_
  refine Run.st (T207.setTop (mkF m 33 #[vA b1, vI 4, vI 4, vA t195, vI 4] [(.ref t195)])) (fun _ k => XS.iinc A207.here hx rfl (hb hby d24_23) rfl (l' := #[vA b1, vI 4, vI 4, vA t195, vI 3]) rfl (XS.iinc A207.here hx rfl (hb hby d24_26) rfl (l' := #[vA b1, vI 4, vI 4, vA t195, vI 4]) rfl (XS.goto A207.here hx rfl (pc0 := 29) (pc' := 8) rfl (hb hby d24_29) (by decide) (by decide) (XS.iload A207.here hx rfl (hb hby d24_8) rfl (XS.iloadN A207.here hx rfl (hb hby d24_10) rfl (XS.icmpYes A207.here hx rfl (pc0 := 11) (pc' := 32) rfl (hb hby d24_11) rfl (by decide) (by decide) (by decide) (XS.aloadN A207.here hx rfl (hb hby d24_32) rfl rfl k))))))) ?_
  exact A207.leaveN hlk (some (.ref t195)) (fun q => by rw [hrt] at q; cases q) (by decide) (by decide) ⟨_, _, rfl, keepE A207.keep, V207⟩ (fun X hr => retOut X hx (w := (.ref t195)) (t := (.array .byte)) hrt rfl (Or.inr (Or.inr (Or.inr (Or.inr ⟨rfl, rfl, rfl⟩)))) (hb hby d24_33) hr)
theorem ef_cmp5_4 (m : MethodId) (y0 : Addr) (y1 : Int32) (y2 : Addr) (y3 : Int32) (y4 : Int32) : entryFrame m #[(.ref y0), (.int y1), (.ref y2), (.int y3), (.int y4)] 7 = mkF m 0 #[vA y0, vI y1, vA y2, vI y3, vI y4, .unset, .unset] [] := by first | (simp [entryFrame, mkF, argsToLocals, vI, vA, Value.category, maxLocals]; done) | rfl
def Q_cmp5_4 (Z : State) (b1 : Addr) (kC : ClassId) (d1 : Addr) (kD : ClassId) (c1 : Int32) (c2 : Int32) (c3 : Int32) (c4 : Int32) (h0 : Heap) (v : Option Value) (h : Heap) : Prop := (v = some (.int (4 : Int32)) ∧ (∀ c ∈ [c1, c2, c3, c4], ¬ c < 0 ∧ ¬ (255 : Int32) < c) ∧ Arv Z h d1 kD .byte (4 : Int32) (lat [c1, c2, c3, c4]) (.int 0)) ∨ ∃ j : Nat, j < 4 ∧ v = some (.int (Int32.ofNat j)) ∧ (255 : Int32) < [c1, c2, c3, c4].getD j 0
def rm_cmp5_4 : Room := { frames := 0, cells := 0, slots := 0, locals := 0 }
set_option maxRecDepth 65536 in
set_option maxHeartbeats 40000000 in
theorem ct_cmp5_4 {l : Launch} {Z : State} {a0 : Array Value} (H : Ev Z a0) (b1 : Addr) (kC : ClassId) (d1 : Addr) (kD : ClassId) (c1 : Int32) (c2 : Int32) (c3 : Int32) (c4 : Int32) {h0 : Heap} {n0 : Nat} (O0 : Old Z n0 h0) (Vb1 : Arv Z h0 b1 kC .char (4 : Int32) [(.int c1), (.int c2), (.int c3), (.int c4)] (.int 0)) (g_d1 : n0 ≤ d1) (z_d1 : d1 < h0.size) (Vd1 : Arv Z h0 d1 kD .byte (4 : Int32) [(.int (0 : Int32)), (.int (0 : Int32)), (.int (0 : Int32)), (.int (0 : Int32))] (.int 0)) (ne1 : b1 ≠ d1) (r1 : R16 c1) (r2 : R16 c2) (r3 : R16 c3) (r4 : R16 c4) : CtrN l Z (⟨"java/lang/StringUTF16", "compress", "([CI[BII)I"⟩ : MethodName) jdk_52_method_21_code 7 (some .int) [] rm_cmp5_4 #[(.ref b1), (.int (0 : Int32)), (.ref d1), (.int (0 : Int32)), (.int (4 : Int32))] h0 [d1] n0 (Q_cmp5_4 Z b1 kC d1 kD c1 c2 c3 c4 h0) := by
  refine enterN (a0 := a0) (plainFor_of_name pn_4) O0 (allS ⟨g_d1, z_d1⟩ all0) ?_
  intro p e s m below meth c T0 hx hby hml hrt hnm hlk A0
  replace A0 : Wk false Z a0 [] n0 h0 [d1] "java/lang/StringUTF16" p l e rm_cmp5_4 s m #[(.ref b1), (.int (0 : Int32)), (.ref d1), (.int (0 : Int32)), (.int (4 : Int32))] below meth c [d1] T0 h0 0 0 := A0
  refine Run.st (T0.setTop (mkF m 0 #[vA b1, vI 0, vA d1, vI 0, vI 4, .unset, .unset] [])) (fun _ k => castTop (ef_cmp5_4 m b1 (0 : Int32) d1 (0 : Int32) (4 : Int32)) k) ?_
  refine Run.st (T0.setTop (mkF m 12 #[vA b1, vI 0, vA d1, vI 0, vI 4, vI 0, .unset] [.int 0, (.ref b1)])) (fun _ k => XS.iconst A0.here hx rfl (hb hby d25_0) (XS.istore A0.here hx rfl (hb hby d25_1) rfl (l' := #[vA b1, vI 0, vA d1, vI 0, vI 4, vI 0, .unset]) rfl (XS.iload A0.here hx rfl (hb hby d25_3) rfl (XS.iload A0.here hx rfl (hb hby d25_5) rfl (XS.icmpNo A0.here hx rfl (hb hby d25_7) rfl (by decide) (XS.aloadN A0.here hx rfl (hb hby d25_10) rfl rfl (XS.iloadN A0.here hx rfl (hb hby d25_11) rfl k))))))) ?_
  refine Run.st (T0.setTop (mkF m 13 #[vA b1, vI 0, vA d1, vI 0, vI 4, vI 0, .unset] [.int c1])) (A0.ldC hx Vb1 (j := (0 : Int32)) 0 rfl ⟨(by decide), (by decide)⟩ (v := (.int c1)) rfl (g := (mkF m 12 #[vA b1, vI 0, vA d1, vI 0, vI 4, vI 0, .unset] [.int 0, (.ref b1)])) rfl rfl (hb hby d25_12)) ?_
  refine Run.st (T0.setTop (mkF m 20 #[vA b1, vI 0, vA d1, vI 0, vI 4, vI 0, vI c1] [.int 255, .int c1])) (fun _ k => XS.istore A0.here hx rfl (hb hby d25_13) rfl (l' := #[vA b1, vI 0, vA d1, vI 0, vI 4, vI 0, vI c1]) rfl (XS.iload A0.here hx rfl (hb hby d25_15) rfl (XS.sipush A0.here hx rfl (hb hby d25_17) k))) ?_
  by_cases c208 : (255 : Int32) < c1
  · refine Run.st (T0.setTop (mkF m 25 #[vA b1, vI 0, vA d1, vI 0, vI 4, vI 0, vI c1] [.int 0])) (fun _ k => XS.icmpNo A0.here hx rfl (hb hby d25_20) rfl (tlt c208).2.2.2 (XS.iload A0.here hx rfl (hb hby d25_23) rfl k)) ?_
    exact A0.leaveN hlk (some (.int (0 : Int32))) (fun q => by rw [hrt] at q; cases q) (by decide) (by decide) (Or.inr ⟨0, by decide, rfl, c208⟩) (fun X hr => retOut X hx (w := (.int (0 : Int32))) (t := .int) hrt rfl (Or.inl ⟨rfl, Or.inl rfl, _, rfl⟩) (hb hby d25_25) hr)
  · refine Run.st (T0.setTop (mkF m 31 #[vA b1, vI 0, vA d1, vI 0, vI 4, vI 0, vI c1] [.int (c1.toInt8.toInt32), .int 0, (.ref d1)])) (fun _ k => XS.icmpYes A0.here hx rfl (pc0 := 20) (pc' := 26) rfl (hb hby d25_20) rfl (flt c208).2.2.2 (by decide) (by decide) (XS.aloadN A0.here hx rfl (hb hby d25_26) rfl rfl (XS.iloadN A0.here hx rfl (hb hby d25_27) rfl (XS.iload A0.here hx rfl (hb hby d25_28) rfl (XS.i2b A0.here hx rfl (hb hby d25_30) rfl k))))) ?_
    obtain ⟨T209, h209, A209, K209, V209, st209⟩ := A0.stB hx Vd1 (List.mem_of_getElem? (i := 0) rfl) (j := (0 : Int32)) 0 rfl ⟨by decide, by decide⟩ (Nat.le_of_ble_eq_true rfl) (fitsNB _) (g := (mkF m 31 #[vA b1, vI 0, vA d1, vI 0, vI 4, vI 0, vI c1] [.int (c1.toInt8.toInt32), .int 0, (.ref d1)])) rfl rfl (hb hby d25_31)
    refine Run.st (T209.setTop (mkF m 32 #[vA b1, vI 0, vA d1, vI 0, vI 4, vI 0, vI c1] [])) st209 ?_
    refine Run.st (T209.setTop (mkF m 12 #[vA b1, vI 1, vA d1, vI 1, vI 4, vI 1, vI c1] [.int 1, (.ref b1)])) (fun _ k => XS.iinc A209.here hx rfl (hb hby d25_32) rfl (l' := #[vA b1, vI 1, vA d1, vI 0, vI 4, vI 0, vI c1]) rfl (XS.iinc A209.here hx rfl (hb hby d25_35) rfl (l' := #[vA b1, vI 1, vA d1, vI 1, vI 4, vI 0, vI c1]) rfl (XS.iinc A209.here hx rfl (hb hby d25_38) rfl (l' := #[vA b1, vI 1, vA d1, vI 1, vI 4, vI 1, vI c1]) rfl (XS.goto A209.here hx rfl (pc0 := 41) (pc' := 3) rfl (hb hby d25_41) (by decide) (by decide) (XS.iload A209.here hx rfl (hb hby d25_3) rfl (XS.iload A209.here hx rfl (hb hby d25_5) rfl (XS.icmpNo A209.here hx rfl (hb hby d25_7) rfl (by decide) (XS.aloadN A209.here hx rfl (hb hby d25_10) rfl rfl (XS.iloadN A209.here hx rfl (hb hby d25_11) rfl k))))))))) ?_
    have f210 := (Vb1.keep K209 (ninS ne1 nin0))
    refine Run.st (T209.setTop (mkF m 13 #[vA b1, vI 1, vA d1, vI 1, vI 4, vI 1, vI c1] [.int c2])) (A209.ldC hx f210 (j := (1 : Int32)) 1 rfl ⟨(by decide), (by decide)⟩ (v := (.int c2)) rfl (g := (mkF m 12 #[vA b1, vI 1, vA d1, vI 1, vI 4, vI 1, vI c1] [.int 1, (.ref b1)])) rfl rfl (hb hby d25_12)) ?_
    refine Run.st (T209.setTop (mkF m 20 #[vA b1, vI 1, vA d1, vI 1, vI 4, vI 1, vI c2] [.int 255, .int c2])) (fun _ k => XS.istore A209.here hx rfl (hb hby d25_13) rfl (l' := #[vA b1, vI 1, vA d1, vI 1, vI 4, vI 1, vI c2]) rfl (XS.iload A209.here hx rfl (hb hby d25_15) rfl (XS.sipush A209.here hx rfl (hb hby d25_17) k))) ?_
    by_cases c211 : (255 : Int32) < c2
    · refine Run.st (T209.setTop (mkF m 25 #[vA b1, vI 1, vA d1, vI 1, vI 4, vI 1, vI c2] [.int 1])) (fun _ k => XS.icmpNo A209.here hx rfl (hb hby d25_20) rfl (tlt c211).2.2.2 (XS.iload A209.here hx rfl (hb hby d25_23) rfl k)) ?_
      exact A209.leaveN hlk (some (.int (1 : Int32))) (fun q => by rw [hrt] at q; cases q) (by decide) (by decide) (Or.inr ⟨1, by decide, rfl, c211⟩) (fun X hr => retOut X hx (w := (.int (1 : Int32))) (t := .int) hrt rfl (Or.inl ⟨rfl, Or.inl rfl, _, rfl⟩) (hb hby d25_25) hr)
    · refine Run.st (T209.setTop (mkF m 31 #[vA b1, vI 1, vA d1, vI 1, vI 4, vI 1, vI c2] [.int (c2.toInt8.toInt32), .int 1, (.ref d1)])) (fun _ k => XS.icmpYes A209.here hx rfl (pc0 := 20) (pc' := 26) rfl (hb hby d25_20) rfl (flt c211).2.2.2 (by decide) (by decide) (XS.aloadN A209.here hx rfl (hb hby d25_26) rfl rfl (XS.iloadN A209.here hx rfl (hb hby d25_27) rfl (XS.iload A209.here hx rfl (hb hby d25_28) rfl (XS.i2b A209.here hx rfl (hb hby d25_30) rfl k))))) ?_
      obtain ⟨T212, h212, A212, K212, V212, st212⟩ := A209.stB hx V209 (List.mem_of_getElem? (i := 0) rfl) (j := (1 : Int32)) 1 rfl ⟨by decide, by decide⟩ (Nat.le_of_ble_eq_true rfl) (fitsNB _) (g := (mkF m 31 #[vA b1, vI 1, vA d1, vI 1, vI 4, vI 1, vI c2] [.int (c2.toInt8.toInt32), .int 1, (.ref d1)])) rfl rfl (hb hby d25_31)
      refine Run.st (T212.setTop (mkF m 32 #[vA b1, vI 1, vA d1, vI 1, vI 4, vI 1, vI c2] [])) st212 ?_
      refine Run.st (T212.setTop (mkF m 12 #[vA b1, vI 2, vA d1, vI 2, vI 4, vI 2, vI c2] [.int 2, (.ref b1)])) (fun _ k => XS.iinc A212.here hx rfl (hb hby d25_32) rfl (l' := #[vA b1, vI 2, vA d1, vI 1, vI 4, vI 1, vI c2]) rfl (XS.iinc A212.here hx rfl (hb hby d25_35) rfl (l' := #[vA b1, vI 2, vA d1, vI 2, vI 4, vI 1, vI c2]) rfl (XS.iinc A212.here hx rfl (hb hby d25_38) rfl (l' := #[vA b1, vI 2, vA d1, vI 2, vI 4, vI 2, vI c2]) rfl (XS.goto A212.here hx rfl (pc0 := 41) (pc' := 3) rfl (hb hby d25_41) (by decide) (by decide) (XS.iload A212.here hx rfl (hb hby d25_3) rfl (XS.iload A212.here hx rfl (hb hby d25_5) rfl (XS.icmpNo A212.here hx rfl (hb hby d25_7) rfl (by decide) (XS.aloadN A212.here hx rfl (hb hby d25_10) rfl rfl (XS.iloadN A212.here hx rfl (hb hby d25_11) rfl k))))))))) ?_
      have f213 := ((Vb1.keep K209 (ninS ne1 nin0)).keep K212 (ninS ne1 nin0))
      refine Run.st (T212.setTop (mkF m 13 #[vA b1, vI 2, vA d1, vI 2, vI 4, vI 2, vI c2] [.int c3])) (A212.ldC hx f213 (j := (2 : Int32)) 2 rfl ⟨(by decide), (by decide)⟩ (v := (.int c3)) rfl (g := (mkF m 12 #[vA b1, vI 2, vA d1, vI 2, vI 4, vI 2, vI c2] [.int 2, (.ref b1)])) rfl rfl (hb hby d25_12)) ?_
      refine Run.st (T212.setTop (mkF m 20 #[vA b1, vI 2, vA d1, vI 2, vI 4, vI 2, vI c3] [.int 255, .int c3])) (fun _ k => XS.istore A212.here hx rfl (hb hby d25_13) rfl (l' := #[vA b1, vI 2, vA d1, vI 2, vI 4, vI 2, vI c3]) rfl (XS.iload A212.here hx rfl (hb hby d25_15) rfl (XS.sipush A212.here hx rfl (hb hby d25_17) k))) ?_
      by_cases c214 : (255 : Int32) < c3
      · refine Run.st (T212.setTop (mkF m 25 #[vA b1, vI 2, vA d1, vI 2, vI 4, vI 2, vI c3] [.int 2])) (fun _ k => XS.icmpNo A212.here hx rfl (hb hby d25_20) rfl (tlt c214).2.2.2 (XS.iload A212.here hx rfl (hb hby d25_23) rfl k)) ?_
        exact A212.leaveN hlk (some (.int (2 : Int32))) (fun q => by rw [hrt] at q; cases q) (by decide) (by decide) (Or.inr ⟨2, by decide, rfl, c214⟩) (fun X hr => retOut X hx (w := (.int (2 : Int32))) (t := .int) hrt rfl (Or.inl ⟨rfl, Or.inl rfl, _, rfl⟩) (hb hby d25_25) hr)
      · refine Run.st (T212.setTop (mkF m 31 #[vA b1, vI 2, vA d1, vI 2, vI 4, vI 2, vI c3] [.int (c3.toInt8.toInt32), .int 2, (.ref d1)])) (fun _ k => XS.icmpYes A212.here hx rfl (pc0 := 20) (pc' := 26) rfl (hb hby d25_20) rfl (flt c214).2.2.2 (by decide) (by decide) (XS.aloadN A212.here hx rfl (hb hby d25_26) rfl rfl (XS.iloadN A212.here hx rfl (hb hby d25_27) rfl (XS.iload A212.here hx rfl (hb hby d25_28) rfl (XS.i2b A212.here hx rfl (hb hby d25_30) rfl k))))) ?_
        obtain ⟨T215, h215, A215, K215, V215, st215⟩ := A212.stB hx V212 (List.mem_of_getElem? (i := 0) rfl) (j := (2 : Int32)) 2 rfl ⟨by decide, by decide⟩ (Nat.le_of_ble_eq_true rfl) (fitsNB _) (g := (mkF m 31 #[vA b1, vI 2, vA d1, vI 2, vI 4, vI 2, vI c3] [.int (c3.toInt8.toInt32), .int 2, (.ref d1)])) rfl rfl (hb hby d25_31)
        refine Run.st (T215.setTop (mkF m 32 #[vA b1, vI 2, vA d1, vI 2, vI 4, vI 2, vI c3] [])) st215 ?_
        refine Run.st (T215.setTop (mkF m 12 #[vA b1, vI 3, vA d1, vI 3, vI 4, vI 3, vI c3] [.int 3, (.ref b1)])) (fun _ k => XS.iinc A215.here hx rfl (hb hby d25_32) rfl (l' := #[vA b1, vI 3, vA d1, vI 2, vI 4, vI 2, vI c3]) rfl (XS.iinc A215.here hx rfl (hb hby d25_35) rfl (l' := #[vA b1, vI 3, vA d1, vI 3, vI 4, vI 2, vI c3]) rfl (XS.iinc A215.here hx rfl (hb hby d25_38) rfl (l' := #[vA b1, vI 3, vA d1, vI 3, vI 4, vI 3, vI c3]) rfl (XS.goto A215.here hx rfl (pc0 := 41) (pc' := 3) rfl (hb hby d25_41) (by decide) (by decide) (XS.iload A215.here hx rfl (hb hby d25_3) rfl (XS.iload A215.here hx rfl (hb hby d25_5) rfl (XS.icmpNo A215.here hx rfl (hb hby d25_7) rfl (by decide) (XS.aloadN A215.here hx rfl (hb hby d25_10) rfl rfl (XS.iloadN A215.here hx rfl (hb hby d25_11) rfl k))))))))) ?_
        have f216 := (((Vb1.keep K209 (ninS ne1 nin0)).keep K212 (ninS ne1 nin0)).keep K215 (ninS ne1 nin0))
        refine Run.st (T215.setTop (mkF m 13 #[vA b1, vI 3, vA d1, vI 3, vI 4, vI 3, vI c3] [.int c4])) (A215.ldC hx f216 (j := (3 : Int32)) 3 rfl ⟨(by decide), (by decide)⟩ (v := (.int c4)) rfl (g := (mkF m 12 #[vA b1, vI 3, vA d1, vI 3, vI 4, vI 3, vI c3] [.int 3, (.ref b1)])) rfl rfl (hb hby d25_12)) ?_
        refine Run.st (T215.setTop (mkF m 20 #[vA b1, vI 3, vA d1, vI 3, vI 4, vI 3, vI c4] [.int 255, .int c4])) (fun _ k => XS.istore A215.here hx rfl (hb hby d25_13) rfl (l' := #[vA b1, vI 3, vA d1, vI 3, vI 4, vI 3, vI c4]) rfl (XS.iload A215.here hx rfl (hb hby d25_15) rfl (XS.sipush A215.here hx rfl (hb hby d25_17) k))) ?_
        by_cases c217 : (255 : Int32) < c4
        · refine Run.st (T215.setTop (mkF m 25 #[vA b1, vI 3, vA d1, vI 3, vI 4, vI 3, vI c4] [.int 3])) (fun _ k => XS.icmpNo A215.here hx rfl (hb hby d25_20) rfl (tlt c217).2.2.2 (XS.iload A215.here hx rfl (hb hby d25_23) rfl k)) ?_
          exact A215.leaveN hlk (some (.int (3 : Int32))) (fun q => by rw [hrt] at q; cases q) (by decide) (by decide) (Or.inr ⟨3, by decide, rfl, c217⟩) (fun X hr => retOut X hx (w := (.int (3 : Int32))) (t := .int) hrt rfl (Or.inl ⟨rfl, Or.inl rfl, _, rfl⟩) (hb hby d25_25) hr)
        · refine Run.st (T215.setTop (mkF m 31 #[vA b1, vI 3, vA d1, vI 3, vI 4, vI 3, vI c4] [.int (c4.toInt8.toInt32), .int 3, (.ref d1)])) (fun _ k => XS.icmpYes A215.here hx rfl (pc0 := 20) (pc' := 26) rfl (hb hby d25_20) rfl (flt c217).2.2.2 (by decide) (by decide) (XS.aloadN A215.here hx rfl (hb hby d25_26) rfl rfl (XS.iloadN A215.here hx rfl (hb hby d25_27) rfl (XS.iload A215.here hx rfl (hb hby d25_28) rfl (XS.i2b A215.here hx rfl (hb hby d25_30) rfl k))))) ?_
          obtain ⟨T218, h218, A218, K218, V218, st218⟩ := A215.stB hx V215 (List.mem_of_getElem? (i := 0) rfl) (j := (3 : Int32)) 3 rfl ⟨by decide, by decide⟩ (Nat.le_of_ble_eq_true rfl) (fitsNB _) (g := (mkF m 31 #[vA b1, vI 3, vA d1, vI 3, vI 4, vI 3, vI c4] [.int (c4.toInt8.toInt32), .int 3, (.ref d1)])) rfl rfl (hb hby d25_31)
          refine Run.st (T218.setTop (mkF m 32 #[vA b1, vI 3, vA d1, vI 3, vI 4, vI 3, vI c4] [])) st218 ?_
          refine Run.st (T218.setTop (mkF m 46 #[vA b1, vI 4, vA d1, vI 4, vI 4, vI 4, vI c4] [.int 4])) (fun _ k => XS.iinc A218.here hx rfl (hb hby d25_32) rfl (l' := #[vA b1, vI 4, vA d1, vI 3, vI 4, vI 3, vI c4]) rfl (XS.iinc A218.here hx rfl (hb hby d25_35) rfl (l' := #[vA b1, vI 4, vA d1, vI 4, vI 4, vI 3, vI c4]) rfl (XS.iinc A218.here hx rfl (hb hby d25_38) rfl (l' := #[vA b1, vI 4, vA d1, vI 4, vI 4, vI 4, vI c4]) rfl (XS.goto A218.here hx rfl (pc0 := 41) (pc' := 3) rfl (hb hby d25_41) (by decide) (by decide) (XS.iload A218.here hx rfl (hb hby d25_3) rfl (XS.iload A218.here hx rfl (hb hby d25_5) rfl (XS.icmpYes A218.here hx rfl (pc0 := 7) (pc' := 44) rfl (hb hby d25_7) rfl (by decide) (by decide) (by decide) (XS.iload A218.here hx rfl (hb hby d25_44) rfl k)))))))) ?_
          exact A218.leaveN hlk (some (.int (4 : Int32))) (fun q => by rw [hrt] at q; cases q) (by decide) (by decide) (Or.inl ⟨rfl, (chsS ⟨r1.1, c208⟩ (chsS ⟨r2.1, c211⟩ (chsS ⟨r3.1, c214⟩ (chsS ⟨r4.1, c217⟩ chs0)))), V218⟩) (fun X hr => retOut X hx (w := (.int (4 : Int32))) (t := .int) hrt rfl (Or.inl ⟨rfl, Or.inl rfl, _, rfl⟩) (hb hby d25_46) hr)
theorem ef_cmp3_4 (m : MethodId) (y0 : Addr) (y1 : Int32) (y2 : Int32) : entryFrame m #[(.ref y0), (.int y1), (.int y2)] 6 = mkF m 0 #[vA y0, vI y1, vI y2, .unset, .unset, .unset] [] := by first | (simp [entryFrame, mkF, argsToLocals, vI, vA, Value.category, maxLocals]; done) | rfl
def Q_cmp3_4 (Z : State) (b1 : Addr) (kC : ClassId) (c1 : Int32) (c2 : Int32) (c3 : Int32) (c4 : Int32) (h0 : Heap) (v : Option Value) (h : Heap) : Prop := ∃ (t : Addr) (k : ClassId), v = some (.ref t) ∧ Ext h0 h ∧ ((Arv Z h t k .byte (4 : Int32) (lat [c1, c2, c3, c4]) (.int 0) ∧ ∀ c ∈ [c1, c2, c3, c4], ¬ c < 0 ∧ ¬ (255 : Int32) < c) ∨ Arv Z h t k .byte (8 : Int32) (wid [c1, c2, c3, c4]) (.int 0))
def rm_cmp3_4 : Room := { frames := 3, cells := 2, slots := 12, locals := 40 }
set_option maxRecDepth 65536 in
set_option maxHeartbeats 40000000 in
theorem ct_cmp3_4 {l : Launch} {Z : State} {a0 : Array Value} (H : Ev Z a0) (b1 : Addr) (kC : ClassId) (c1 : Int32) (c2 : Int32) (c3 : Int32) (c4 : Int32) {h0 : Heap} {n0 : Nat} (O0 : Old Z n0 h0) (Vb1 : Arv Z h0 b1 kC .char (4 : Int32) [(.int c1), (.int c2), (.int c3), (.int c4)] (.int 0)) (r1 : R16 c1) (r2 : R16 c2) (r3 : R16 c3) (r4 : R16 c4) : CtrN l Z (⟨"java/lang/StringUTF16", "compress", "([CII)[B"⟩ : MethodName) jdk_52_method_16_code 6 (some (.array .byte)) [] rm_cmp3_4 #[(.ref b1), (.int (0 : Int32)), (.int (4 : Int32))] h0 [] n0 (Q_cmp3_4 Z b1 kC c1 c2 c3 c4 h0) := by
  refine enterN (a0 := a0) (plainFor_of_name pn_4) O0 all0 ?_
  intro p e s m below meth c T0 hx hby hml hrt hnm hlk A0
  replace A0 : Wk false Z a0 [] n0 h0 [] "java/lang/StringUTF16" p l e rm_cmp3_4 s m #[(.ref b1), (.int (0 : Int32)), (.int (4 : Int32))] below meth c [] T0 h0 0 0 := A0
  refine Run.st (T0.setTop (mkF m 0 #[vA b1, vI 0, vI 4, .unset, .unset, .unset] [])) (fun _ k => castTop (ef_cmp3_4 m b1 (0 : Int32) (4 : Int32)) k) ?_
  refine Run.st (T0.setTop (mkF m 1 #[vA b1, vI 0, vI 4, .unset, .unset, .unset] [.int 4])) (fun _ k => XS.iloadN A0.here hx rfl (hb hby d26_0) rfl k) ?_
  obtain ⟨a219, T219, h219, kA219, A219, E219, g219, V219, st219⟩ := A0.newP hx (aty := .byte) (N := (4 : Int32)) (tw21 H.1) (g := (mkF m 1 #[vA b1, vI 0, vI 4, .unset, .unset, .unset] [.int 4])) rfl (hb hby d26_1) rfl (by decide) (cap := 4) (by decide) (by decide) (by decide) (by decide)
  refine Run.st (T219.setTop (mkF m 3 #[vA b1, vI 0, vI 4, .unset, .unset, .unset] [(.ref a219)])) st219 ?_
  refine Run.st (T219.setTop (mkF m 9 #[vA b1, vI 0, vI 4, vA a219, .unset, .unset] [.int 4, .int 0, (.ref a219), .int 0, (.ref b1)])) (fun _ k => XS.astoreN A219.here hx rfl (hb hby d26_3) rfl rfl (l' := #[vA b1, vI 0, vI 4, vA a219, .unset, .unset]) rfl (XS.aloadN A219.here hx rfl (hb hby d26_4) rfl rfl (XS.iloadN A219.here hx rfl (hb hby d26_5) rfl (XS.aloadN A219.here hx rfl (hb hby d26_6) rfl rfl (XS.iconst A219.here hx rfl (hb hby d26_7) (XS.iloadN A219.here hx rfl (hb hby d26_8) rfl k)))))) ?_
  have X221 : Ext h0 h219 := E219
  have f222 := Vb1.ext X221
  obtain ⟨v220, T220, h220, AA220, K220, ⟨L220, Q220⟩, st220⟩ := A219.callS hx (tw42 H.1) (tw43 H.1) (tw40 H.1) (tw44 H.1) (by decide) (g := (mkF m 9 #[vA b1, vI 0, vI 4, vA a219, .unset, .unset] [.int 4, .int 0, (.ref a219), .int 0, (.ref b1)])) rfl (by rw [hml]; rfl) [(.ref b1), (.int (0 : Int32)), (.ref a219), (.int (0 : Int32)), (.int (4 : Int32))] [] (lenOf pd_14 rfl) rfl (Wd := 0) (Nat.le_refl _) (hb hby d26_9) (by decide) (by decide) [a219] (fun _ _ _ q => q.2) (allS (List.mem_of_getElem? (i := 0) rfl) all0) (fun vm0 hZ => payN (ct_cmp5_4 H b1 _ a219 _ c1 c2 c3 c4 A219.old f222 (A219.nle (List.mem_of_getElem? (i := 0) rfl)) V219.lt V219 (Nat.ne_of_lt (Nat.lt_of_lt_of_le Vb1.lt (Nat.le_of_eq g219))) r1 r2 r3 r4) (tw44 H.1) (tw40 H.1) (by decide) (by decide) hZ)
  obtain ⟨Q220, N220, -⟩ := Q220
  have hv220 : ∃ z : Int32, v220 = some (.int z) ∧ ((z = (4 : Int32) ∧ (∀ c ∈ [c1, c2, c3, c4], ¬ c < 0 ∧ ¬ (255 : Int32) < c) ∧ Arv Z h220 a219 kA219 .byte (4 : Int32) (lat [c1, c2, c3, c4]) (.int 0)) ∨ ∃ j : Nat, j < 4 ∧ z = Int32.ofNat j ∧ (255 : Int32) < [c1, c2, c3, c4].getD j 0) := by
    rcases Q220 with ⟨e1, e2, e3⟩ | ⟨j, e1, e2, e3⟩
    · exact ⟨_, e1, Or.inl ⟨rfl, e2, e3⟩⟩
    · exact ⟨_, e2, Or.inr ⟨j, e1, rfl, e3⟩⟩
  obtain ⟨z220, rfl, D220⟩ := hv220
  have A220 := AA220 [] all0
  refine Run.st (T220.setTop (mkF m 12 #[vA b1, vI 0, vI 4, vA a219, .unset, .unset] [.int z220])) st220 ?_
  rcases D220 with ⟨e220, l220, L220a⟩ | ⟨j220, hj220, e220, l220⟩
  · subst e220
    refine Run.st (T220.setTop (mkF m 58 #[vA b1, vI 0, vI 4, vA a219, vI 4, .unset] [(.ref a219)])) (fun _ k => XS.istore A220.here hx rfl (hb hby d26_12) rfl (l' := #[vA b1, vI 0, vI 4, vA a219, vI 4, .unset]) rfl (XS.iload A220.here hx rfl (hb hby d26_14) rfl (XS.iloadN A220.here hx rfl (hb hby d26_16) rfl (XS.icmpYes A220.here hx rfl (pc0 := 17) (pc' := 57) rfl (hb hby d26_17) rfl (by decide) (by decide) (by decide) (XS.aloadN A220.here hx rfl (hb hby d26_57) rfl rfl k))))) ?_
    exact A220.leaveN hlk (some (.ref a219)) (fun q => by rw [hrt] at q; cases q) (by decide) (by decide) ⟨_, _, rfl, keepE A220.keep, Or.inl ⟨L220a, l220⟩⟩ (fun X hr => retOut X hx (w := (.ref a219)) (t := (.array .byte)) hrt rfl (Or.inr (Or.inr (Or.inr (Or.inr ⟨rfl, rfl, rfl⟩)))) (hb hby d26_58) hr)
  · subst e220
    refine Run.st (T220.setTop (mkF m 23 #[vA b1, vI 0, vI 4, vA a219, vI (Int32.ofNat j220), .unset] [.int 4, .int 0, (.ref b1)])) (fun _ k => XS.istore A220.here hx rfl (hb hby d26_12) rfl (l' := #[vA b1, vI 0, vI 4, vA a219, vI (Int32.ofNat j220), .unset]) rfl (XS.iload A220.here hx rfl (hb hby d26_14) rfl (XS.iloadN A220.here hx rfl (hb hby d26_16) rfl (XS.icmpNo A220.here hx rfl (hb hby d26_17) rfl (feq (n_ne (n := 4) hj220 (by decide))).1 (XS.aloadN A220.here hx rfl (hb hby d26_20) rfl rfl (XS.iloadN A220.here hx rfl (hb hby d26_21) rfl (XS.iloadN A220.here hx rfl (hb hby d26_22) rfl k))))))) ?_
    have X224 : Ext h0 h220 := extK X221 K220 (allS (Nat.le_of_eq g219) all0)
    have f225 := Vb1.ext X224
    obtain ⟨v223, T223, h223, AA223, K223, ⟨L223, Q223⟩, st223⟩ := A220.callS hx (tw112 H.1) (tw113 H.1) (tw40 H.1) (tw114 H.1) (by decide) (g := (mkF m 23 #[vA b1, vI 0, vI 4, vA a219, vI (Int32.ofNat j220), .unset] [.int 4, .int 0, (.ref b1)])) rfl (by rw [hml]; rfl) [(.ref b1), (.int (0 : Int32)), (.int (4 : Int32))] [] (lenOf pd_15 rfl) rfl (Wd := 0) (Nat.le_refl _) (hb hby d26_23) (by decide) (by decide) [] (fun _ _ _ q => q.2) all0 (fun vm0 hZ => payN (ct_toB4 H b1 _ c1 c2 c3 c4 A220.old f225) (tw114 H.1) (tw40 H.1) (by decide) (by decide) hZ)
    obtain ⟨Q223, N223, -⟩ := Q223
    obtain ⟨t223, kt223, rfl, X223, Vt223⟩ := Q223
    have A223 := AA223 [] all0
    refine Run.st (T223.setTop (mkF m 26 #[vA b1, vI 0, vI 4, vA a219, vI (Int32.ofNat j220), .unset] [(.ref t223)])) st223 ?_
    refine Run.st (T223.setTop (mkF m 32 #[vA b1, vI 0, vI 4, vA a219, vI (Int32.ofNat j220), vA t223] [.int (Int32.ofNat j220), (.ref t223)])) (fun _ k => XS.astore A223.here hx rfl (hb hby d26_26) rfl rfl (l' := #[vA b1, vI 0, vI 4, vA a219, vI (Int32.ofNat j220), vA t223]) rfl (XS.aload A223.here hx rfl (hb hby d26_28) rfl rfl (XS.iload A223.here hx rfl (hb hby d26_30) rfl k))) ?_
    obtain ⟨v226, T226, h226, AA226, K226, ⟨L226, Q226⟩, st226⟩ := A223.callS hx (tw128 H.1) (tw129 H.1) (tw40 H.1) (tw130 H.1) (by decide) (g := (mkF m 32 #[vA b1, vI 0, vI 4, vA a219, vI (Int32.ofNat j220), vA t223] [.int (Int32.ofNat j220), (.ref t223)])) rfl (by rw [hml]; rfl) [(.ref t223), (.int (Int32.ofNat j220))] [] (lenOf pd_10 rfl) rfl (Wd := 0) (Nat.le_refl _) (hb hby d26_32) (by decide) (by decide) [] (fun _ _ _ q => q.2) all0 (fun vm0 hZ => payN (ct_getc H t223 _ [c1, c2, c3, c4] j220 A223.old Vt223 (show j220 < ([c1, c2, c3, c4] : List Int32).length from hj220) (Nat.le_of_ble_eq_true rfl) (chsS r1 (chsS r2 (chsS r3 (chsS r4 chs0))))) (tw130 H.1) (tw40 H.1) (by decide) (by decide) hZ)
    obtain ⟨Q226, N226, -⟩ := Q226
    obtain ⟨rfl, q226⟩ := Q226
    have q226 := q226.symm
    subst q226
    have A226 := AA226 [] all0
    refine Run.st (T226.setTop (mkF m 35 #[vA b1, vI 0, vI 4, vA a219, vI (Int32.ofNat j220), vA t223] [.int ([c1, c2, c3, c4].getD j220 0)])) st226 ?_
    refine Run.st (T226.setTop (mkF m 56 #[vA b1, vI 0, vI 4, vA a219, vI (Int32.ofNat j220), vA t223] [(.ref t223)])) (fun _ k => XS.sipush A226.here hx rfl (hb hby d26_35) (XS.icmpYes A226.here hx rfl (pc0 := 38) (pc' := 54) rfl (hb hby d26_38) rfl (tlt l220).2.2.1 (by decide) (by decide) (XS.aload A226.here hx rfl (hb hby d26_54) rfl rfl k))) ?_
    exact A226.leaveN hlk (some (.ref t223)) (fun q => by rw [hrt] at q; cases q) (by decide) (by decide) ⟨_, _, rfl, keepE A226.keep, Or.inr Vt223⟩ (fun X hr => retOut X hx (w := (.ref t223)) (t := (.array .byte)) hrt rfl (Or.inr (Or.inr (Or.inr (Or.inr ⟨rfl, rfl, rfl⟩)))) (hb hby d26_56) hr)
theorem ef_cfl4_0 (m : MethodId) (y0 : Addr) (y1 : Int32) : entryFrame m #[(.ref y0), (.int y1)] 2 = mkF m 0 #[vA y0, vI y1] [] := by first | (simp [entryFrame, mkF, argsToLocals, vI, vA, Value.category, maxLocals]; done) | rfl
def Q_cfl4_0 (Z : State) (t1 : Addr) (k1 : ClassId) (vs : List Value) (h0 : Heap) (v : Option Value) (h : Heap) : Prop := v = some (.int 0) ∧ h = h0
def rm_cfl4_0 : Room := { frames := 0, cells := 0, slots := 0, locals := 0 }
set_option maxRecDepth 65536 in
set_option maxHeartbeats 40000000 in
theorem ct_cfl4_0 {l : Launch} {Z : State} {a0 : Array Value} (H : Ev Z a0) (t1 : Addr) (k1 : ClassId) (vs : List Value) {h0 : Heap} {n0 : Nat} (O0 : Old Z n0 h0) (V1 : Arv Z h0 t1 k1 .byte (4 : Int32) vs (.int 0)) : CtrN l Z (⟨"java/lang/StringUTF16", "coderFromArrayLen", "([BI)B"⟩ : MethodName) jdk_52_method_15_code 2 (some .byte) [] rm_cfl4_0 #[(.ref t1), (.int (4 : Int32))] h0 [] n0 (Q_cfl4_0 Z t1 k1 vs h0) := by
  refine enterN (a0 := a0) (plainFor_of_name pn_4) O0 all0 ?_
  intro p e s m below meth c T0 hx hby hml hrt hnm hlk A0
  replace A0 : Wk false Z a0 [] n0 h0 [] "java/lang/StringUTF16" p l e rm_cfl4_0 s m #[(.ref t1), (.int (4 : Int32))] below meth c [] T0 h0 0 0 := A0
  refine Run.st (T0.setTop (mkF m 0 #[vA t1, vI 4] [])) (fun _ k => castTop (ef_cfl4_0 m t1 (4 : Int32)) k) ?_
  refine Run.st (T0.setTop (mkF m 2 #[vA t1, vI 4] [(.ref t1), .int 4])) (fun _ k => XS.iloadN A0.here hx rfl (hb hby d27_0) rfl (XS.aloadN A0.here hx rfl (hb hby d27_1) rfl rfl k)) ?_
  refine Run.st (T0.setTop (mkF m 3 #[vA t1, vI 4] [.int 4, .int 4])) (A0.alen hx V1 (g := (mkF m 2 #[vA t1, vI 4] [(.ref t1), .int 4])) rfl rfl (hb hby d27_2)) ?_
  refine Run.st (T0.setTop (mkF m 8 #[vA t1, vI 4] [.int ((XT.ushr (0 : Int32) (31 : Int32)).toInt8.toInt32)])) (fun _ k => XS.isub A0.here hx rfl (hb hby d27_3) rfl (XS.bipush A0.here hx rfl (hb hby d27_4) (XT.iushr A0.here hx rfl (hb hby d27_6) rfl (XS.i2b A0.here hx rfl (hb hby d27_7) rfl k)))) ?_
  exact A0.leaveN hlk (some (.int (nar .byte ((XT.ushr (0 : Int32) (31 : Int32)).toInt8.toInt32)))) (fun q => by rw [hrt] at q; cases q) (by decide) (by decide) ⟨congrArg some (congrArg Value.int (by decide)), rfl⟩ (fun X hr => retN X hx (t := .byte) hrt (by simp) (hb hby d27_8) hr)
theorem ef_cfl4_1 (m : MethodId) (y0 : Addr) (y1 : Int32) : entryFrame m #[(.ref y0), (.int y1)] 2 = mkF m 0 #[vA y0, vI y1] [] := by first | (simp [entryFrame, mkF, argsToLocals, vI, vA, Value.category, maxLocals]; done) | rfl
def Q_cfl4_1 (Z : State) (t1 : Addr) (k1 : ClassId) (vs : List Value) (h0 : Heap) (v : Option Value) (h : Heap) : Prop := v = some (.int 1) ∧ h = h0
def rm_cfl4_1 : Room := { frames := 0, cells := 0, slots := 0, locals := 0 }
set_option maxRecDepth 65536 in
set_option maxHeartbeats 40000000 in
theorem ct_cfl4_1 {l : Launch} {Z : State} {a0 : Array Value} (H : Ev Z a0) (t1 : Addr) (k1 : ClassId) (vs : List Value) {h0 : Heap} {n0 : Nat} (O0 : Old Z n0 h0) (V1 : Arv Z h0 t1 k1 .byte (8 : Int32) vs (.int 0)) : CtrN l Z (⟨"java/lang/StringUTF16", "coderFromArrayLen", "([BI)B"⟩ : MethodName) jdk_52_method_15_code 2 (some .byte) [] rm_cfl4_1 #[(.ref t1), (.int (4 : Int32))] h0 [] n0 (Q_cfl4_1 Z t1 k1 vs h0) := by
  refine enterN (a0 := a0) (plainFor_of_name pn_4) O0 all0 ?_
  intro p e s m below meth c T0 hx hby hml hrt hnm hlk A0
  replace A0 : Wk false Z a0 [] n0 h0 [] "java/lang/StringUTF16" p l e rm_cfl4_1 s m #[(.ref t1), (.int (4 : Int32))] below meth c [] T0 h0 0 0 := A0
  refine Run.st (T0.setTop (mkF m 0 #[vA t1, vI 4] [])) (fun _ k => castTop (ef_cfl4_1 m t1 (4 : Int32)) k) ?_
  refine Run.st (T0.setTop (mkF m 2 #[vA t1, vI 4] [(.ref t1), .int 4])) (fun _ k => XS.iloadN A0.here hx rfl (hb hby d27_0) rfl (XS.aloadN A0.here hx rfl (hb hby d27_1) rfl rfl k)) ?_
  refine Run.st (T0.setTop (mkF m 3 #[vA t1, vI 4] [.int 8, .int 4])) (A0.alen hx V1 (g := (mkF m 2 #[vA t1, vI 4] [(.ref t1), .int 4])) rfl rfl (hb hby d27_2)) ?_
  refine Run.st (T0.setTop (mkF m 8 #[vA t1, vI 4] [.int ((XT.ushr (-4 : Int32) (31 : Int32)).toInt8.toInt32)])) (fun _ k => XS.isub A0.here hx rfl (hb hby d27_3) rfl (XS.bipush A0.here hx rfl (hb hby d27_4) (XT.iushr A0.here hx rfl (hb hby d27_6) rfl (XS.i2b A0.here hx rfl (hb hby d27_7) rfl k)))) ?_
  exact A0.leaveN hlk (some (.int (nar .byte ((XT.ushr (-4 : Int32) (31 : Int32)).toInt8.toInt32)))) (fun q => by rw [hrt] at q; cases q) (by decide) (by decide) ⟨congrArg some (congrArg Value.int (by decide)), rfl⟩ (fun X hr => retN X hx (t := .byte) hrt (by simp) (hb hby d27_8) hr)
theorem ef_ini4 (m : MethodId) (y0 : Addr) (y1 : Addr) (y2 : Int32) (y3 : Int32) : entryFrame m #[(.ref y0), (.ref y1), (.int y2), (.int y3), .null] 6 = mkF m 0 #[vA y0, vA y1, vI y2, vI y3, .val .null, .unset] [] := by first | (simp [entryFrame, mkF, argsToLocals, vI, vA, Value.category, maxLocals]; done) | rfl
def Q_ini4 (Z : State) (a1 : Addr) (b1 : Addr) (u1 : Value) (u2 : Value) (h0 : Heap) (v : Option Value) (h : Heap) : Prop := v = none ∧ StrA Z h a1 []
def rm_ini4 : Room := { frames := 1, cells := 4, slots := 8, locals := 12 }
set_option maxRecDepth 65536 in
set_option maxHeartbeats 40000000 in
theorem ct_ini4 {l : Launch} {Z : State} {a0 : Array Value} (H : Ev Z a0) (a1 : Addr) (b1 : Addr) (u1 : Value) (u2 : Value) {h0 : Heap} {n0 : Nat} (O0 : Old Z n0 h0) (E1 : Exa Z h0 a1 "java/lang/String") (g_a1 : n0 ≤ a1) (z_a1 : a1 < h0.size) (F_value : Fld Z h0 a1 "java/lang/String" "value" "[B" u1) (F_coder : Fld Z h0 a1 "java/lang/String" "coder" "B" u2) : CtrW l Z EL (⟨"java/lang/String", "<init>", "([CIILjava/lang/Void;)V"⟩ : MethodName) jdk_42_method_149_code 6 none [] rm_ini4 #[(.ref a1), (.ref b1), (.int (0 : Int32)), (.int (0 : Int32)), .null] h0 [a1] n0 (Q_ini4 Z a1 b1 u1 u2 h0) := by
  refine enterW (a0 := a0) (plainFor_of_name pn_1) (elA H) O0 (allS ⟨g_a1, z_a1⟩ all0) ?_
  intro p e s m below meth c T0 hx hby hml hrt hnm hlk hh0 A0
  replace A0 : Wk true Z a0 EL n0 h0 [a1] "java/lang/String" p l e rm_ini4 s m #[(.ref a1), (.ref b1), (.int (0 : Int32)), (.int (0 : Int32)), .null] below meth c [a1] T0 h0 0 0 := A0
  refine Run.st (T0.setTop (mkF m 0 #[vA a1, vA b1, vI 0, vI 0, .val .null, .unset] [])) (fun _ k => castTop (ef_ini4 m a1 b1 (0 : Int32) (0 : Int32)) k) ?_
  refine Run.st (T0.setTop (mkF m 1 #[vA a1, vA b1, vI 0, vI 0, .val .null, .unset] [(.ref a1)])) (fun _ k => XS.aloadN A0.here hx rfl (hb hby d28_0) rfl rfl k) ?_
  obtain ⟨T227, A227, st227⟩ := A0.initO hx (tw17 H.1) (tw18 H.1) (tw19 H.1) (g := (mkF m 1 #[vA a1, vA b1, vI 0, vI 0, .val .null, .unset] [(.ref a1)])) rfl (by rw [hml]; rfl) rfl (hb hby d28_1) (by decide) (Wd := 0) (Nat.le_refl _) (by decide)
  refine Run.st (T227.setTop (mkF m 4 #[vA a1, vA b1, vI 0, vI 0, .val .null, .unset] [])) st227 ?_
  refine Run.st (T227.setTop (mkF m 9 #[vA a1, vA b1, vI 0, vI 0, .val .null, .unset] [(.ref a1)])) (fun _ k => XS.iloadN A227.here hx rfl (hb hby d28_4) rfl (XS.ifNo A227.here hx rfl (hb hby d28_5) rfl (by decide) (XS.aloadN A227.here hx rfl (hb hby d28_8) rfl rfl k))) ?_
  obtain ⟨a228, b228, kA228, T228, h228, A228, E228, Ex228, Fc228, Fv228, Va228, ne228, st228⟩ := A227.ldc hx (tw20 H.1) (strsA H) (List.mem_of_getElem? (i := 1) rfl) (vs := (([] : List Int32).map fun c => c.toInt8.toInt32).map Value.int) (z := (0 : Int32)) ⟨by decide, by decide +kernel⟩ (by decide) (by decide +kernel) (g := (mkF m 9 #[vA a1, vA b1, vI 0, vI 0, .val .null, .unset] [(.ref a1)])) rfl (hb hby d28_9) (q := 0) (by decide) (by decide) (by decide) (by decide)
  have S228 : StrA Z h228 a228 [] := ⟨Ex228, Fc228, ⟨b228, kA228, Fv228, Va228⟩, by decide, by decide⟩
  refine Run.st (T228.setTop (mkF m 11 #[vA a1, vA b1, vI 0, vI 0, .val .null, .unset] [(.ref a228), (.ref a1)])) st228 ?_
  obtain ⟨T229, A229, st229⟩ := A228.getF hx (tw26 H.1) Via.refl Fv228 (g := (mkF m 11 #[vA a1, vA b1, vI 0, vI 0, .val .null, .unset] [(.ref a228), (.ref a1)])) rfl rfl (hb hby d28_11)
  refine Run.st (T229.setTop (mkF m 14 #[vA a1, vA b1, vI 0, vI 0, .val .null, .unset] [(.ref b228), (.ref a1)])) st229 ?_
  have X231 : Ext h0 h228 := E228
  have f232 := F_value.ext X231
  have f233 := E1.ext X231
  obtain ⟨T230, h230, A230, K230, W230, st230⟩ := A229.putF hx (tw26 H.1) Via.refl (a := a1) (List.mem_of_getElem? (i := 0) rfl) (v' := (.ref b228)) f232 f233 (Or.inr ⟨(tw22 H.1), rfl, hnm⟩) (tw7 H.1) (ty := (.array .byte)) (by decide) rfl rfl (g := (mkF m 14 #[vA a1, vA b1, vI 0, vI 0, .val .null, .unset] [(.ref b228), (.ref a1)])) rfl rfl (hb hby d28_14)
  have F230 : Fld Z h230 a1 "java/lang/String" "value" "[B" (.ref b228) := f232.same W230
  refine Run.st (T230.setTop (mkF m 17 #[vA a1, vA b1, vI 0, vI 0, .val .null, .unset] [])) st230 ?_
  refine Run.st (T230.setTop (mkF m 18 #[vA a1, vA b1, vI 0, vI 0, .val .null, .unset] [(.ref a1)])) (fun _ k => XS.aloadN A230.here hx rfl (hb hby d28_17) rfl rfl k) ?_
  obtain ⟨a234, b234, kA234, T234, h234, A234, E234, Ex234, Fc234, Fv234, Va234, ne234, st234⟩ := A230.ldc hx (tw20 H.1) (strsA H) (List.mem_of_getElem? (i := 1) rfl) (vs := (([] : List Int32).map fun c => c.toInt8.toInt32).map Value.int) (z := (0 : Int32)) ⟨by decide, by decide +kernel⟩ (by decide) (by decide +kernel) (g := (mkF m 18 #[vA a1, vA b1, vI 0, vI 0, .val .null, .unset] [(.ref a1)])) rfl (hb hby d28_18) (q := 0) (by decide) (by decide) (by decide) (by decide)
  have S234 : StrA Z h234 a234 [] := ⟨Ex234, Fc234, ⟨b234, kA234, Fv234, Va234⟩, by decide, by decide⟩
  refine Run.st (T234.setTop (mkF m 20 #[vA a1, vA b1, vI 0, vI 0, .val .null, .unset] [(.ref a234), (.ref a1)])) st234 ?_
  obtain ⟨T235, A235, st235⟩ := A234.getF hx (tw27 H.1) Via.refl Fc234 (g := (mkF m 20 #[vA a1, vA b1, vI 0, vI 0, .val .null, .unset] [(.ref a234), (.ref a1)])) rfl rfl (hb hby d28_20)
  refine Run.st (T235.setTop (mkF m 23 #[vA a1, vA b1, vI 0, vI 0, .val .null, .unset] [.int 0, (.ref a1)])) st235 ?_
  have f237 := (((F_coder.ext E228).other W230 (Or.inr (slot_ne (Or.inr (tw23 H.1)) (Or.inr (tw22 H.1)) (by decide) (t := .byte) (t' := (.array .byte)) (by decide) (by decide)))).ext E234)
  have f238 := (((E1.ext E228).wr W230).ext E234)
  obtain ⟨T236, h236, A236, K236, W236, st236⟩ := A235.putF hx (tw27 H.1) Via.refl (a := a1) (List.mem_of_getElem? (i := 0) rfl) (v' := (.int (0 : Int32))) f237 f238 (Or.inr ⟨(tw23 H.1), rfl, hnm⟩) (tw7 H.1) (ty := .byte) (by decide) rfl rfl (g := (mkF m 23 #[vA a1, vA b1, vI 0, vI 0, .val .null, .unset] [.int 0, (.ref a1)])) rfl rfl (hb hby d28_23)
  have F236 : Fld Z h236 a1 "java/lang/String" "coder" "B" (.int (0 : Int32)) := f237.same W236
  refine Run.st (T236.setTop (mkF m 26 #[vA a1, vA b1, vI 0, vI 0, .val .null, .unset] [])) st236 ?_
  have f239 := ((((E1.ext E228).wr W230).ext E234).wr W236)
  have f240 := ((F230.ext E234).other W236 (Or.inr (slot_ne (Or.inr (tw22 H.1)) (Or.inr (tw23 H.1)) (by decide) (t := (.array .byte)) (t' := .byte) (by decide) (by decide))))
  have f241 := (((Va228.keep K230 (ninS (Ne.symm (ne228 a1 (List.mem_of_getElem? (i := 0) rfl)).2) nin0)).ext E234).keep K236 (ninS (Ne.symm (ne228 a1 (List.mem_of_getElem? (i := 0) rfl)).2) nin0))
  exact A236.leaveW hlk hh0 none (fun _ => rfl) (by decide) (by decide) ⟨rfl, f239, F236, ⟨_, _, f240, f241⟩, chs0, by decide⟩ (fun X hr => X.returnOut hx hrt (hb hby d28_26) hr)
theorem ef_ini1 (m : MethodId) (y0 : Addr) (y1 : Addr) : entryFrame m #[(.ref y0), (.ref y1)] 2 = mkF m 0 #[vA y0, vA y1] [] := by first | (simp [entryFrame, mkF, argsToLocals, vI, vA, Value.category, maxLocals]; done) | rfl
def Q_ini1 (Z : State) (a1 : Addr) (b1 : Addr) (u1 : Value) (u2 : Value) (kC : ClassId) (dv : Value) (h0 : Heap) (v : Option Value) (h : Heap) : Prop := v = none ∧ StrA Z h a1 []
def rm_ini1 : Room := { frames := 2, cells := 4, slots := 8, locals := 29 }
set_option maxRecDepth 65536 in
set_option maxHeartbeats 40000000 in
theorem ct_ini1 {l : Launch} {Z : State} {a0 : Array Value} (H : Ev Z a0) (a1 : Addr) (b1 : Addr) (u1 : Value) (u2 : Value) (kC : ClassId) (dv : Value) {h0 : Heap} {n0 : Nat} (O0 : Old Z n0 h0) (E1 : Exa Z h0 a1 "java/lang/String") (g_a1 : n0 ≤ a1) (z_a1 : a1 < h0.size) (F_value : Fld Z h0 a1 "java/lang/String" "value" "[B" u1) (F_coder : Fld Z h0 a1 "java/lang/String" "coder" "B" u2) (Vb1 : Arv Z h0 b1 kC .char (0 : Int32) [] dv) : CtrW l Z EL (⟨"java/lang/String", "<init>", "([C)V"⟩ : MethodName) jdk_42_method_3_code 2 none [] rm_ini1 #[(.ref a1), (.ref b1)] h0 [a1] n0 (Q_ini1 Z a1 b1 u1 u2 kC dv h0) := by
  refine enterW (a0 := a0) (plainFor_of_name pn_1) (elA H) O0 (allS ⟨g_a1, z_a1⟩ all0) ?_
  intro p e s m below meth c T0 hx hby hml hrt hnm hlk hh0 A0
  replace A0 : Wk true Z a0 EL n0 h0 [a1] "java/lang/String" p l e rm_ini1 s m #[(.ref a1), (.ref b1)] below meth c [a1] T0 h0 0 0 := A0
  refine Run.st (T0.setTop (mkF m 0 #[vA a1, vA b1] [])) (fun _ k => castTop (ef_ini1 m a1 b1) k) ?_
  refine Run.st (T0.setTop (mkF m 4 #[vA a1, vA b1] [(.ref b1), .int 0, (.ref b1), (.ref a1)])) (fun _ k => XS.aloadN A0.here hx rfl (hb hby d29_0) rfl rfl (XS.aloadN A0.here hx rfl (hb hby d29_1) rfl rfl (XS.iconst A0.here hx rfl (hb hby d29_2) (XS.aloadN A0.here hx rfl (hb hby d29_3) rfl rfl k)))) ?_
  refine Run.st (T0.setTop (mkF m 5 #[vA a1, vA b1] [.int 0, .int 0, (.ref b1), (.ref a1)])) (A0.alen hx Vb1 (g := (mkF m 4 #[vA a1, vA b1] [(.ref b1), .int 0, (.ref b1), (.ref a1)])) rfl rfl (hb hby d29_4)) ?_
  refine Run.st (T0.setTop (mkF m 6 #[vA a1, vA b1] [.null, .int 0, .int 0, (.ref b1), (.ref a1)])) (fun _ k => XS.aconstNull A0.here hx rfl (hb hby d29_5) k) ?_
  obtain ⟨v242, T242, h242, A242, K242, ⟨L242, Q242⟩, st242⟩ := A0.callIW hx (y := (⟨"java/lang/String", "<init>", "([CIILjava/lang/Void;)V"⟩ : MethodName)) rfl (tw13 H.1) (tw14 H.1) (tw16 H.1) (by decide) (g := (mkF m 6 #[vA a1, vA b1] [.null, .int 0, .int 0, (.ref b1), (.ref a1)])) rfl (by rw [hml]; rfl) a1 [(.ref b1), (.int (0 : Int32)), (.int (0 : Int32)), .null] [] (lenOf pd_16 rfl) rfl (Wd := 0) (Nat.le_refl _) (hb hby d29_6) (by decide) (by decide) [a1] (fun _ _ _ q => q.2) (allS (List.mem_of_getElem? (i := 0) rfl) all0) (fun vm0 hZ hE hC hS => payW (ct_ini4 H a1 b1 u1 u2 A0.old E1 (A0.nle (List.mem_of_getElem? (i := 0) rfl)) E1.lt F_value F_coder) (tw16 H.1) (tw8 H.1) (by decide) (by decide) hZ hE hC hS)
  obtain ⟨Q242, N242, -⟩ := Q242
  obtain ⟨rfl, S242⟩ := Q242
  refine Run.st (T242.setTop (mkF m 9 #[vA a1, vA b1] [])) st242 ?_
  exact A242.leaveW hlk hh0 none (fun _ => rfl) (by decide) (by decide) ⟨rfl, S242⟩ (fun X hr => X.returnOut hx hrt (hb hby d29_9) hr)
theorem ef_nw4_1 (m : MethodId) (y0 : Addr) (y1 : Addr) (y2 : Int32) (y3 : Int32) : entryFrame m #[(.ref y0), (.ref y1), (.int y2), (.int y3), .null] 6 = mkF m 0 #[vA y0, vA y1, vI y2, vI y3, .val .null, .unset] [] := by first | (simp [entryFrame, mkF, argsToLocals, vI, vA, Value.category, maxLocals]; done) | rfl
def Q_nw4_1 (Z : State) (a1 : Addr) (u1 : Value) (u2 : Value) (b1 : Addr) (kC : ClassId) (c1 : Int32) (h0 : Heap) (v : Option Value) (h : Heap) : Prop := v = none ∧ StrU Z h a1 [c1]
def rm_nw4_1 : Room := { frames := 4, cells := 2, slots := 3, locals := 57 }
set_option maxRecDepth 65536 in
set_option maxHeartbeats 40000000 in
theorem ct_nw4_1 {l : Launch} {Z : State} {a0 : Array Value} (H : Ev Z a0) (a1 : Addr) (u1 : Value) (u2 : Value) (b1 : Addr) (kC : ClassId) (c1 : Int32) {h0 : Heap} {n0 : Nat} (O0 : Old Z n0 h0) (E1 : Exa Z h0 a1 "java/lang/String") (g_a1 : n0 ≤ a1) (z_a1 : a1 < h0.size) (F_value : Fld Z h0 a1 "java/lang/String" "value" "[B" u1) (F_coder : Fld Z h0 a1 "java/lang/String" "coder" "B" u2) (Vb1 : Arv Z h0 b1 kC .char (1 : Int32) [(.int c1)] (.int 0)) (r1 : R16 c1) : CtrN l Z (⟨"java/lang/String", "<init>", "([CIILjava/lang/Void;)V"⟩ : MethodName) jdk_42_method_149_code 6 none [] rm_nw4_1 #[(.ref a1), (.ref b1), (.int (0 : Int32)), (.int (1 : Int32)), .null] h0 [a1] n0 (Q_nw4_1 Z a1 u1 u2 b1 kC c1 h0) := by
  refine enterN (a0 := a0) (plainFor_of_name pn_1) O0 (allS ⟨g_a1, z_a1⟩ all0) ?_
  intro p e s m below meth c T0 hx hby hml hrt hnm hlk A0
  replace A0 : Wk false Z a0 [] n0 h0 [a1] "java/lang/String" p l e rm_nw4_1 s m #[(.ref a1), (.ref b1), (.int (0 : Int32)), (.int (1 : Int32)), .null] below meth c [a1] T0 h0 0 0 := A0
  refine Run.st (T0.setTop (mkF m 0 #[vA a1, vA b1, vI 0, vI 1, .val .null, .unset] [])) (fun _ k => castTop (ef_nw4_1 m a1 b1 (0 : Int32) (1 : Int32)) k) ?_
  obtain ⟨zc, Sc, hzc⟩ := H.2.1
  obtain ⟨fm, Sfm, rfm⟩ := H.2.2.1
  refine Run.st (T0.setTop (mkF m 1 #[vA a1, vA b1, vI 0, vI 1, .val .null, .unset] [(.ref a1)])) (fun _ k => XS.aloadN A0.here hx rfl (hb hby d28_0) rfl rfl k) ?_
  obtain ⟨T243, A243, st243⟩ := A0.initO hx (tw17 H.1) (tw18 H.1) (tw19 H.1) (g := (mkF m 1 #[vA a1, vA b1, vI 0, vI 1, .val .null, .unset] [(.ref a1)])) rfl (by rw [hml]; rfl) rfl (hb hby d28_1) (by decide) (Wd := 0) (Nat.le_refl _) (by decide)
  refine Run.st (T243.setTop (mkF m 4 #[vA a1, vA b1, vI 0, vI 1, .val .null, .unset] [])) st243 ?_
  refine Run.st (T243.setTop (mkF m 27 #[vA a1, vA b1, vI 0, vI 1, .val .null, .unset] [])) (fun _ k => XS.iloadN A243.here hx rfl (hb hby d28_4) rfl (XS.ifYes A243.here hx rfl (pc0 := 5) (pc' := 27) rfl (hb hby d28_5) rfl (by decide) (by decide) (by decide) k)) ?_
  obtain ⟨T244, A244, st244⟩ := A243.getS hx (tw37 H.1) Via.refl (Sc.ext A243.old.2) (g := (mkF m 27 #[vA a1, vA b1, vI 0, vI 1, .val .null, .unset] [])) rfl (hb hby d28_27)
  refine Run.st (T244.setTop (mkF m 30 #[vA a1, vA b1, vI 0, vI 1, .val .null, .unset] [.int zc])) st244 ?_
  refine Run.st (T244.setTop (mkF m 36 #[vA a1, vA b1, vI 0, vI 1, .val .null, .unset] [.int 1, .int 0, (.ref b1)])) (fun _ k => XS.ifNo A244.here hx rfl (hb hby d28_30) rfl (by rw [if0]; exact (feq hzc).1) (XS.aloadN A244.here hx rfl (hb hby d28_33) rfl rfl (XS.iloadN A244.here hx rfl (hb hby d28_34) rfl (XS.iloadN A244.here hx rfl (hb hby d28_35) rfl k)))) ?_
  obtain ⟨v245, T245, h245, AA245, K245, ⟨L245, Q245⟩, st245⟩ := A244.callS hx (tw38 H.1) (tw39 H.1) (tw40 H.1) (tw41 H.1) (by decide) (g := (mkF m 36 #[vA a1, vA b1, vI 0, vI 1, .val .null, .unset] [.int 1, .int 0, (.ref b1)])) rfl (by rw [hml]; rfl) [(.ref b1), (.int (0 : Int32)), (.int (1 : Int32))] [] (lenOf pd_15 rfl) rfl (Wd := 0) (Nat.le_refl _) (hb hby d28_36) (by decide) (by decide) [] (fun _ _ _ q => q.2) all0 (fun vm0 hZ => payN (ct_cmp3_1 H b1 _ c1 A244.old Vb1 r1) (tw41 H.1) (tw40 H.1) (by decide) (by decide) hZ)
  obtain ⟨Q245, N245, -⟩ := Q245
  obtain ⟨t245, kt245, rfl, X245, D245⟩ := Q245
  have A245 := AA245 [] all0
  refine Run.st (T245.setTop (mkF m 39 #[vA a1, vA b1, vI 0, vI 1, .val .null, .unset] [(.ref t245)])) st245 ?_
  refine Run.st (T245.setTop (mkF m 45 #[vA a1, vA b1, vI 0, vI 1, .val .null, vA t245] [.int 1, (.ref t245), (.ref a1)])) (fun _ k => XS.astore A245.here hx rfl (hb hby d28_39) rfl rfl (l' := #[vA a1, vA b1, vI 0, vI 1, .val .null, vA t245]) rfl (XS.aloadN A245.here hx rfl (hb hby d28_41) rfl rfl (XS.aload A245.here hx rfl (hb hby d28_42) rfl rfl (XS.iloadN A245.here hx rfl (hb hby d28_44) rfl k)))) ?_
  rcases D245 with ⟨W245, l245⟩ | W245
  · obtain ⟨v246, T246, h246, AA246, K246, ⟨L246, Q246⟩, st246⟩ := A245.callS hx (tw45 H.1) (tw46 H.1) (tw40 H.1) (tw47 H.1) (by decide) (g := (mkF m 45 #[vA a1, vA b1, vI 0, vI 1, .val .null, vA t245] [.int 1, (.ref t245), (.ref a1)])) rfl (by rw [hml]; rfl) [(.ref t245), (.int (1 : Int32))] [(.ref a1)] (lenOf pd_17 rfl) rfl (Wd := 1) (Nat.le_refl _) (hb hby d28_45) (by decide) (by decide) [] (fun _ _ _ q => q.2) all0 (fun vm0 hZ => payN (ct_cfl1_0 H t245 _ _ A245.old W245) (tw47 H.1) (tw40 H.1) (by decide) (by decide) hZ)
    obtain ⟨Q246, N246, -⟩ := Q246
    obtain ⟨rfl, q246⟩ := Q246
    have q246 := q246.symm
    subst q246
    have A246 := AA246 [] all0
    refine Run.st (T246.setTop (mkF m 48 #[vA a1, vA b1, vI 0, vI 1, .val .null, vA t245] [.int 0, (.ref a1)])) st246 ?_
    have X248 : Ext h0 h245 := X245
    have f249 := F_coder.ext X248
    have f250 := E1.ext X248
    obtain ⟨T247, h247, A247, K247, W247, st247⟩ := A246.putF hx (tw27 H.1) Via.refl (a := a1) (List.mem_of_getElem? (i := 0) rfl) (v' := (.int (0 : Int32))) f249 f250 (Or.inr ⟨(tw23 H.1), rfl, hnm⟩) (tw7 H.1) (ty := .byte) (by decide) rfl rfl (g := (mkF m 48 #[vA a1, vA b1, vI 0, vI 1, .val .null, vA t245] [.int 0, (.ref a1)])) rfl rfl (hb hby d28_48)
    have F247 : Fld Z h247 a1 "java/lang/String" "coder" "B" (.int (0 : Int32)) := f249.same W247
    refine Run.st (T247.setTop (mkF m 51 #[vA a1, vA b1, vI 0, vI 1, .val .null, vA t245] [])) st247 ?_
    refine Run.st (T247.setTop (mkF m 54 #[vA a1, vA b1, vI 0, vI 1, .val .null, vA t245] [(.ref t245), (.ref a1)])) (fun _ k => XS.aloadN A247.here hx rfl (hb hby d28_51) rfl rfl (XS.aload A247.here hx rfl (hb hby d28_52) rfl rfl k)) ?_
    have f252 := ((F_value.ext X245).other W247 (Or.inr (slot_ne (Or.inr (tw22 H.1)) (Or.inr (tw23 H.1)) (by decide) (t := (.array .byte)) (t' := .byte) (by decide) (by decide))))
    have f253 := ((E1.ext X245).wr W247)
    obtain ⟨T251, h251, A251, K251, W251, st251⟩ := A247.putF hx (tw26 H.1) Via.refl (a := a1) (List.mem_of_getElem? (i := 0) rfl) (v' := (.ref t245)) f252 f253 (Or.inr ⟨(tw22 H.1), rfl, hnm⟩) (tw7 H.1) (ty := (.array .byte)) (by decide) rfl rfl (g := (mkF m 54 #[vA a1, vA b1, vI 0, vI 1, .val .null, vA t245] [(.ref t245), (.ref a1)])) rfl rfl (hb hby d28_54)
    have F251 : Fld Z h251 a1 "java/lang/String" "value" "[B" (.ref t245) := f252.same W251
    refine Run.st (T251.setTop (mkF m 57 #[vA a1, vA b1, vI 0, vI 1, .val .null, vA t245] [])) st251 ?_
    have f254 := ((W245.keep K247 (ninS (Ne.symm (Exa.neArv f250 W245 (tw7 H.1))) nin0)).keep K251 (ninS (Ne.symm (Exa.neArv f253 (W245.keep K247 (ninS (Ne.symm (Exa.neArv f250 W245 (tw7 H.1))) nin0)) (tw7 H.1))) nin0))
    have f255 := (((E1.ext X245).wr W247).wr W251)
    have f256 := (F247.other W251 (Or.inr (slot_ne (Or.inr (tw23 H.1)) (Or.inr (tw22 H.1)) (by decide) (t := .byte) (t' := (.array .byte)) (by decide) (by decide))))
    exact A251.leaveN hlk none (fun _ => rfl) (by decide) (by decide) ⟨rfl, f255, _, _, F251, Or.inl ⟨f256, f254, l245⟩⟩ (fun X hr => X.returnOut hx hrt (hb hby d28_57) hr)
  · obtain ⟨v257, T257, h257, AA257, K257, ⟨L257, Q257⟩, st257⟩ := A245.callS hx (tw45 H.1) (tw46 H.1) (tw40 H.1) (tw47 H.1) (by decide) (g := (mkF m 45 #[vA a1, vA b1, vI 0, vI 1, .val .null, vA t245] [.int 1, (.ref t245), (.ref a1)])) rfl (by rw [hml]; rfl) [(.ref t245), (.int (1 : Int32))] [(.ref a1)] (lenOf pd_17 rfl) rfl (Wd := 1) (Nat.le_refl _) (hb hby d28_45) (by decide) (by decide) [] (fun _ _ _ q => q.2) all0 (fun vm0 hZ => payN (ct_cfl1_1 H t245 _ _ A245.old W245) (tw47 H.1) (tw40 H.1) (by decide) (by decide) hZ)
    obtain ⟨Q257, N257, -⟩ := Q257
    obtain ⟨rfl, q257⟩ := Q257
    have q257 := q257.symm
    subst q257
    have A257 := AA257 [] all0
    refine Run.st (T257.setTop (mkF m 48 #[vA a1, vA b1, vI 0, vI 1, .val .null, vA t245] [.int 1, (.ref a1)])) st257 ?_
    have X259 : Ext h0 h245 := X245
    have f260 := F_coder.ext X259
    have f261 := E1.ext X259
    obtain ⟨T258, h258, A258, K258, W258, st258⟩ := A257.putF hx (tw27 H.1) Via.refl (a := a1) (List.mem_of_getElem? (i := 0) rfl) (v' := (.int (1 : Int32))) f260 f261 (Or.inr ⟨(tw23 H.1), rfl, hnm⟩) (tw7 H.1) (ty := .byte) (by decide) rfl rfl (g := (mkF m 48 #[vA a1, vA b1, vI 0, vI 1, .val .null, vA t245] [.int 1, (.ref a1)])) rfl rfl (hb hby d28_48)
    have F258 : Fld Z h258 a1 "java/lang/String" "coder" "B" (.int (1 : Int32)) := f260.same W258
    refine Run.st (T258.setTop (mkF m 51 #[vA a1, vA b1, vI 0, vI 1, .val .null, vA t245] [])) st258 ?_
    refine Run.st (T258.setTop (mkF m 54 #[vA a1, vA b1, vI 0, vI 1, .val .null, vA t245] [(.ref t245), (.ref a1)])) (fun _ k => XS.aloadN A258.here hx rfl (hb hby d28_51) rfl rfl (XS.aload A258.here hx rfl (hb hby d28_52) rfl rfl k)) ?_
    have f263 := ((F_value.ext X245).other W258 (Or.inr (slot_ne (Or.inr (tw22 H.1)) (Or.inr (tw23 H.1)) (by decide) (t := (.array .byte)) (t' := .byte) (by decide) (by decide))))
    have f264 := ((E1.ext X245).wr W258)
    obtain ⟨T262, h262, A262, K262, W262, st262⟩ := A258.putF hx (tw26 H.1) Via.refl (a := a1) (List.mem_of_getElem? (i := 0) rfl) (v' := (.ref t245)) f263 f264 (Or.inr ⟨(tw22 H.1), rfl, hnm⟩) (tw7 H.1) (ty := (.array .byte)) (by decide) rfl rfl (g := (mkF m 54 #[vA a1, vA b1, vI 0, vI 1, .val .null, vA t245] [(.ref t245), (.ref a1)])) rfl rfl (hb hby d28_54)
    have F262 : Fld Z h262 a1 "java/lang/String" "value" "[B" (.ref t245) := f263.same W262
    refine Run.st (T262.setTop (mkF m 57 #[vA a1, vA b1, vI 0, vI 1, .val .null, vA t245] [])) st262 ?_
    have f265 := ((W245.keep K258 (ninS (Ne.symm (Exa.neArv f261 W245 (tw7 H.1))) nin0)).keep K262 (ninS (Ne.symm (Exa.neArv f264 (W245.keep K258 (ninS (Ne.symm (Exa.neArv f261 W245 (tw7 H.1))) nin0)) (tw7 H.1))) nin0))
    have f266 := (((E1.ext X245).wr W258).wr W262)
    have f267 := (F258.other W262 (Or.inr (slot_ne (Or.inr (tw23 H.1)) (Or.inr (tw22 H.1)) (by decide) (t := .byte) (t' := (.array .byte)) (by decide) (by decide))))
    exact A262.leaveN hlk none (fun _ => rfl) (by decide) (by decide) ⟨rfl, f266, _, _, F262, Or.inr ⟨f267, f265, Nat.le_of_ble_eq_true rfl⟩⟩ (fun X hr => X.returnOut hx hrt (hb hby d28_57) hr)
theorem ef_nw4_2 (m : MethodId) (y0 : Addr) (y1 : Addr) (y2 : Int32) (y3 : Int32) : entryFrame m #[(.ref y0), (.ref y1), (.int y2), (.int y3), .null] 6 = mkF m 0 #[vA y0, vA y1, vI y2, vI y3, .val .null, .unset] [] := by first | (simp [entryFrame, mkF, argsToLocals, vI, vA, Value.category, maxLocals]; done) | rfl
def Q_nw4_2 (Z : State) (a1 : Addr) (u1 : Value) (u2 : Value) (b1 : Addr) (kC : ClassId) (c1 : Int32) (c2 : Int32) (h0 : Heap) (v : Option Value) (h : Heap) : Prop := v = none ∧ StrU Z h a1 [c1, c2]
def rm_nw4_2 : Room := { frames := 4, cells := 2, slots := 6, locals := 57 }
set_option maxRecDepth 65536 in
set_option maxHeartbeats 40000000 in
theorem ct_nw4_2 {l : Launch} {Z : State} {a0 : Array Value} (H : Ev Z a0) (a1 : Addr) (u1 : Value) (u2 : Value) (b1 : Addr) (kC : ClassId) (c1 : Int32) (c2 : Int32) {h0 : Heap} {n0 : Nat} (O0 : Old Z n0 h0) (E1 : Exa Z h0 a1 "java/lang/String") (g_a1 : n0 ≤ a1) (z_a1 : a1 < h0.size) (F_value : Fld Z h0 a1 "java/lang/String" "value" "[B" u1) (F_coder : Fld Z h0 a1 "java/lang/String" "coder" "B" u2) (Vb1 : Arv Z h0 b1 kC .char (2 : Int32) [(.int c1), (.int c2)] (.int 0)) (r1 : R16 c1) (r2 : R16 c2) : CtrN l Z (⟨"java/lang/String", "<init>", "([CIILjava/lang/Void;)V"⟩ : MethodName) jdk_42_method_149_code 6 none [] rm_nw4_2 #[(.ref a1), (.ref b1), (.int (0 : Int32)), (.int (2 : Int32)), .null] h0 [a1] n0 (Q_nw4_2 Z a1 u1 u2 b1 kC c1 c2 h0) := by
  refine enterN (a0 := a0) (plainFor_of_name pn_1) O0 (allS ⟨g_a1, z_a1⟩ all0) ?_
  intro p e s m below meth c T0 hx hby hml hrt hnm hlk A0
  replace A0 : Wk false Z a0 [] n0 h0 [a1] "java/lang/String" p l e rm_nw4_2 s m #[(.ref a1), (.ref b1), (.int (0 : Int32)), (.int (2 : Int32)), .null] below meth c [a1] T0 h0 0 0 := A0
  refine Run.st (T0.setTop (mkF m 0 #[vA a1, vA b1, vI 0, vI 2, .val .null, .unset] [])) (fun _ k => castTop (ef_nw4_2 m a1 b1 (0 : Int32) (2 : Int32)) k) ?_
  obtain ⟨zc, Sc, hzc⟩ := H.2.1
  obtain ⟨fm, Sfm, rfm⟩ := H.2.2.1
  refine Run.st (T0.setTop (mkF m 1 #[vA a1, vA b1, vI 0, vI 2, .val .null, .unset] [(.ref a1)])) (fun _ k => XS.aloadN A0.here hx rfl (hb hby d28_0) rfl rfl k) ?_
  obtain ⟨T268, A268, st268⟩ := A0.initO hx (tw17 H.1) (tw18 H.1) (tw19 H.1) (g := (mkF m 1 #[vA a1, vA b1, vI 0, vI 2, .val .null, .unset] [(.ref a1)])) rfl (by rw [hml]; rfl) rfl (hb hby d28_1) (by decide) (Wd := 0) (Nat.le_refl _) (by decide)
  refine Run.st (T268.setTop (mkF m 4 #[vA a1, vA b1, vI 0, vI 2, .val .null, .unset] [])) st268 ?_
  refine Run.st (T268.setTop (mkF m 27 #[vA a1, vA b1, vI 0, vI 2, .val .null, .unset] [])) (fun _ k => XS.iloadN A268.here hx rfl (hb hby d28_4) rfl (XS.ifYes A268.here hx rfl (pc0 := 5) (pc' := 27) rfl (hb hby d28_5) rfl (by decide) (by decide) (by decide) k)) ?_
  obtain ⟨T269, A269, st269⟩ := A268.getS hx (tw37 H.1) Via.refl (Sc.ext A268.old.2) (g := (mkF m 27 #[vA a1, vA b1, vI 0, vI 2, .val .null, .unset] [])) rfl (hb hby d28_27)
  refine Run.st (T269.setTop (mkF m 30 #[vA a1, vA b1, vI 0, vI 2, .val .null, .unset] [.int zc])) st269 ?_
  refine Run.st (T269.setTop (mkF m 36 #[vA a1, vA b1, vI 0, vI 2, .val .null, .unset] [.int 2, .int 0, (.ref b1)])) (fun _ k => XS.ifNo A269.here hx rfl (hb hby d28_30) rfl (by rw [if0]; exact (feq hzc).1) (XS.aloadN A269.here hx rfl (hb hby d28_33) rfl rfl (XS.iloadN A269.here hx rfl (hb hby d28_34) rfl (XS.iloadN A269.here hx rfl (hb hby d28_35) rfl k)))) ?_
  obtain ⟨v270, T270, h270, AA270, K270, ⟨L270, Q270⟩, st270⟩ := A269.callS hx (tw38 H.1) (tw39 H.1) (tw40 H.1) (tw41 H.1) (by decide) (g := (mkF m 36 #[vA a1, vA b1, vI 0, vI 2, .val .null, .unset] [.int 2, .int 0, (.ref b1)])) rfl (by rw [hml]; rfl) [(.ref b1), (.int (0 : Int32)), (.int (2 : Int32))] [] (lenOf pd_15 rfl) rfl (Wd := 0) (Nat.le_refl _) (hb hby d28_36) (by decide) (by decide) [] (fun _ _ _ q => q.2) all0 (fun vm0 hZ => payN (ct_cmp3_2 H b1 _ c1 c2 A269.old Vb1 r1 r2) (tw41 H.1) (tw40 H.1) (by decide) (by decide) hZ)
  obtain ⟨Q270, N270, -⟩ := Q270
  obtain ⟨t270, kt270, rfl, X270, D270⟩ := Q270
  have A270 := AA270 [] all0
  refine Run.st (T270.setTop (mkF m 39 #[vA a1, vA b1, vI 0, vI 2, .val .null, .unset] [(.ref t270)])) st270 ?_
  refine Run.st (T270.setTop (mkF m 45 #[vA a1, vA b1, vI 0, vI 2, .val .null, vA t270] [.int 2, (.ref t270), (.ref a1)])) (fun _ k => XS.astore A270.here hx rfl (hb hby d28_39) rfl rfl (l' := #[vA a1, vA b1, vI 0, vI 2, .val .null, vA t270]) rfl (XS.aloadN A270.here hx rfl (hb hby d28_41) rfl rfl (XS.aload A270.here hx rfl (hb hby d28_42) rfl rfl (XS.iloadN A270.here hx rfl (hb hby d28_44) rfl k)))) ?_
  rcases D270 with ⟨W270, l270⟩ | W270
  · obtain ⟨v271, T271, h271, AA271, K271, ⟨L271, Q271⟩, st271⟩ := A270.callS hx (tw45 H.1) (tw46 H.1) (tw40 H.1) (tw47 H.1) (by decide) (g := (mkF m 45 #[vA a1, vA b1, vI 0, vI 2, .val .null, vA t270] [.int 2, (.ref t270), (.ref a1)])) rfl (by rw [hml]; rfl) [(.ref t270), (.int (2 : Int32))] [(.ref a1)] (lenOf pd_17 rfl) rfl (Wd := 1) (Nat.le_refl _) (hb hby d28_45) (by decide) (by decide) [] (fun _ _ _ q => q.2) all0 (fun vm0 hZ => payN (ct_cfl2_0 H t270 _ _ A270.old W270) (tw47 H.1) (tw40 H.1) (by decide) (by decide) hZ)
    obtain ⟨Q271, N271, -⟩ := Q271
    obtain ⟨rfl, q271⟩ := Q271
    have q271 := q271.symm
    subst q271
    have A271 := AA271 [] all0
    refine Run.st (T271.setTop (mkF m 48 #[vA a1, vA b1, vI 0, vI 2, .val .null, vA t270] [.int 0, (.ref a1)])) st271 ?_
    have X273 : Ext h0 h270 := X270
    have f274 := F_coder.ext X273
    have f275 := E1.ext X273
    obtain ⟨T272, h272, A272, K272, W272, st272⟩ := A271.putF hx (tw27 H.1) Via.refl (a := a1) (List.mem_of_getElem? (i := 0) rfl) (v' := (.int (0 : Int32))) f274 f275 (Or.inr ⟨(tw23 H.1), rfl, hnm⟩) (tw7 H.1) (ty := .byte) (by decide) rfl rfl (g := (mkF m 48 #[vA a1, vA b1, vI 0, vI 2, .val .null, vA t270] [.int 0, (.ref a1)])) rfl rfl (hb hby d28_48)
    have F272 : Fld Z h272 a1 "java/lang/String" "coder" "B" (.int (0 : Int32)) := f274.same W272
    refine Run.st (T272.setTop (mkF m 51 #[vA a1, vA b1, vI 0, vI 2, .val .null, vA t270] [])) st272 ?_
    refine Run.st (T272.setTop (mkF m 54 #[vA a1, vA b1, vI 0, vI 2, .val .null, vA t270] [(.ref t270), (.ref a1)])) (fun _ k => XS.aloadN A272.here hx rfl (hb hby d28_51) rfl rfl (XS.aload A272.here hx rfl (hb hby d28_52) rfl rfl k)) ?_
    have f277 := ((F_value.ext X270).other W272 (Or.inr (slot_ne (Or.inr (tw22 H.1)) (Or.inr (tw23 H.1)) (by decide) (t := (.array .byte)) (t' := .byte) (by decide) (by decide))))
    have f278 := ((E1.ext X270).wr W272)
    obtain ⟨T276, h276, A276, K276, W276, st276⟩ := A272.putF hx (tw26 H.1) Via.refl (a := a1) (List.mem_of_getElem? (i := 0) rfl) (v' := (.ref t270)) f277 f278 (Or.inr ⟨(tw22 H.1), rfl, hnm⟩) (tw7 H.1) (ty := (.array .byte)) (by decide) rfl rfl (g := (mkF m 54 #[vA a1, vA b1, vI 0, vI 2, .val .null, vA t270] [(.ref t270), (.ref a1)])) rfl rfl (hb hby d28_54)
    have F276 : Fld Z h276 a1 "java/lang/String" "value" "[B" (.ref t270) := f277.same W276
    refine Run.st (T276.setTop (mkF m 57 #[vA a1, vA b1, vI 0, vI 2, .val .null, vA t270] [])) st276 ?_
    have f279 := ((W270.keep K272 (ninS (Ne.symm (Exa.neArv f275 W270 (tw7 H.1))) nin0)).keep K276 (ninS (Ne.symm (Exa.neArv f278 (W270.keep K272 (ninS (Ne.symm (Exa.neArv f275 W270 (tw7 H.1))) nin0)) (tw7 H.1))) nin0))
    have f280 := (((E1.ext X270).wr W272).wr W276)
    have f281 := (F272.other W276 (Or.inr (slot_ne (Or.inr (tw23 H.1)) (Or.inr (tw22 H.1)) (by decide) (t := .byte) (t' := (.array .byte)) (by decide) (by decide))))
    exact A276.leaveN hlk none (fun _ => rfl) (by decide) (by decide) ⟨rfl, f280, _, _, F276, Or.inl ⟨f281, f279, l270⟩⟩ (fun X hr => X.returnOut hx hrt (hb hby d28_57) hr)
  · obtain ⟨v282, T282, h282, AA282, K282, ⟨L282, Q282⟩, st282⟩ := A270.callS hx (tw45 H.1) (tw46 H.1) (tw40 H.1) (tw47 H.1) (by decide) (g := (mkF m 45 #[vA a1, vA b1, vI 0, vI 2, .val .null, vA t270] [.int 2, (.ref t270), (.ref a1)])) rfl (by rw [hml]; rfl) [(.ref t270), (.int (2 : Int32))] [(.ref a1)] (lenOf pd_17 rfl) rfl (Wd := 1) (Nat.le_refl _) (hb hby d28_45) (by decide) (by decide) [] (fun _ _ _ q => q.2) all0 (fun vm0 hZ => payN (ct_cfl2_1 H t270 _ _ A270.old W270) (tw47 H.1) (tw40 H.1) (by decide) (by decide) hZ)
    obtain ⟨Q282, N282, -⟩ := Q282
    obtain ⟨rfl, q282⟩ := Q282
    have q282 := q282.symm
    subst q282
    have A282 := AA282 [] all0
    refine Run.st (T282.setTop (mkF m 48 #[vA a1, vA b1, vI 0, vI 2, .val .null, vA t270] [.int 1, (.ref a1)])) st282 ?_
    have X284 : Ext h0 h270 := X270
    have f285 := F_coder.ext X284
    have f286 := E1.ext X284
    obtain ⟨T283, h283, A283, K283, W283, st283⟩ := A282.putF hx (tw27 H.1) Via.refl (a := a1) (List.mem_of_getElem? (i := 0) rfl) (v' := (.int (1 : Int32))) f285 f286 (Or.inr ⟨(tw23 H.1), rfl, hnm⟩) (tw7 H.1) (ty := .byte) (by decide) rfl rfl (g := (mkF m 48 #[vA a1, vA b1, vI 0, vI 2, .val .null, vA t270] [.int 1, (.ref a1)])) rfl rfl (hb hby d28_48)
    have F283 : Fld Z h283 a1 "java/lang/String" "coder" "B" (.int (1 : Int32)) := f285.same W283
    refine Run.st (T283.setTop (mkF m 51 #[vA a1, vA b1, vI 0, vI 2, .val .null, vA t270] [])) st283 ?_
    refine Run.st (T283.setTop (mkF m 54 #[vA a1, vA b1, vI 0, vI 2, .val .null, vA t270] [(.ref t270), (.ref a1)])) (fun _ k => XS.aloadN A283.here hx rfl (hb hby d28_51) rfl rfl (XS.aload A283.here hx rfl (hb hby d28_52) rfl rfl k)) ?_
    have f288 := ((F_value.ext X270).other W283 (Or.inr (slot_ne (Or.inr (tw22 H.1)) (Or.inr (tw23 H.1)) (by decide) (t := (.array .byte)) (t' := .byte) (by decide) (by decide))))
    have f289 := ((E1.ext X270).wr W283)
    obtain ⟨T287, h287, A287, K287, W287, st287⟩ := A283.putF hx (tw26 H.1) Via.refl (a := a1) (List.mem_of_getElem? (i := 0) rfl) (v' := (.ref t270)) f288 f289 (Or.inr ⟨(tw22 H.1), rfl, hnm⟩) (tw7 H.1) (ty := (.array .byte)) (by decide) rfl rfl (g := (mkF m 54 #[vA a1, vA b1, vI 0, vI 2, .val .null, vA t270] [(.ref t270), (.ref a1)])) rfl rfl (hb hby d28_54)
    have F287 : Fld Z h287 a1 "java/lang/String" "value" "[B" (.ref t270) := f288.same W287
    refine Run.st (T287.setTop (mkF m 57 #[vA a1, vA b1, vI 0, vI 2, .val .null, vA t270] [])) st287 ?_
    have f290 := ((W270.keep K283 (ninS (Ne.symm (Exa.neArv f286 W270 (tw7 H.1))) nin0)).keep K287 (ninS (Ne.symm (Exa.neArv f289 (W270.keep K283 (ninS (Ne.symm (Exa.neArv f286 W270 (tw7 H.1))) nin0)) (tw7 H.1))) nin0))
    have f291 := (((E1.ext X270).wr W283).wr W287)
    have f292 := (F283.other W287 (Or.inr (slot_ne (Or.inr (tw23 H.1)) (Or.inr (tw22 H.1)) (by decide) (t := .byte) (t' := (.array .byte)) (by decide) (by decide))))
    exact A287.leaveN hlk none (fun _ => rfl) (by decide) (by decide) ⟨rfl, f291, _, _, F287, Or.inr ⟨f292, f290, Nat.le_of_ble_eq_true rfl⟩⟩ (fun X hr => X.returnOut hx hrt (hb hby d28_57) hr)
theorem ef_nw4_3 (m : MethodId) (y0 : Addr) (y1 : Addr) (y2 : Int32) (y3 : Int32) : entryFrame m #[(.ref y0), (.ref y1), (.int y2), (.int y3), .null] 6 = mkF m 0 #[vA y0, vA y1, vI y2, vI y3, .val .null, .unset] [] := by first | (simp [entryFrame, mkF, argsToLocals, vI, vA, Value.category, maxLocals]; done) | rfl
def Q_nw4_3 (Z : State) (a1 : Addr) (u1 : Value) (u2 : Value) (b1 : Addr) (kC : ClassId) (c1 : Int32) (c2 : Int32) (c3 : Int32) (h0 : Heap) (v : Option Value) (h : Heap) : Prop := v = none ∧ StrU Z h a1 [c1, c2, c3]
def rm_nw4_3 : Room := { frames := 4, cells := 2, slots := 9, locals := 57 }
set_option maxRecDepth 65536 in
set_option maxHeartbeats 40000000 in
theorem ct_nw4_3 {l : Launch} {Z : State} {a0 : Array Value} (H : Ev Z a0) (a1 : Addr) (u1 : Value) (u2 : Value) (b1 : Addr) (kC : ClassId) (c1 : Int32) (c2 : Int32) (c3 : Int32) {h0 : Heap} {n0 : Nat} (O0 : Old Z n0 h0) (E1 : Exa Z h0 a1 "java/lang/String") (g_a1 : n0 ≤ a1) (z_a1 : a1 < h0.size) (F_value : Fld Z h0 a1 "java/lang/String" "value" "[B" u1) (F_coder : Fld Z h0 a1 "java/lang/String" "coder" "B" u2) (Vb1 : Arv Z h0 b1 kC .char (3 : Int32) [(.int c1), (.int c2), (.int c3)] (.int 0)) (r1 : R16 c1) (r2 : R16 c2) (r3 : R16 c3) : CtrN l Z (⟨"java/lang/String", "<init>", "([CIILjava/lang/Void;)V"⟩ : MethodName) jdk_42_method_149_code 6 none [] rm_nw4_3 #[(.ref a1), (.ref b1), (.int (0 : Int32)), (.int (3 : Int32)), .null] h0 [a1] n0 (Q_nw4_3 Z a1 u1 u2 b1 kC c1 c2 c3 h0) := by
  refine enterN (a0 := a0) (plainFor_of_name pn_1) O0 (allS ⟨g_a1, z_a1⟩ all0) ?_
  intro p e s m below meth c T0 hx hby hml hrt hnm hlk A0
  replace A0 : Wk false Z a0 [] n0 h0 [a1] "java/lang/String" p l e rm_nw4_3 s m #[(.ref a1), (.ref b1), (.int (0 : Int32)), (.int (3 : Int32)), .null] below meth c [a1] T0 h0 0 0 := A0
  refine Run.st (T0.setTop (mkF m 0 #[vA a1, vA b1, vI 0, vI 3, .val .null, .unset] [])) (fun _ k => castTop (ef_nw4_3 m a1 b1 (0 : Int32) (3 : Int32)) k) ?_
  obtain ⟨zc, Sc, hzc⟩ := H.2.1
  obtain ⟨fm, Sfm, rfm⟩ := H.2.2.1
  refine Run.st (T0.setTop (mkF m 1 #[vA a1, vA b1, vI 0, vI 3, .val .null, .unset] [(.ref a1)])) (fun _ k => XS.aloadN A0.here hx rfl (hb hby d28_0) rfl rfl k) ?_
  obtain ⟨T293, A293, st293⟩ := A0.initO hx (tw17 H.1) (tw18 H.1) (tw19 H.1) (g := (mkF m 1 #[vA a1, vA b1, vI 0, vI 3, .val .null, .unset] [(.ref a1)])) rfl (by rw [hml]; rfl) rfl (hb hby d28_1) (by decide) (Wd := 0) (Nat.le_refl _) (by decide)
  refine Run.st (T293.setTop (mkF m 4 #[vA a1, vA b1, vI 0, vI 3, .val .null, .unset] [])) st293 ?_
  refine Run.st (T293.setTop (mkF m 27 #[vA a1, vA b1, vI 0, vI 3, .val .null, .unset] [])) (fun _ k => XS.iloadN A293.here hx rfl (hb hby d28_4) rfl (XS.ifYes A293.here hx rfl (pc0 := 5) (pc' := 27) rfl (hb hby d28_5) rfl (by decide) (by decide) (by decide) k)) ?_
  obtain ⟨T294, A294, st294⟩ := A293.getS hx (tw37 H.1) Via.refl (Sc.ext A293.old.2) (g := (mkF m 27 #[vA a1, vA b1, vI 0, vI 3, .val .null, .unset] [])) rfl (hb hby d28_27)
  refine Run.st (T294.setTop (mkF m 30 #[vA a1, vA b1, vI 0, vI 3, .val .null, .unset] [.int zc])) st294 ?_
  refine Run.st (T294.setTop (mkF m 36 #[vA a1, vA b1, vI 0, vI 3, .val .null, .unset] [.int 3, .int 0, (.ref b1)])) (fun _ k => XS.ifNo A294.here hx rfl (hb hby d28_30) rfl (by rw [if0]; exact (feq hzc).1) (XS.aloadN A294.here hx rfl (hb hby d28_33) rfl rfl (XS.iloadN A294.here hx rfl (hb hby d28_34) rfl (XS.iloadN A294.here hx rfl (hb hby d28_35) rfl k)))) ?_
  obtain ⟨v295, T295, h295, AA295, K295, ⟨L295, Q295⟩, st295⟩ := A294.callS hx (tw38 H.1) (tw39 H.1) (tw40 H.1) (tw41 H.1) (by decide) (g := (mkF m 36 #[vA a1, vA b1, vI 0, vI 3, .val .null, .unset] [.int 3, .int 0, (.ref b1)])) rfl (by rw [hml]; rfl) [(.ref b1), (.int (0 : Int32)), (.int (3 : Int32))] [] (lenOf pd_15 rfl) rfl (Wd := 0) (Nat.le_refl _) (hb hby d28_36) (by decide) (by decide) [] (fun _ _ _ q => q.2) all0 (fun vm0 hZ => payN (ct_cmp3_3 H b1 _ c1 c2 c3 A294.old Vb1 r1 r2 r3) (tw41 H.1) (tw40 H.1) (by decide) (by decide) hZ)
  obtain ⟨Q295, N295, -⟩ := Q295
  obtain ⟨t295, kt295, rfl, X295, D295⟩ := Q295
  have A295 := AA295 [] all0
  refine Run.st (T295.setTop (mkF m 39 #[vA a1, vA b1, vI 0, vI 3, .val .null, .unset] [(.ref t295)])) st295 ?_
  refine Run.st (T295.setTop (mkF m 45 #[vA a1, vA b1, vI 0, vI 3, .val .null, vA t295] [.int 3, (.ref t295), (.ref a1)])) (fun _ k => XS.astore A295.here hx rfl (hb hby d28_39) rfl rfl (l' := #[vA a1, vA b1, vI 0, vI 3, .val .null, vA t295]) rfl (XS.aloadN A295.here hx rfl (hb hby d28_41) rfl rfl (XS.aload A295.here hx rfl (hb hby d28_42) rfl rfl (XS.iloadN A295.here hx rfl (hb hby d28_44) rfl k)))) ?_
  rcases D295 with ⟨W295, l295⟩ | W295
  · obtain ⟨v296, T296, h296, AA296, K296, ⟨L296, Q296⟩, st296⟩ := A295.callS hx (tw45 H.1) (tw46 H.1) (tw40 H.1) (tw47 H.1) (by decide) (g := (mkF m 45 #[vA a1, vA b1, vI 0, vI 3, .val .null, vA t295] [.int 3, (.ref t295), (.ref a1)])) rfl (by rw [hml]; rfl) [(.ref t295), (.int (3 : Int32))] [(.ref a1)] (lenOf pd_17 rfl) rfl (Wd := 1) (Nat.le_refl _) (hb hby d28_45) (by decide) (by decide) [] (fun _ _ _ q => q.2) all0 (fun vm0 hZ => payN (ct_cfl3_0 H t295 _ _ A295.old W295) (tw47 H.1) (tw40 H.1) (by decide) (by decide) hZ)
    obtain ⟨Q296, N296, -⟩ := Q296
    obtain ⟨rfl, q296⟩ := Q296
    have q296 := q296.symm
    subst q296
    have A296 := AA296 [] all0
    refine Run.st (T296.setTop (mkF m 48 #[vA a1, vA b1, vI 0, vI 3, .val .null, vA t295] [.int 0, (.ref a1)])) st296 ?_
    have X298 : Ext h0 h295 := X295
    have f299 := F_coder.ext X298
    have f300 := E1.ext X298
    obtain ⟨T297, h297, A297, K297, W297, st297⟩ := A296.putF hx (tw27 H.1) Via.refl (a := a1) (List.mem_of_getElem? (i := 0) rfl) (v' := (.int (0 : Int32))) f299 f300 (Or.inr ⟨(tw23 H.1), rfl, hnm⟩) (tw7 H.1) (ty := .byte) (by decide) rfl rfl (g := (mkF m 48 #[vA a1, vA b1, vI 0, vI 3, .val .null, vA t295] [.int 0, (.ref a1)])) rfl rfl (hb hby d28_48)
    have F297 : Fld Z h297 a1 "java/lang/String" "coder" "B" (.int (0 : Int32)) := f299.same W297
    refine Run.st (T297.setTop (mkF m 51 #[vA a1, vA b1, vI 0, vI 3, .val .null, vA t295] [])) st297 ?_
    refine Run.st (T297.setTop (mkF m 54 #[vA a1, vA b1, vI 0, vI 3, .val .null, vA t295] [(.ref t295), (.ref a1)])) (fun _ k => XS.aloadN A297.here hx rfl (hb hby d28_51) rfl rfl (XS.aload A297.here hx rfl (hb hby d28_52) rfl rfl k)) ?_
    have f302 := ((F_value.ext X295).other W297 (Or.inr (slot_ne (Or.inr (tw22 H.1)) (Or.inr (tw23 H.1)) (by decide) (t := (.array .byte)) (t' := .byte) (by decide) (by decide))))
    have f303 := ((E1.ext X295).wr W297)
    obtain ⟨T301, h301, A301, K301, W301, st301⟩ := A297.putF hx (tw26 H.1) Via.refl (a := a1) (List.mem_of_getElem? (i := 0) rfl) (v' := (.ref t295)) f302 f303 (Or.inr ⟨(tw22 H.1), rfl, hnm⟩) (tw7 H.1) (ty := (.array .byte)) (by decide) rfl rfl (g := (mkF m 54 #[vA a1, vA b1, vI 0, vI 3, .val .null, vA t295] [(.ref t295), (.ref a1)])) rfl rfl (hb hby d28_54)
    have F301 : Fld Z h301 a1 "java/lang/String" "value" "[B" (.ref t295) := f302.same W301
    refine Run.st (T301.setTop (mkF m 57 #[vA a1, vA b1, vI 0, vI 3, .val .null, vA t295] [])) st301 ?_
    have f304 := ((W295.keep K297 (ninS (Ne.symm (Exa.neArv f300 W295 (tw7 H.1))) nin0)).keep K301 (ninS (Ne.symm (Exa.neArv f303 (W295.keep K297 (ninS (Ne.symm (Exa.neArv f300 W295 (tw7 H.1))) nin0)) (tw7 H.1))) nin0))
    have f305 := (((E1.ext X295).wr W297).wr W301)
    have f306 := (F297.other W301 (Or.inr (slot_ne (Or.inr (tw23 H.1)) (Or.inr (tw22 H.1)) (by decide) (t := .byte) (t' := (.array .byte)) (by decide) (by decide))))
    exact A301.leaveN hlk none (fun _ => rfl) (by decide) (by decide) ⟨rfl, f305, _, _, F301, Or.inl ⟨f306, f304, l295⟩⟩ (fun X hr => X.returnOut hx hrt (hb hby d28_57) hr)
  · obtain ⟨v307, T307, h307, AA307, K307, ⟨L307, Q307⟩, st307⟩ := A295.callS hx (tw45 H.1) (tw46 H.1) (tw40 H.1) (tw47 H.1) (by decide) (g := (mkF m 45 #[vA a1, vA b1, vI 0, vI 3, .val .null, vA t295] [.int 3, (.ref t295), (.ref a1)])) rfl (by rw [hml]; rfl) [(.ref t295), (.int (3 : Int32))] [(.ref a1)] (lenOf pd_17 rfl) rfl (Wd := 1) (Nat.le_refl _) (hb hby d28_45) (by decide) (by decide) [] (fun _ _ _ q => q.2) all0 (fun vm0 hZ => payN (ct_cfl3_1 H t295 _ _ A295.old W295) (tw47 H.1) (tw40 H.1) (by decide) (by decide) hZ)
    obtain ⟨Q307, N307, -⟩ := Q307
    obtain ⟨rfl, q307⟩ := Q307
    have q307 := q307.symm
    subst q307
    have A307 := AA307 [] all0
    refine Run.st (T307.setTop (mkF m 48 #[vA a1, vA b1, vI 0, vI 3, .val .null, vA t295] [.int 1, (.ref a1)])) st307 ?_
    have X309 : Ext h0 h295 := X295
    have f310 := F_coder.ext X309
    have f311 := E1.ext X309
    obtain ⟨T308, h308, A308, K308, W308, st308⟩ := A307.putF hx (tw27 H.1) Via.refl (a := a1) (List.mem_of_getElem? (i := 0) rfl) (v' := (.int (1 : Int32))) f310 f311 (Or.inr ⟨(tw23 H.1), rfl, hnm⟩) (tw7 H.1) (ty := .byte) (by decide) rfl rfl (g := (mkF m 48 #[vA a1, vA b1, vI 0, vI 3, .val .null, vA t295] [.int 1, (.ref a1)])) rfl rfl (hb hby d28_48)
    have F308 : Fld Z h308 a1 "java/lang/String" "coder" "B" (.int (1 : Int32)) := f310.same W308
    refine Run.st (T308.setTop (mkF m 51 #[vA a1, vA b1, vI 0, vI 3, .val .null, vA t295] [])) st308 ?_
    refine Run.st (T308.setTop (mkF m 54 #[vA a1, vA b1, vI 0, vI 3, .val .null, vA t295] [(.ref t295), (.ref a1)])) (fun _ k => XS.aloadN A308.here hx rfl (hb hby d28_51) rfl rfl (XS.aload A308.here hx rfl (hb hby d28_52) rfl rfl k)) ?_
    have f313 := ((F_value.ext X295).other W308 (Or.inr (slot_ne (Or.inr (tw22 H.1)) (Or.inr (tw23 H.1)) (by decide) (t := (.array .byte)) (t' := .byte) (by decide) (by decide))))
    have f314 := ((E1.ext X295).wr W308)
    obtain ⟨T312, h312, A312, K312, W312, st312⟩ := A308.putF hx (tw26 H.1) Via.refl (a := a1) (List.mem_of_getElem? (i := 0) rfl) (v' := (.ref t295)) f313 f314 (Or.inr ⟨(tw22 H.1), rfl, hnm⟩) (tw7 H.1) (ty := (.array .byte)) (by decide) rfl rfl (g := (mkF m 54 #[vA a1, vA b1, vI 0, vI 3, .val .null, vA t295] [(.ref t295), (.ref a1)])) rfl rfl (hb hby d28_54)
    have F312 : Fld Z h312 a1 "java/lang/String" "value" "[B" (.ref t295) := f313.same W312
    refine Run.st (T312.setTop (mkF m 57 #[vA a1, vA b1, vI 0, vI 3, .val .null, vA t295] [])) st312 ?_
    have f315 := ((W295.keep K308 (ninS (Ne.symm (Exa.neArv f311 W295 (tw7 H.1))) nin0)).keep K312 (ninS (Ne.symm (Exa.neArv f314 (W295.keep K308 (ninS (Ne.symm (Exa.neArv f311 W295 (tw7 H.1))) nin0)) (tw7 H.1))) nin0))
    have f316 := (((E1.ext X295).wr W308).wr W312)
    have f317 := (F308.other W312 (Or.inr (slot_ne (Or.inr (tw23 H.1)) (Or.inr (tw22 H.1)) (by decide) (t := .byte) (t' := (.array .byte)) (by decide) (by decide))))
    exact A312.leaveN hlk none (fun _ => rfl) (by decide) (by decide) ⟨rfl, f316, _, _, F312, Or.inr ⟨f317, f315, Nat.le_of_ble_eq_true rfl⟩⟩ (fun X hr => X.returnOut hx hrt (hb hby d28_57) hr)
theorem ef_nw4_4 (m : MethodId) (y0 : Addr) (y1 : Addr) (y2 : Int32) (y3 : Int32) : entryFrame m #[(.ref y0), (.ref y1), (.int y2), (.int y3), .null] 6 = mkF m 0 #[vA y0, vA y1, vI y2, vI y3, .val .null, .unset] [] := by first | (simp [entryFrame, mkF, argsToLocals, vI, vA, Value.category, maxLocals]; done) | rfl
def Q_nw4_4 (Z : State) (a1 : Addr) (u1 : Value) (u2 : Value) (b1 : Addr) (kC : ClassId) (c1 : Int32) (c2 : Int32) (c3 : Int32) (c4 : Int32) (h0 : Heap) (v : Option Value) (h : Heap) : Prop := v = none ∧ StrU Z h a1 [c1, c2, c3, c4]
def rm_nw4_4 : Room := { frames := 4, cells := 2, slots := 12, locals := 57 }
set_option maxRecDepth 65536 in
set_option maxHeartbeats 40000000 in
theorem ct_nw4_4 {l : Launch} {Z : State} {a0 : Array Value} (H : Ev Z a0) (a1 : Addr) (u1 : Value) (u2 : Value) (b1 : Addr) (kC : ClassId) (c1 : Int32) (c2 : Int32) (c3 : Int32) (c4 : Int32) {h0 : Heap} {n0 : Nat} (O0 : Old Z n0 h0) (E1 : Exa Z h0 a1 "java/lang/String") (g_a1 : n0 ≤ a1) (z_a1 : a1 < h0.size) (F_value : Fld Z h0 a1 "java/lang/String" "value" "[B" u1) (F_coder : Fld Z h0 a1 "java/lang/String" "coder" "B" u2) (Vb1 : Arv Z h0 b1 kC .char (4 : Int32) [(.int c1), (.int c2), (.int c3), (.int c4)] (.int 0)) (r1 : R16 c1) (r2 : R16 c2) (r3 : R16 c3) (r4 : R16 c4) : CtrN l Z (⟨"java/lang/String", "<init>", "([CIILjava/lang/Void;)V"⟩ : MethodName) jdk_42_method_149_code 6 none [] rm_nw4_4 #[(.ref a1), (.ref b1), (.int (0 : Int32)), (.int (4 : Int32)), .null] h0 [a1] n0 (Q_nw4_4 Z a1 u1 u2 b1 kC c1 c2 c3 c4 h0) := by
  refine enterN (a0 := a0) (plainFor_of_name pn_1) O0 (allS ⟨g_a1, z_a1⟩ all0) ?_
  intro p e s m below meth c T0 hx hby hml hrt hnm hlk A0
  replace A0 : Wk false Z a0 [] n0 h0 [a1] "java/lang/String" p l e rm_nw4_4 s m #[(.ref a1), (.ref b1), (.int (0 : Int32)), (.int (4 : Int32)), .null] below meth c [a1] T0 h0 0 0 := A0
  refine Run.st (T0.setTop (mkF m 0 #[vA a1, vA b1, vI 0, vI 4, .val .null, .unset] [])) (fun _ k => castTop (ef_nw4_4 m a1 b1 (0 : Int32) (4 : Int32)) k) ?_
  obtain ⟨zc, Sc, hzc⟩ := H.2.1
  obtain ⟨fm, Sfm, rfm⟩ := H.2.2.1
  refine Run.st (T0.setTop (mkF m 1 #[vA a1, vA b1, vI 0, vI 4, .val .null, .unset] [(.ref a1)])) (fun _ k => XS.aloadN A0.here hx rfl (hb hby d28_0) rfl rfl k) ?_
  obtain ⟨T318, A318, st318⟩ := A0.initO hx (tw17 H.1) (tw18 H.1) (tw19 H.1) (g := (mkF m 1 #[vA a1, vA b1, vI 0, vI 4, .val .null, .unset] [(.ref a1)])) rfl (by rw [hml]; rfl) rfl (hb hby d28_1) (by decide) (Wd := 0) (Nat.le_refl _) (by decide)
  refine Run.st (T318.setTop (mkF m 4 #[vA a1, vA b1, vI 0, vI 4, .val .null, .unset] [])) st318 ?_
  refine Run.st (T318.setTop (mkF m 27 #[vA a1, vA b1, vI 0, vI 4, .val .null, .unset] [])) (fun _ k => XS.iloadN A318.here hx rfl (hb hby d28_4) rfl (XS.ifYes A318.here hx rfl (pc0 := 5) (pc' := 27) rfl (hb hby d28_5) rfl (by decide) (by decide) (by decide) k)) ?_
  obtain ⟨T319, A319, st319⟩ := A318.getS hx (tw37 H.1) Via.refl (Sc.ext A318.old.2) (g := (mkF m 27 #[vA a1, vA b1, vI 0, vI 4, .val .null, .unset] [])) rfl (hb hby d28_27)
  refine Run.st (T319.setTop (mkF m 30 #[vA a1, vA b1, vI 0, vI 4, .val .null, .unset] [.int zc])) st319 ?_
  refine Run.st (T319.setTop (mkF m 36 #[vA a1, vA b1, vI 0, vI 4, .val .null, .unset] [.int 4, .int 0, (.ref b1)])) (fun _ k => XS.ifNo A319.here hx rfl (hb hby d28_30) rfl (by rw [if0]; exact (feq hzc).1) (XS.aloadN A319.here hx rfl (hb hby d28_33) rfl rfl (XS.iloadN A319.here hx rfl (hb hby d28_34) rfl (XS.iloadN A319.here hx rfl (hb hby d28_35) rfl k)))) ?_
  obtain ⟨v320, T320, h320, AA320, K320, ⟨L320, Q320⟩, st320⟩ := A319.callS hx (tw38 H.1) (tw39 H.1) (tw40 H.1) (tw41 H.1) (by decide) (g := (mkF m 36 #[vA a1, vA b1, vI 0, vI 4, .val .null, .unset] [.int 4, .int 0, (.ref b1)])) rfl (by rw [hml]; rfl) [(.ref b1), (.int (0 : Int32)), (.int (4 : Int32))] [] (lenOf pd_15 rfl) rfl (Wd := 0) (Nat.le_refl _) (hb hby d28_36) (by decide) (by decide) [] (fun _ _ _ q => q.2) all0 (fun vm0 hZ => payN (ct_cmp3_4 H b1 _ c1 c2 c3 c4 A319.old Vb1 r1 r2 r3 r4) (tw41 H.1) (tw40 H.1) (by decide) (by decide) hZ)
  obtain ⟨Q320, N320, -⟩ := Q320
  obtain ⟨t320, kt320, rfl, X320, D320⟩ := Q320
  have A320 := AA320 [] all0
  refine Run.st (T320.setTop (mkF m 39 #[vA a1, vA b1, vI 0, vI 4, .val .null, .unset] [(.ref t320)])) st320 ?_
  refine Run.st (T320.setTop (mkF m 45 #[vA a1, vA b1, vI 0, vI 4, .val .null, vA t320] [.int 4, (.ref t320), (.ref a1)])) (fun _ k => XS.astore A320.here hx rfl (hb hby d28_39) rfl rfl (l' := #[vA a1, vA b1, vI 0, vI 4, .val .null, vA t320]) rfl (XS.aloadN A320.here hx rfl (hb hby d28_41) rfl rfl (XS.aload A320.here hx rfl (hb hby d28_42) rfl rfl (XS.iloadN A320.here hx rfl (hb hby d28_44) rfl k)))) ?_
  rcases D320 with ⟨W320, l320⟩ | W320
  · obtain ⟨v321, T321, h321, AA321, K321, ⟨L321, Q321⟩, st321⟩ := A320.callS hx (tw45 H.1) (tw46 H.1) (tw40 H.1) (tw47 H.1) (by decide) (g := (mkF m 45 #[vA a1, vA b1, vI 0, vI 4, .val .null, vA t320] [.int 4, (.ref t320), (.ref a1)])) rfl (by rw [hml]; rfl) [(.ref t320), (.int (4 : Int32))] [(.ref a1)] (lenOf pd_17 rfl) rfl (Wd := 1) (Nat.le_refl _) (hb hby d28_45) (by decide) (by decide) [] (fun _ _ _ q => q.2) all0 (fun vm0 hZ => payN (ct_cfl4_0 H t320 _ _ A320.old W320) (tw47 H.1) (tw40 H.1) (by decide) (by decide) hZ)
    obtain ⟨Q321, N321, -⟩ := Q321
    obtain ⟨rfl, q321⟩ := Q321
    have q321 := q321.symm
    subst q321
    have A321 := AA321 [] all0
    refine Run.st (T321.setTop (mkF m 48 #[vA a1, vA b1, vI 0, vI 4, .val .null, vA t320] [.int 0, (.ref a1)])) st321 ?_
    have X323 : Ext h0 h320 := X320
    have f324 := F_coder.ext X323
    have f325 := E1.ext X323
    obtain ⟨T322, h322, A322, K322, W322, st322⟩ := A321.putF hx (tw27 H.1) Via.refl (a := a1) (List.mem_of_getElem? (i := 0) rfl) (v' := (.int (0 : Int32))) f324 f325 (Or.inr ⟨(tw23 H.1), rfl, hnm⟩) (tw7 H.1) (ty := .byte) (by decide) rfl rfl (g := (mkF m 48 #[vA a1, vA b1, vI 0, vI 4, .val .null, vA t320] [.int 0, (.ref a1)])) rfl rfl (hb hby d28_48)
    have F322 : Fld Z h322 a1 "java/lang/String" "coder" "B" (.int (0 : Int32)) := f324.same W322
    refine Run.st (T322.setTop (mkF m 51 #[vA a1, vA b1, vI 0, vI 4, .val .null, vA t320] [])) st322 ?_
    refine Run.st (T322.setTop (mkF m 54 #[vA a1, vA b1, vI 0, vI 4, .val .null, vA t320] [(.ref t320), (.ref a1)])) (fun _ k => XS.aloadN A322.here hx rfl (hb hby d28_51) rfl rfl (XS.aload A322.here hx rfl (hb hby d28_52) rfl rfl k)) ?_
    have f327 := ((F_value.ext X320).other W322 (Or.inr (slot_ne (Or.inr (tw22 H.1)) (Or.inr (tw23 H.1)) (by decide) (t := (.array .byte)) (t' := .byte) (by decide) (by decide))))
    have f328 := ((E1.ext X320).wr W322)
    obtain ⟨T326, h326, A326, K326, W326, st326⟩ := A322.putF hx (tw26 H.1) Via.refl (a := a1) (List.mem_of_getElem? (i := 0) rfl) (v' := (.ref t320)) f327 f328 (Or.inr ⟨(tw22 H.1), rfl, hnm⟩) (tw7 H.1) (ty := (.array .byte)) (by decide) rfl rfl (g := (mkF m 54 #[vA a1, vA b1, vI 0, vI 4, .val .null, vA t320] [(.ref t320), (.ref a1)])) rfl rfl (hb hby d28_54)
    have F326 : Fld Z h326 a1 "java/lang/String" "value" "[B" (.ref t320) := f327.same W326
    refine Run.st (T326.setTop (mkF m 57 #[vA a1, vA b1, vI 0, vI 4, .val .null, vA t320] [])) st326 ?_
    have f329 := ((W320.keep K322 (ninS (Ne.symm (Exa.neArv f325 W320 (tw7 H.1))) nin0)).keep K326 (ninS (Ne.symm (Exa.neArv f328 (W320.keep K322 (ninS (Ne.symm (Exa.neArv f325 W320 (tw7 H.1))) nin0)) (tw7 H.1))) nin0))
    have f330 := (((E1.ext X320).wr W322).wr W326)
    have f331 := (F322.other W326 (Or.inr (slot_ne (Or.inr (tw23 H.1)) (Or.inr (tw22 H.1)) (by decide) (t := .byte) (t' := (.array .byte)) (by decide) (by decide))))
    exact A326.leaveN hlk none (fun _ => rfl) (by decide) (by decide) ⟨rfl, f330, _, _, F326, Or.inl ⟨f331, f329, l320⟩⟩ (fun X hr => X.returnOut hx hrt (hb hby d28_57) hr)
  · obtain ⟨v332, T332, h332, AA332, K332, ⟨L332, Q332⟩, st332⟩ := A320.callS hx (tw45 H.1) (tw46 H.1) (tw40 H.1) (tw47 H.1) (by decide) (g := (mkF m 45 #[vA a1, vA b1, vI 0, vI 4, .val .null, vA t320] [.int 4, (.ref t320), (.ref a1)])) rfl (by rw [hml]; rfl) [(.ref t320), (.int (4 : Int32))] [(.ref a1)] (lenOf pd_17 rfl) rfl (Wd := 1) (Nat.le_refl _) (hb hby d28_45) (by decide) (by decide) [] (fun _ _ _ q => q.2) all0 (fun vm0 hZ => payN (ct_cfl4_1 H t320 _ _ A320.old W320) (tw47 H.1) (tw40 H.1) (by decide) (by decide) hZ)
    obtain ⟨Q332, N332, -⟩ := Q332
    obtain ⟨rfl, q332⟩ := Q332
    have q332 := q332.symm
    subst q332
    have A332 := AA332 [] all0
    refine Run.st (T332.setTop (mkF m 48 #[vA a1, vA b1, vI 0, vI 4, .val .null, vA t320] [.int 1, (.ref a1)])) st332 ?_
    have X334 : Ext h0 h320 := X320
    have f335 := F_coder.ext X334
    have f336 := E1.ext X334
    obtain ⟨T333, h333, A333, K333, W333, st333⟩ := A332.putF hx (tw27 H.1) Via.refl (a := a1) (List.mem_of_getElem? (i := 0) rfl) (v' := (.int (1 : Int32))) f335 f336 (Or.inr ⟨(tw23 H.1), rfl, hnm⟩) (tw7 H.1) (ty := .byte) (by decide) rfl rfl (g := (mkF m 48 #[vA a1, vA b1, vI 0, vI 4, .val .null, vA t320] [.int 1, (.ref a1)])) rfl rfl (hb hby d28_48)
    have F333 : Fld Z h333 a1 "java/lang/String" "coder" "B" (.int (1 : Int32)) := f335.same W333
    refine Run.st (T333.setTop (mkF m 51 #[vA a1, vA b1, vI 0, vI 4, .val .null, vA t320] [])) st333 ?_
    refine Run.st (T333.setTop (mkF m 54 #[vA a1, vA b1, vI 0, vI 4, .val .null, vA t320] [(.ref t320), (.ref a1)])) (fun _ k => XS.aloadN A333.here hx rfl (hb hby d28_51) rfl rfl (XS.aload A333.here hx rfl (hb hby d28_52) rfl rfl k)) ?_
    have f338 := ((F_value.ext X320).other W333 (Or.inr (slot_ne (Or.inr (tw22 H.1)) (Or.inr (tw23 H.1)) (by decide) (t := (.array .byte)) (t' := .byte) (by decide) (by decide))))
    have f339 := ((E1.ext X320).wr W333)
    obtain ⟨T337, h337, A337, K337, W337, st337⟩ := A333.putF hx (tw26 H.1) Via.refl (a := a1) (List.mem_of_getElem? (i := 0) rfl) (v' := (.ref t320)) f338 f339 (Or.inr ⟨(tw22 H.1), rfl, hnm⟩) (tw7 H.1) (ty := (.array .byte)) (by decide) rfl rfl (g := (mkF m 54 #[vA a1, vA b1, vI 0, vI 4, .val .null, vA t320] [(.ref t320), (.ref a1)])) rfl rfl (hb hby d28_54)
    have F337 : Fld Z h337 a1 "java/lang/String" "value" "[B" (.ref t320) := f338.same W337
    refine Run.st (T337.setTop (mkF m 57 #[vA a1, vA b1, vI 0, vI 4, .val .null, vA t320] [])) st337 ?_
    have f340 := ((W320.keep K333 (ninS (Ne.symm (Exa.neArv f336 W320 (tw7 H.1))) nin0)).keep K337 (ninS (Ne.symm (Exa.neArv f339 (W320.keep K333 (ninS (Ne.symm (Exa.neArv f336 W320 (tw7 H.1))) nin0)) (tw7 H.1))) nin0))
    have f341 := (((E1.ext X320).wr W333).wr W337)
    have f342 := (F333.other W337 (Or.inr (slot_ne (Or.inr (tw23 H.1)) (Or.inr (tw22 H.1)) (by decide) (t := .byte) (t' := (.array .byte)) (by decide) (by decide))))
    exact A337.leaveN hlk none (fun _ => rfl) (by decide) (by decide) ⟨rfl, f341, _, _, F337, Or.inr ⟨f342, f340, Nat.le_of_ble_eq_true rfl⟩⟩ (fun X hr => X.returnOut hx hrt (hb hby d28_57) hr)
theorem ef_nw1_1 (m : MethodId) (y0 : Addr) (y1 : Addr) : entryFrame m #[(.ref y0), (.ref y1)] 2 = mkF m 0 #[vA y0, vA y1] [] := by first | (simp [entryFrame, mkF, argsToLocals, vI, vA, Value.category, maxLocals]; done) | rfl
def Q_nw1_1 (Z : State) (a1 : Addr) (u1 : Value) (u2 : Value) (b1 : Addr) (kC : ClassId) (c1 : Int32) (h0 : Heap) (v : Option Value) (h : Heap) : Prop := v = none ∧ StrU Z h a1 [c1]
def rm_nw1_1 : Room := { frames := 5, cells := 2, slots := 3, locals := 74 }
set_option maxRecDepth 65536 in
set_option maxHeartbeats 40000000 in
theorem ct_nw1_1 {l : Launch} {Z : State} {a0 : Array Value} (H : Ev Z a0) (a1 : Addr) (u1 : Value) (u2 : Value) (b1 : Addr) (kC : ClassId) (c1 : Int32) {h0 : Heap} {n0 : Nat} (O0 : Old Z n0 h0) (E1 : Exa Z h0 a1 "java/lang/String") (g_a1 : n0 ≤ a1) (z_a1 : a1 < h0.size) (F_value : Fld Z h0 a1 "java/lang/String" "value" "[B" u1) (F_coder : Fld Z h0 a1 "java/lang/String" "coder" "B" u2) (Vb1 : Arv Z h0 b1 kC .char (1 : Int32) [(.int c1)] (.int 0)) (r1 : R16 c1) : CtrN l Z (⟨"java/lang/String", "<init>", "([C)V"⟩ : MethodName) jdk_42_method_3_code 2 none [] rm_nw1_1 #[(.ref a1), (.ref b1)] h0 [a1] n0 (Q_nw1_1 Z a1 u1 u2 b1 kC c1 h0) := by
  refine enterN (a0 := a0) (plainFor_of_name pn_1) O0 (allS ⟨g_a1, z_a1⟩ all0) ?_
  intro p e s m below meth c T0 hx hby hml hrt hnm hlk A0
  replace A0 : Wk false Z a0 [] n0 h0 [a1] "java/lang/String" p l e rm_nw1_1 s m #[(.ref a1), (.ref b1)] below meth c [a1] T0 h0 0 0 := A0
  refine Run.st (T0.setTop (mkF m 0 #[vA a1, vA b1] [])) (fun _ k => castTop (ef_nw1_1 m a1 b1) k) ?_
  refine Run.st (T0.setTop (mkF m 4 #[vA a1, vA b1] [(.ref b1), .int 0, (.ref b1), (.ref a1)])) (fun _ k => XS.aloadN A0.here hx rfl (hb hby d29_0) rfl rfl (XS.aloadN A0.here hx rfl (hb hby d29_1) rfl rfl (XS.iconst A0.here hx rfl (hb hby d29_2) (XS.aloadN A0.here hx rfl (hb hby d29_3) rfl rfl k)))) ?_
  refine Run.st (T0.setTop (mkF m 5 #[vA a1, vA b1] [.int 1, .int 0, (.ref b1), (.ref a1)])) (A0.alen hx Vb1 (g := (mkF m 4 #[vA a1, vA b1] [(.ref b1), .int 0, (.ref b1), (.ref a1)])) rfl rfl (hb hby d29_4)) ?_
  refine Run.st (T0.setTop (mkF m 6 #[vA a1, vA b1] [.null, .int 1, .int 0, (.ref b1), (.ref a1)])) (fun _ k => XS.aconstNull A0.here hx rfl (hb hby d29_5) k) ?_
  obtain ⟨v343, T343, h343, AA343, K343, ⟨L343, Q343⟩, st343⟩ := A0.callI hx (y := (⟨"java/lang/String", "<init>", "([CIILjava/lang/Void;)V"⟩ : MethodName)) rfl (tw13 H.1) (tw14 H.1) (tw16 H.1) (by decide) (g := (mkF m 6 #[vA a1, vA b1] [.null, .int 1, .int 0, (.ref b1), (.ref a1)])) rfl (by rw [hml]; rfl) a1 [(.ref b1), (.int (0 : Int32)), (.int (1 : Int32)), .null] [] (lenOf pd_16 rfl) rfl (Wd := 0) (Nat.le_refl _) (hb hby d29_6) (by decide) (by decide) [a1] (fun _ _ _ q => q.2) (allS (List.mem_of_getElem? (i := 0) rfl) all0) (fun vm0 hZ => payN (ct_nw4_1 H a1 u1 u2 b1 _ c1 A0.old E1 (A0.nle (List.mem_of_getElem? (i := 0) rfl)) E1.lt F_value F_coder Vb1 r1) (tw16 H.1) (tw8 H.1) (by decide) (by decide) hZ)
  obtain ⟨Q343, N343, -⟩ := Q343
  obtain ⟨rfl, S343⟩ := Q343
  have A343 := AA343 [] all0
  refine Run.st (T343.setTop (mkF m 9 #[vA a1, vA b1] [])) st343 ?_
  exact A343.leaveN hlk none (fun _ => rfl) (by decide) (by decide) ⟨rfl, S343⟩ (fun X hr => X.returnOut hx hrt (hb hby d29_9) hr)
theorem ef_nw1_2 (m : MethodId) (y0 : Addr) (y1 : Addr) : entryFrame m #[(.ref y0), (.ref y1)] 2 = mkF m 0 #[vA y0, vA y1] [] := by first | (simp [entryFrame, mkF, argsToLocals, vI, vA, Value.category, maxLocals]; done) | rfl
def Q_nw1_2 (Z : State) (a1 : Addr) (u1 : Value) (u2 : Value) (b1 : Addr) (kC : ClassId) (c1 : Int32) (c2 : Int32) (h0 : Heap) (v : Option Value) (h : Heap) : Prop := v = none ∧ StrU Z h a1 [c1, c2]
def rm_nw1_2 : Room := { frames := 5, cells := 2, slots := 6, locals := 74 }
set_option maxRecDepth 65536 in
set_option maxHeartbeats 40000000 in
theorem ct_nw1_2 {l : Launch} {Z : State} {a0 : Array Value} (H : Ev Z a0) (a1 : Addr) (u1 : Value) (u2 : Value) (b1 : Addr) (kC : ClassId) (c1 : Int32) (c2 : Int32) {h0 : Heap} {n0 : Nat} (O0 : Old Z n0 h0) (E1 : Exa Z h0 a1 "java/lang/String") (g_a1 : n0 ≤ a1) (z_a1 : a1 < h0.size) (F_value : Fld Z h0 a1 "java/lang/String" "value" "[B" u1) (F_coder : Fld Z h0 a1 "java/lang/String" "coder" "B" u2) (Vb1 : Arv Z h0 b1 kC .char (2 : Int32) [(.int c1), (.int c2)] (.int 0)) (r1 : R16 c1) (r2 : R16 c2) : CtrN l Z (⟨"java/lang/String", "<init>", "([C)V"⟩ : MethodName) jdk_42_method_3_code 2 none [] rm_nw1_2 #[(.ref a1), (.ref b1)] h0 [a1] n0 (Q_nw1_2 Z a1 u1 u2 b1 kC c1 c2 h0) := by
  refine enterN (a0 := a0) (plainFor_of_name pn_1) O0 (allS ⟨g_a1, z_a1⟩ all0) ?_
  intro p e s m below meth c T0 hx hby hml hrt hnm hlk A0
  replace A0 : Wk false Z a0 [] n0 h0 [a1] "java/lang/String" p l e rm_nw1_2 s m #[(.ref a1), (.ref b1)] below meth c [a1] T0 h0 0 0 := A0
  refine Run.st (T0.setTop (mkF m 0 #[vA a1, vA b1] [])) (fun _ k => castTop (ef_nw1_2 m a1 b1) k) ?_
  refine Run.st (T0.setTop (mkF m 4 #[vA a1, vA b1] [(.ref b1), .int 0, (.ref b1), (.ref a1)])) (fun _ k => XS.aloadN A0.here hx rfl (hb hby d29_0) rfl rfl (XS.aloadN A0.here hx rfl (hb hby d29_1) rfl rfl (XS.iconst A0.here hx rfl (hb hby d29_2) (XS.aloadN A0.here hx rfl (hb hby d29_3) rfl rfl k)))) ?_
  refine Run.st (T0.setTop (mkF m 5 #[vA a1, vA b1] [.int 2, .int 0, (.ref b1), (.ref a1)])) (A0.alen hx Vb1 (g := (mkF m 4 #[vA a1, vA b1] [(.ref b1), .int 0, (.ref b1), (.ref a1)])) rfl rfl (hb hby d29_4)) ?_
  refine Run.st (T0.setTop (mkF m 6 #[vA a1, vA b1] [.null, .int 2, .int 0, (.ref b1), (.ref a1)])) (fun _ k => XS.aconstNull A0.here hx rfl (hb hby d29_5) k) ?_
  obtain ⟨v344, T344, h344, AA344, K344, ⟨L344, Q344⟩, st344⟩ := A0.callI hx (y := (⟨"java/lang/String", "<init>", "([CIILjava/lang/Void;)V"⟩ : MethodName)) rfl (tw13 H.1) (tw14 H.1) (tw16 H.1) (by decide) (g := (mkF m 6 #[vA a1, vA b1] [.null, .int 2, .int 0, (.ref b1), (.ref a1)])) rfl (by rw [hml]; rfl) a1 [(.ref b1), (.int (0 : Int32)), (.int (2 : Int32)), .null] [] (lenOf pd_16 rfl) rfl (Wd := 0) (Nat.le_refl _) (hb hby d29_6) (by decide) (by decide) [a1] (fun _ _ _ q => q.2) (allS (List.mem_of_getElem? (i := 0) rfl) all0) (fun vm0 hZ => payN (ct_nw4_2 H a1 u1 u2 b1 _ c1 c2 A0.old E1 (A0.nle (List.mem_of_getElem? (i := 0) rfl)) E1.lt F_value F_coder Vb1 r1 r2) (tw16 H.1) (tw8 H.1) (by decide) (by decide) hZ)
  obtain ⟨Q344, N344, -⟩ := Q344
  obtain ⟨rfl, S344⟩ := Q344
  have A344 := AA344 [] all0
  refine Run.st (T344.setTop (mkF m 9 #[vA a1, vA b1] [])) st344 ?_
  exact A344.leaveN hlk none (fun _ => rfl) (by decide) (by decide) ⟨rfl, S344⟩ (fun X hr => X.returnOut hx hrt (hb hby d29_9) hr)
theorem ef_nw1_3 (m : MethodId) (y0 : Addr) (y1 : Addr) : entryFrame m #[(.ref y0), (.ref y1)] 2 = mkF m 0 #[vA y0, vA y1] [] := by first | (simp [entryFrame, mkF, argsToLocals, vI, vA, Value.category, maxLocals]; done) | rfl
def Q_nw1_3 (Z : State) (a1 : Addr) (u1 : Value) (u2 : Value) (b1 : Addr) (kC : ClassId) (c1 : Int32) (c2 : Int32) (c3 : Int32) (h0 : Heap) (v : Option Value) (h : Heap) : Prop := v = none ∧ StrU Z h a1 [c1, c2, c3]
def rm_nw1_3 : Room := { frames := 5, cells := 2, slots := 9, locals := 74 }
set_option maxRecDepth 65536 in
set_option maxHeartbeats 40000000 in
theorem ct_nw1_3 {l : Launch} {Z : State} {a0 : Array Value} (H : Ev Z a0) (a1 : Addr) (u1 : Value) (u2 : Value) (b1 : Addr) (kC : ClassId) (c1 : Int32) (c2 : Int32) (c3 : Int32) {h0 : Heap} {n0 : Nat} (O0 : Old Z n0 h0) (E1 : Exa Z h0 a1 "java/lang/String") (g_a1 : n0 ≤ a1) (z_a1 : a1 < h0.size) (F_value : Fld Z h0 a1 "java/lang/String" "value" "[B" u1) (F_coder : Fld Z h0 a1 "java/lang/String" "coder" "B" u2) (Vb1 : Arv Z h0 b1 kC .char (3 : Int32) [(.int c1), (.int c2), (.int c3)] (.int 0)) (r1 : R16 c1) (r2 : R16 c2) (r3 : R16 c3) : CtrN l Z (⟨"java/lang/String", "<init>", "([C)V"⟩ : MethodName) jdk_42_method_3_code 2 none [] rm_nw1_3 #[(.ref a1), (.ref b1)] h0 [a1] n0 (Q_nw1_3 Z a1 u1 u2 b1 kC c1 c2 c3 h0) := by
  refine enterN (a0 := a0) (plainFor_of_name pn_1) O0 (allS ⟨g_a1, z_a1⟩ all0) ?_
  intro p e s m below meth c T0 hx hby hml hrt hnm hlk A0
  replace A0 : Wk false Z a0 [] n0 h0 [a1] "java/lang/String" p l e rm_nw1_3 s m #[(.ref a1), (.ref b1)] below meth c [a1] T0 h0 0 0 := A0
  refine Run.st (T0.setTop (mkF m 0 #[vA a1, vA b1] [])) (fun _ k => castTop (ef_nw1_3 m a1 b1) k) ?_
  refine Run.st (T0.setTop (mkF m 4 #[vA a1, vA b1] [(.ref b1), .int 0, (.ref b1), (.ref a1)])) (fun _ k => XS.aloadN A0.here hx rfl (hb hby d29_0) rfl rfl (XS.aloadN A0.here hx rfl (hb hby d29_1) rfl rfl (XS.iconst A0.here hx rfl (hb hby d29_2) (XS.aloadN A0.here hx rfl (hb hby d29_3) rfl rfl k)))) ?_
  refine Run.st (T0.setTop (mkF m 5 #[vA a1, vA b1] [.int 3, .int 0, (.ref b1), (.ref a1)])) (A0.alen hx Vb1 (g := (mkF m 4 #[vA a1, vA b1] [(.ref b1), .int 0, (.ref b1), (.ref a1)])) rfl rfl (hb hby d29_4)) ?_
  refine Run.st (T0.setTop (mkF m 6 #[vA a1, vA b1] [.null, .int 3, .int 0, (.ref b1), (.ref a1)])) (fun _ k => XS.aconstNull A0.here hx rfl (hb hby d29_5) k) ?_
  obtain ⟨v345, T345, h345, AA345, K345, ⟨L345, Q345⟩, st345⟩ := A0.callI hx (y := (⟨"java/lang/String", "<init>", "([CIILjava/lang/Void;)V"⟩ : MethodName)) rfl (tw13 H.1) (tw14 H.1) (tw16 H.1) (by decide) (g := (mkF m 6 #[vA a1, vA b1] [.null, .int 3, .int 0, (.ref b1), (.ref a1)])) rfl (by rw [hml]; rfl) a1 [(.ref b1), (.int (0 : Int32)), (.int (3 : Int32)), .null] [] (lenOf pd_16 rfl) rfl (Wd := 0) (Nat.le_refl _) (hb hby d29_6) (by decide) (by decide) [a1] (fun _ _ _ q => q.2) (allS (List.mem_of_getElem? (i := 0) rfl) all0) (fun vm0 hZ => payN (ct_nw4_3 H a1 u1 u2 b1 _ c1 c2 c3 A0.old E1 (A0.nle (List.mem_of_getElem? (i := 0) rfl)) E1.lt F_value F_coder Vb1 r1 r2 r3) (tw16 H.1) (tw8 H.1) (by decide) (by decide) hZ)
  obtain ⟨Q345, N345, -⟩ := Q345
  obtain ⟨rfl, S345⟩ := Q345
  have A345 := AA345 [] all0
  refine Run.st (T345.setTop (mkF m 9 #[vA a1, vA b1] [])) st345 ?_
  exact A345.leaveN hlk none (fun _ => rfl) (by decide) (by decide) ⟨rfl, S345⟩ (fun X hr => X.returnOut hx hrt (hb hby d29_9) hr)
theorem ef_nw1_4 (m : MethodId) (y0 : Addr) (y1 : Addr) : entryFrame m #[(.ref y0), (.ref y1)] 2 = mkF m 0 #[vA y0, vA y1] [] := by first | (simp [entryFrame, mkF, argsToLocals, vI, vA, Value.category, maxLocals]; done) | rfl
def Q_nw1_4 (Z : State) (a1 : Addr) (u1 : Value) (u2 : Value) (b1 : Addr) (kC : ClassId) (c1 : Int32) (c2 : Int32) (c3 : Int32) (c4 : Int32) (h0 : Heap) (v : Option Value) (h : Heap) : Prop := v = none ∧ StrU Z h a1 [c1, c2, c3, c4]
def rm_nw1_4 : Room := { frames := 5, cells := 2, slots := 12, locals := 74 }
set_option maxRecDepth 65536 in
set_option maxHeartbeats 40000000 in
theorem ct_nw1_4 {l : Launch} {Z : State} {a0 : Array Value} (H : Ev Z a0) (a1 : Addr) (u1 : Value) (u2 : Value) (b1 : Addr) (kC : ClassId) (c1 : Int32) (c2 : Int32) (c3 : Int32) (c4 : Int32) {h0 : Heap} {n0 : Nat} (O0 : Old Z n0 h0) (E1 : Exa Z h0 a1 "java/lang/String") (g_a1 : n0 ≤ a1) (z_a1 : a1 < h0.size) (F_value : Fld Z h0 a1 "java/lang/String" "value" "[B" u1) (F_coder : Fld Z h0 a1 "java/lang/String" "coder" "B" u2) (Vb1 : Arv Z h0 b1 kC .char (4 : Int32) [(.int c1), (.int c2), (.int c3), (.int c4)] (.int 0)) (r1 : R16 c1) (r2 : R16 c2) (r3 : R16 c3) (r4 : R16 c4) : CtrN l Z (⟨"java/lang/String", "<init>", "([C)V"⟩ : MethodName) jdk_42_method_3_code 2 none [] rm_nw1_4 #[(.ref a1), (.ref b1)] h0 [a1] n0 (Q_nw1_4 Z a1 u1 u2 b1 kC c1 c2 c3 c4 h0) := by
  refine enterN (a0 := a0) (plainFor_of_name pn_1) O0 (allS ⟨g_a1, z_a1⟩ all0) ?_
  intro p e s m below meth c T0 hx hby hml hrt hnm hlk A0
  replace A0 : Wk false Z a0 [] n0 h0 [a1] "java/lang/String" p l e rm_nw1_4 s m #[(.ref a1), (.ref b1)] below meth c [a1] T0 h0 0 0 := A0
  refine Run.st (T0.setTop (mkF m 0 #[vA a1, vA b1] [])) (fun _ k => castTop (ef_nw1_4 m a1 b1) k) ?_
  refine Run.st (T0.setTop (mkF m 4 #[vA a1, vA b1] [(.ref b1), .int 0, (.ref b1), (.ref a1)])) (fun _ k => XS.aloadN A0.here hx rfl (hb hby d29_0) rfl rfl (XS.aloadN A0.here hx rfl (hb hby d29_1) rfl rfl (XS.iconst A0.here hx rfl (hb hby d29_2) (XS.aloadN A0.here hx rfl (hb hby d29_3) rfl rfl k)))) ?_
  refine Run.st (T0.setTop (mkF m 5 #[vA a1, vA b1] [.int 4, .int 0, (.ref b1), (.ref a1)])) (A0.alen hx Vb1 (g := (mkF m 4 #[vA a1, vA b1] [(.ref b1), .int 0, (.ref b1), (.ref a1)])) rfl rfl (hb hby d29_4)) ?_
  refine Run.st (T0.setTop (mkF m 6 #[vA a1, vA b1] [.null, .int 4, .int 0, (.ref b1), (.ref a1)])) (fun _ k => XS.aconstNull A0.here hx rfl (hb hby d29_5) k) ?_
  obtain ⟨v346, T346, h346, AA346, K346, ⟨L346, Q346⟩, st346⟩ := A0.callI hx (y := (⟨"java/lang/String", "<init>", "([CIILjava/lang/Void;)V"⟩ : MethodName)) rfl (tw13 H.1) (tw14 H.1) (tw16 H.1) (by decide) (g := (mkF m 6 #[vA a1, vA b1] [.null, .int 4, .int 0, (.ref b1), (.ref a1)])) rfl (by rw [hml]; rfl) a1 [(.ref b1), (.int (0 : Int32)), (.int (4 : Int32)), .null] [] (lenOf pd_16 rfl) rfl (Wd := 0) (Nat.le_refl _) (hb hby d29_6) (by decide) (by decide) [a1] (fun _ _ _ q => q.2) (allS (List.mem_of_getElem? (i := 0) rfl) all0) (fun vm0 hZ => payN (ct_nw4_4 H a1 u1 u2 b1 _ c1 c2 c3 c4 A0.old E1 (A0.nle (List.mem_of_getElem? (i := 0) rfl)) E1.lt F_value F_coder Vb1 r1 r2 r3 r4) (tw16 H.1) (tw8 H.1) (by decide) (by decide) hZ)
  obtain ⟨Q346, N346, -⟩ := Q346
  obtain ⟨rfl, S346⟩ := Q346
  have A346 := AA346 [] all0
  refine Run.st (T346.setTop (mkF m 9 #[vA a1, vA b1] [])) st346 ?_
  exact A346.leaveN hlk none (fun _ => rfl) (by decide) (by decide) ⟨rfl, S346⟩ (fun X hr => X.returnOut hx hrt (hb hby d29_9) hr)
theorem ef_tok0 (m : MethodId) (y0 : Addr) : entryFrame m #[(.ref y0)] 4 = mkF m 0 #[vA y0, .unset, .unset, .unset] [] := by first | (simp [entryFrame, mkF, argsToLocals, vI, vA, Value.category, maxLocals]; done) | rfl
def Q_tok0 (Z : State) (a1 : Addr) (h0 : Heap) (v : Option Value) (h : Heap) : Prop := ∃ z, v = some (.int z) ∧ Ext h0 h ∧ (((∀ c ∈ ([] : List Int32), tokP c) ∧ ([] : List Int32) ≠ []) ∧ z = 1 ∨ ¬ ((∀ c ∈ ([] : List Int32), tokP c) ∧ ([] : List Int32) ≠ []) ∧ z = 0)
def rm_tok0 : Room := { frames := 1, cells := 0, slots := 0, locals := 12 }
set_option maxRecDepth 65536 in
set_option maxHeartbeats 40000000 in
theorem ct_tok0 {l : Launch} {Z : State} {a0 : Array Value} (H : Ev Z a0) (a1 : Addr) {h0 : Heap} {n0 : Nat} (O0 : Old Z n0 h0) (S1 : StrU Z h0 a1 []) : CtrW l Z EL (⟨"com/example/gate_to_handlers/gatetohandlers/MediaType", "isToken", "(Ljava/lang/String;)Z"⟩ : MethodName) prog_69_method_11_code 4 (some .boolean) [] rm_tok0 #[(.ref a1)] h0 [] n0 (Q_tok0 Z a1 h0) := by
  refine enterW (a0 := a0) (plainFor_of_name pn_5) (elA H) O0 all0 ?_
  intro p e s m below meth c T0 hx hby hml hrt hnm hlk hh0 A0
  replace A0 : Wk true Z a0 EL n0 h0 [] "com/example/gate_to_handlers/gatetohandlers/MediaType" p l e rm_tok0 s m #[(.ref a1)] below meth c [] T0 h0 0 0 := A0
  refine Run.st (T0.setTop (mkF m 0 #[vA a1, .unset, .unset, .unset] [])) (fun _ k => castTop (ef_tok0 m a1) k) ?_
  refine Run.st (T0.setTop (mkF m 1 #[vA a1, .unset, .unset, .unset] [(.ref a1)])) (fun _ k => XS.aloadN A0.here hx rfl (hb hby d30_0) rfl rfl k) ?_
  obtain ⟨v347, T347, h347, AA347, K347, ⟨L347, Q347⟩, st347⟩ := A0.callV hx (y := (⟨"java/lang/String", "isEmpty", "()Z"⟩ : MethodName)) (z := (⟨"java/lang/String", "isEmpty", "()Z"⟩ : MethodName)) (tw32 H.1) (tw33 H.1) (tw35 H.1) (tw34 H.1) (nfSel (tw35 H.1)) (by decide) S1.1 (g := (mkF m 1 #[vA a1, .unset, .unset, .unset] [(.ref a1)])) rfl (by rw [hml]; rfl) [] [] (lenOf pd_4 rfl) rfl (Wd := 0) (Nat.le_refl _) (hb hby d30_1) (by decide) (by decide) [] (fun _ _ _ q => q.2) all0 (fun vm0 hZ => payN (ct_isEmpty0 H a1 A0.old S1) (tw36 H.1) (tw8 H.1) (by decide) (by decide) hZ)
  obtain ⟨Q347, N347, -⟩ := Q347
  obtain ⟨rfl, q347⟩ := Q347
  have q347 := q347.symm
  subst q347
  have A347 := AA347 [] all0
  refine Run.st (T347.setTop (mkF m 4 #[vA a1, .unset, .unset, .unset] [.int 1])) st347 ?_
  refine Run.st (T347.setTop (mkF m 91 #[vA a1, vI 0, vI 0, .unset] [.int 0])) (fun _ k => XS.ifYes A347.here hx rfl (pc0 := 4) (pc' := 11) rfl (hb hby d30_4) rfl (by decide) (by decide) (by decide) (XS.iconst A347.here hx rfl (hb hby d30_11) (XS.istoreN A347.here hx rfl (hb hby d30_12) rfl (l' := #[vA a1, vI 0, .unset, .unset]) rfl (XS.iconst A347.here hx rfl (hb hby d30_13) (XS.istoreN A347.here hx rfl (hb hby d30_14) rfl (l' := #[vA a1, vI 0, vI 0, .unset]) rfl (XS.iloadN A347.here hx rfl (hb hby d30_15) rfl (XS.ifYes A347.here hx rfl (pc0 := 16) (pc' := 90) rfl (hb hby d30_16) rfl (by decide) (by decide) (by decide) (XS.iloadN A347.here hx rfl (hb hby d30_90) rfl k)))))))) ?_
  exact A347.leaveW hlk hh0 (some (.int (0 : Int32))) (fun q => by rw [hrt] at q; cases q) (by decide) (by decide) ⟨_, rfl, keepE A347.keep, Or.inr ⟨fun q => q.2 rfl, rfl⟩⟩ (fun X hr => retN X hx (t := .boolean) hrt (by simp) (hb hby d30_91) hr)
theorem ef_tok1 (m : MethodId) (y0 : Addr) : entryFrame m #[(.ref y0)] 4 = mkF m 0 #[vA y0, .unset, .unset, .unset] [] := by first | (simp [entryFrame, mkF, argsToLocals, vI, vA, Value.category, maxLocals]; done) | rfl
def Q_tok1 (Z : State) (a1 : Addr) (c1 : Int32) (h0 : Heap) (v : Option Value) (h : Heap) : Prop := ∃ z, v = some (.int z) ∧ Ext h0 h ∧ (((∀ c ∈ ([c1] : List Int32), tokP c) ∧ ([c1] : List Int32) ≠ []) ∧ z = 1 ∨ ¬ ((∀ c ∈ ([c1] : List Int32), tokP c) ∧ ([c1] : List Int32) ≠ []) ∧ z = 0)
def rm_tok1 : Room := { frames := 5, cells := 2, slots := 64, locals := 66 }
set_option maxRecDepth 65536 in
set_option maxHeartbeats 40000000 in
theorem ct_tok1 {l : Launch} {Z : State} {a0 : Array Value} (H : Ev Z a0) (a1 : Addr) (c1 : Int32) {h0 : Heap} {n0 : Nat} (O0 : Old Z n0 h0) (S1 : StrU Z h0 a1 [c1]) (r1 : R16 c1) : CtrW l Z EL (⟨"com/example/gate_to_handlers/gatetohandlers/MediaType", "isToken", "(Ljava/lang/String;)Z"⟩ : MethodName) prog_69_method_11_code 4 (some .boolean) [] rm_tok1 #[(.ref a1)] h0 [] n0 (Q_tok1 Z a1 c1 h0) := by
  refine enterW (a0 := a0) (plainFor_of_name pn_5) (elA H) O0 all0 ?_
  intro p e s m below meth c T0 hx hby hml hrt hnm hlk hh0 A0
  replace A0 : Wk true Z a0 EL n0 h0 [] "com/example/gate_to_handlers/gatetohandlers/MediaType" p l e rm_tok1 s m #[(.ref a1)] below meth c [] T0 h0 0 0 := A0
  refine Run.st (T0.setTop (mkF m 0 #[vA a1, .unset, .unset, .unset] [])) (fun _ k => castTop (ef_tok1 m a1) k) ?_
  refine Run.st (T0.setTop (mkF m 1 #[vA a1, .unset, .unset, .unset] [(.ref a1)])) (fun _ k => XS.aloadN A0.here hx rfl (hb hby d30_0) rfl rfl k) ?_
  obtain ⟨v348, T348, h348, AA348, K348, ⟨L348, Q348⟩, st348⟩ := A0.callV hx (y := (⟨"java/lang/String", "isEmpty", "()Z"⟩ : MethodName)) (z := (⟨"java/lang/String", "isEmpty", "()Z"⟩ : MethodName)) (tw32 H.1) (tw33 H.1) (tw35 H.1) (tw34 H.1) (nfSel (tw35 H.1)) (by decide) S1.1 (g := (mkF m 1 #[vA a1, .unset, .unset, .unset] [(.ref a1)])) rfl (by rw [hml]; rfl) [] [] (lenOf pd_4 rfl) rfl (Wd := 0) (Nat.le_refl _) (hb hby d30_1) (by decide) (by decide) [] (fun _ _ _ q => q.2) all0 (fun vm0 hZ => payN (ct_isEmpty1 H a1 c1 A0.old S1) (tw36 H.1) (tw8 H.1) (by decide) (by decide) hZ)
  obtain ⟨Q348, N348, -⟩ := Q348
  obtain ⟨rfl, q348⟩ := Q348
  have q348 := q348.symm
  subst q348
  have A348 := AA348 [] all0
  refine Run.st (T348.setTop (mkF m 4 #[vA a1, .unset, .unset, .unset] [.int 0])) st348 ?_
  refine Run.st (T348.setTop (mkF m 20 #[vA a1, vI 1, vI 0, .unset] [.int 0])) (fun _ k => XS.ifNo A348.here hx rfl (hb hby d30_4) rfl (by decide) (XS.iconst A348.here hx rfl (hb hby d30_7) (XS.goto A348.here hx rfl (pc0 := 8) (pc' := 12) rfl (hb hby d30_8) (by decide) (by decide) (XS.istoreN A348.here hx rfl (hb hby d30_12) rfl (l' := #[vA a1, vI 1, .unset, .unset]) rfl (XS.iconst A348.here hx rfl (hb hby d30_13) (XS.istoreN A348.here hx rfl (hb hby d30_14) rfl (l' := #[vA a1, vI 1, vI 0, .unset]) rfl (XS.iloadN A348.here hx rfl (hb hby d30_15) rfl (XS.ifNo A348.here hx rfl (hb hby d30_16) rfl (by decide) (XS.iloadN A348.here hx rfl (hb hby d30_19) rfl k))))))))) ?_
  refine Run.st (T348.setTop (mkF m 21 #[vA a1, vI 1, vI 0, .unset] [(.ref a1), .int 0])) (fun _ k => XS.aloadN A348.here hx rfl (hb hby d30_20) rfl rfl k) ?_
  obtain ⟨v349, T349, h349, AA349, K349, ⟨L349, Q349⟩, st349⟩ := A348.callV hx (y := (⟨"java/lang/String", "length", "()I"⟩ : MethodName)) (z := (⟨"java/lang/String", "length", "()I"⟩ : MethodName)) (tw51 H.1) (tw52 H.1) (tw54 H.1) (tw53 H.1) (nfSel (tw54 H.1)) (by decide) S1.1 (g := (mkF m 21 #[vA a1, vI 1, vI 0, .unset] [(.ref a1), .int 0])) rfl (by rw [hml]; rfl) [] [(.int (0 : Int32))] (lenOf pd_5 rfl) rfl (Wd := 1) (Nat.le_refl _) (hb hby d30_21) (by decide) (by decide) [] (fun _ _ _ q => q.2) all0 (fun vm0 hZ => payN (ct_length1 H a1 c1 A348.old S1) (tw55 H.1) (tw8 H.1) (by decide) (by decide) hZ)
  obtain ⟨Q349, N349, -⟩ := Q349
  obtain ⟨rfl, q349⟩ := Q349
  have q349 := q349.symm
  subst q349
  have A349 := AA349 [] all0
  refine Run.st (T349.setTop (mkF m 24 #[vA a1, vI 1, vI 0, .unset] [.int 1, .int 0])) st349 ?_
  refine Run.st (T349.setTop (mkF m 29 #[vA a1, vI 1, vI 0, .unset] [.int 0, (.ref a1)])) (fun _ k => XS.icmpNo A349.here hx rfl (hb hby d30_24) rfl (by decide) (XS.aloadN A349.here hx rfl (hb hby d30_27) rfl rfl (XS.iloadN A349.here hx rfl (hb hby d30_28) rfl k))) ?_
  obtain ⟨v350, T350, h350, AA350, K350, ⟨L350, Q350⟩, st350⟩ := A349.callV hx (y := (⟨"java/lang/String", "charAt", "(I)C"⟩ : MethodName)) (z := (⟨"java/lang/String", "charAt", "(I)C"⟩ : MethodName)) (tw61 H.1) (tw62 H.1) (tw64 H.1) (tw63 H.1) (nfSel (tw64 H.1)) (by decide) S1.1 (g := (mkF m 29 #[vA a1, vI 1, vI 0, .unset] [.int 0, (.ref a1)])) rfl (by rw [hml]; rfl) [(.int (0 : Int32))] [] (lenOf pd_18 rfl) rfl (Wd := 0) (Nat.le_refl _) (hb hby d30_29) (by decide) (by decide) [] (fun _ _ _ q => q.2) all0 (fun vm0 hZ => payN (ct_charAt H a1 [c1] 0 A349.old S1 (Nat.le_of_ble_eq_true rfl) (Nat.le_of_ble_eq_true rfl) (chsS r1 chs0)) (tw65 H.1) (tw8 H.1) (by decide) (by decide) hZ)
  obtain ⟨Q350, N350, -⟩ := Q350
  obtain ⟨e350, q350⟩ := Q350
  replace e350 : v350 = some (.int c1) := e350
  subst e350
  have q350 := q350.symm
  subst q350
  have A350 := AA350 [] all0
  refine Run.st (T350.setTop (mkF m 32 #[vA a1, vI 1, vI 0, .unset] [.int c1])) st350 ?_
  refine Run.st (T350.setTop (mkF m 33 #[vA a1, vI 1, vI 0, vI c1] [])) (fun _ k => XS.istoreN A350.here hx rfl (hb hby d30_32) rfl (l' := #[vA a1, vI 1, vI 0, vI c1]) rfl k) ?_
  have jn352 : ∀ (T352 : State) (h352 : Heap), Wk true Z a0 EL n0 h0 [] "com/example/gate_to_handlers/gatetohandlers/MediaType" p l e rm_tok1 s m #[(.ref a1)] below meth c [] T352 h352 2 64 → Ext h0 h352 → (tokP c1) → Run p.tables e below (EndW Z EL s h0 [] n0 rm_tok1 (Q_tok1 Z a1 c1 h0)) (T352.setTop (mkF m 15 #[vA a1, vI 1, vI 1, vI c1] [])) := by
    intro T352 h352 A352 X352 tk351
    refine Run.st (T352.setTop (mkF m 21 #[vA a1, vI 1, vI 1, vI c1] [(.ref a1), .int 1])) (fun _ k => XS.iloadN A352.here hx rfl (hb hby d30_15) rfl (XS.ifNo A352.here hx rfl (hb hby d30_16) rfl (by decide) (XS.iloadN A352.here hx rfl (hb hby d30_19) rfl (XS.aloadN A352.here hx rfl (hb hby d30_20) rfl rfl k)))) ?_
    have X354 : Ext h0 h352 := X352
    have f355 := S1.ext X354
    have f356 := S1.1.ext X354
    obtain ⟨v353, T353, h353, AA353, K353, ⟨L353, Q353⟩, st353⟩ := A352.callV hx (y := (⟨"java/lang/String", "length", "()I"⟩ : MethodName)) (z := (⟨"java/lang/String", "length", "()I"⟩ : MethodName)) (tw51 H.1) (tw52 H.1) (tw54 H.1) (tw53 H.1) (nfSel (tw54 H.1)) (by decide) f356 (g := (mkF m 21 #[vA a1, vI 1, vI 1, vI c1] [(.ref a1), .int 1])) rfl (by rw [hml]; rfl) [] [(.int (1 : Int32))] (lenOf pd_5 rfl) rfl (Wd := 1) (Nat.le_refl _) (hb hby d30_21) (by decide) (by decide) [] (fun _ _ _ q => q.2) all0 (fun vm0 hZ => payN (ct_length1 H a1 c1 A352.old f355) (tw55 H.1) (tw8 H.1) (by decide) (by decide) hZ)
    obtain ⟨Q353, N353, -⟩ := Q353
    obtain ⟨rfl, q353⟩ := Q353
    have q353 := q353.symm
    subst q353
    have A353 := AA353 [] all0
    refine Run.st (T353.setTop (mkF m 24 #[vA a1, vI 1, vI 1, vI c1] [.int 1, .int 1])) st353 ?_
    refine Run.st (T353.setTop (mkF m 91 #[vA a1, vI 1, vI 1, vI c1] [.int 1])) (fun _ k => XS.icmpYes A353.here hx rfl (pc0 := 24) (pc' := 90) rfl (hb hby d30_24) rfl (by decide) (by decide) (by decide) (XS.iloadN A353.here hx rfl (hb hby d30_90) rfl k)) ?_
    exact A353.leaveW hlk hh0 (some (.int (1 : Int32))) (fun q => by rw [hrt] at q; cases q) (by decide) (by decide) ⟨_, rfl, keepE A353.keep, Or.inl ⟨⟨(chsS tk351 chs0), List.cons_ne_nil _ _⟩, rfl⟩⟩ (fun X hr => retN X hx (t := .boolean) hrt (by simp) (hb hby d30_91) hr)
  refine Run.st (T350.setTop (mkF m 36 #[vA a1, vI 1, vI 0, vI c1] [.int 97, .int c1])) (fun _ k => XS.iloadN A350.here hx rfl (hb hby d30_33) rfl (XS.bipush A350.here hx rfl (hb hby d30_34) k)) ?_
  have jn358 : ∀ (T358 : State), Wk true Z a0 EL n0 h0 [] "com/example/gate_to_handlers/gatetohandlers/MediaType" p l e rm_tok1 s m #[(.ref a1)] below meth c [] T358 h0 0 0 → (¬ (¬ c1 < (97 : Int32) ∧ ¬ (122 : Int32) < c1)) → Run p.tables e below (EndW Z EL s h0 [] n0 rm_tok1 (Q_tok1 Z a1 c1 h0)) (T358.setTop (mkF m 45 #[vA a1, vI 1, vI 0, vI c1] [])) := by
    intro T358 A358 nr357
    refine Run.st (T358.setTop (mkF m 48 #[vA a1, vI 1, vI 0, vI c1] [.int 65, .int c1])) (fun _ k => XS.iloadN A358.here hx rfl (hb hby d30_45) rfl (XS.bipush A358.here hx rfl (hb hby d30_46) k)) ?_
    have jn360 : ∀ (T360 : State), Wk true Z a0 EL n0 h0 [] "com/example/gate_to_handlers/gatetohandlers/MediaType" p l e rm_tok1 s m #[(.ref a1)] below meth c [] T360 h0 0 0 → (¬ (¬ c1 < (65 : Int32) ∧ ¬ (90 : Int32) < c1)) → Run p.tables e below (EndW Z EL s h0 [] n0 rm_tok1 (Q_tok1 Z a1 c1 h0)) (T360.setTop (mkF m 57 #[vA a1, vI 1, vI 0, vI c1] [])) := by
      intro T360 A360 nr359
      refine Run.st (T360.setTop (mkF m 60 #[vA a1, vI 1, vI 0, vI c1] [.int 48, .int c1])) (fun _ k => XS.iloadN A360.here hx rfl (hb hby d30_57) rfl (XS.bipush A360.here hx rfl (hb hby d30_58) k)) ?_
      have jn362 : ∀ (T362 : State), Wk true Z a0 EL n0 h0 [] "com/example/gate_to_handlers/gatetohandlers/MediaType" p l e rm_tok1 s m #[(.ref a1)] below meth c [] T362 h0 0 0 → (¬ (¬ c1 < (48 : Int32) ∧ ¬ (57 : Int32) < c1)) → Run p.tables e below (EndW Z EL s h0 [] n0 rm_tok1 (Q_tok1 Z a1 c1 h0)) (T362.setTop (mkF m 69 #[vA a1, vI 1, vI 0, vI c1] [])) := by
        intro T362 A362 nr361
        obtain ⟨a363, b363, kA363, T363, h363, A363, E363, Ex363, Fc363, Fv363, Va363, ne363, st363⟩ := A362.ldc hx (tw83 H.1) (strsA H) (List.mem_of_getElem? (i := 0) rfl) (vs := (([(33 : Int32), (35 : Int32), (36 : Int32), (37 : Int32), (38 : Int32), (39 : Int32), (42 : Int32), (43 : Int32), (45 : Int32), (46 : Int32), (94 : Int32), (95 : Int32), (96 : Int32), (124 : Int32), (126 : Int32)] : List Int32).map fun c => c.toInt8.toInt32).map Value.int) (z := (15 : Int32)) ⟨by decide, by decide +kernel⟩ (by decide) (by decide +kernel) (g := (mkF m 69 #[vA a1, vI 1, vI 0, vI c1] [])) rfl (hb hby d30_69) (q := 60) (by decide) (by decide) (by decide) (by decide)
        have S363 : StrA Z h363 a363 [(33 : Int32), (35 : Int32), (36 : Int32), (37 : Int32), (38 : Int32), (39 : Int32), (42 : Int32), (43 : Int32), (45 : Int32), (46 : Int32), (94 : Int32), (95 : Int32), (96 : Int32), (124 : Int32), (126 : Int32)] := ⟨Ex363, Fc363, ⟨b363, kA363, Fv363, Va363⟩, by decide, by decide⟩
        refine Run.st (T363.setTop (mkF m 71 #[vA a1, vI 1, vI 0, vI c1] [(.ref a363)])) st363 ?_
        refine Run.st (T363.setTop (mkF m 72 #[vA a1, vI 1, vI 0, vI c1] [.int c1, (.ref a363)])) (fun _ k => XS.iloadN A363.here hx rfl (hb hby d30_71) rfl k) ?_
        obtain ⟨v364, T364, h364, AA364, K364, ⟨L364, Q364⟩, st364⟩ := A363.callV hx (y := (⟨"java/lang/String", "indexOf", "(I)I"⟩ : MethodName)) (z := (⟨"java/lang/String", "indexOf", "(I)I"⟩ : MethodName)) (tw84 H.1) (tw85 H.1) (tw87 H.1) (tw86 H.1) (nfSel (tw87 H.1)) (by decide) Ex363 (g := (mkF m 72 #[vA a1, vI 1, vI 0, vI c1] [.int c1, (.ref a363)])) rfl (by rw [hml]; rfl) [(.int c1)] [] (lenOf pd_11 rfl) rfl (Wd := 0) (Nat.le_refl _) (hb hby d30_72) (by decide) (by decide) [] (fun _ _ _ q => q.2) all0 (fun vm0 hZ => payN (ct_ix1 H a363 b363 _ c1 A363.old Ex363 Fc363 Fv363 Va363 r1) (tw88 H.1) (tw8 H.1) (by decide) (by decide) hZ)
        obtain ⟨Q364, N364, -⟩ := Q364
        obtain ⟨z364, rfl, q364, D364⟩ := Q364
        have q364 := q364.symm
        subst q364
        have A364 := AA364 [] all0
        refine Run.st (T364.setTop (mkF m 75 #[vA a1, vI 1, vI 0, vI c1] [.int z364])) st364 ?_
        by_cases c365 : z364 < (0 : Int32)
        · refine Run.st (T364.setTop (mkF m 91 #[vA a1, vI 0, vI 1, vI c1] [.int 0])) (fun _ k => XS.ifYes A364.here hx rfl (pc0 := 75) (pc' := 82) rfl (hb hby d30_75) rfl (by rw [if0]; exact (tlt c365).1) (by decide) (by decide) (XS.iconst A364.here hx rfl (hb hby d30_82) (XS.istoreN A364.here hx rfl (hb hby d30_83) rfl (l' := #[vA a1, vI 0, vI 0, vI c1]) rfl (XS.iinc A364.here hx rfl (hb hby d30_84) rfl (l' := #[vA a1, vI 0, vI 1, vI c1]) rfl (XS.goto A364.here hx rfl (pc0 := 87) (pc' := 15) rfl (hb hby d30_87) (by decide) (by decide) (XS.iloadN A364.here hx rfl (hb hby d30_15) rfl (XS.ifYes A364.here hx rfl (pc0 := 16) (pc' := 90) rfl (hb hby d30_16) rfl (by decide) (by decide) (by decide) (XS.iloadN A364.here hx rfl (hb hby d30_90) rfl k)))))))) ?_
          exact A364.leaveW hlk hh0 (some (.int (0 : Int32))) (fun q => by rw [hrt] at q; cases q) (by decide) (by decide) ⟨_, rfl, keepE A364.keep, Or.inr ⟨fun q => (D364.elim (fun d => absurd c365 d.2) (fun d => d.1)) ((q.1 c1 (List.mem_of_getElem? (i := 0) rfl)).elim (fun k => absurd k nr357) fun k => k.elim (fun k => absurd k nr359) fun k => k.elim (fun k => absurd k nr361) id), rfl⟩⟩ (fun X hr => retN X hx (t := .boolean) hrt (by simp) (hb hby d30_91) hr)
        · refine Run.st (T364.setTop (mkF m 15 #[vA a1, vI 1, vI 1, vI c1] [])) (fun _ k => XS.ifNo A364.here hx rfl (hb hby d30_75) rfl (by rw [if0]; exact (flt c365).1) (XS.iconst A364.here hx rfl (hb hby d30_78) (XS.goto A364.here hx rfl (pc0 := 79) (pc' := 83) rfl (hb hby d30_79) (by decide) (by decide) (XS.istoreN A364.here hx rfl (hb hby d30_83) rfl (l' := #[vA a1, vI 1, vI 0, vI c1]) rfl (XS.iinc A364.here hx rfl (hb hby d30_84) rfl (l' := #[vA a1, vI 1, vI 1, vI c1]) rfl (XS.goto A364.here hx rfl (pc0 := 87) (pc' := 15) rfl (hb hby d30_87) (by decide) (by decide) k)))))) ?_
          have X366 : Ext h0 h363 := E363
          exact jn352 T364 h363 (A364.mono (by decide) (by decide)) X366 (Or.inr (Or.inr (Or.inr (D364.elim (fun d => d.1) (fun d => absurd d.2 c365)))))
      by_cases c367 : c1 < (48 : Int32)
      · refine Run.st (T360.setTop (mkF m 69 #[vA a1, vI 1, vI 0, vI c1] [])) (fun _ k => XS.icmpYes A360.here hx rfl (pc0 := 60) (pc' := 69) rfl (hb hby d30_60) rfl (tlt c367).1 (by decide) (by decide) k) ?_
        exact jn362 T360 (A360.mono (by decide) (by decide)) (fun k => k.1 c367)
      · refine Run.st (T360.setTop (mkF m 66 #[vA a1, vI 1, vI 0, vI c1] [.int 57, .int c1])) (fun _ k => XS.icmpNo A360.here hx rfl (hb hby d30_60) rfl (flt c367).1 (XS.iloadN A360.here hx rfl (hb hby d30_63) rfl (XS.bipush A360.here hx rfl (hb hby d30_64) k))) ?_
        by_cases c368 : (57 : Int32) < c1
        · refine Run.st (T360.setTop (mkF m 69 #[vA a1, vI 1, vI 0, vI c1] [])) (fun _ k => XS.icmpNo A360.here hx rfl (hb hby d30_66) rfl (tlt c368).2.2.2 k) ?_
          exact jn362 T360 (A360.mono (by decide) (by decide)) (fun k => k.2 c368)
        · refine Run.st (T360.setTop (mkF m 15 #[vA a1, vI 1, vI 1, vI c1] [])) (fun _ k => XS.icmpYes A360.here hx rfl (pc0 := 66) (pc' := 78) rfl (hb hby d30_66) rfl (flt c368).2.2.2 (by decide) (by decide) (XS.iconst A360.here hx rfl (hb hby d30_78) (XS.goto A360.here hx rfl (pc0 := 79) (pc' := 83) rfl (hb hby d30_79) (by decide) (by decide) (XS.istoreN A360.here hx rfl (hb hby d30_83) rfl (l' := #[vA a1, vI 1, vI 0, vI c1]) rfl (XS.iinc A360.here hx rfl (hb hby d30_84) rfl (l' := #[vA a1, vI 1, vI 1, vI c1]) rfl (XS.goto A360.here hx rfl (pc0 := 87) (pc' := 15) rfl (hb hby d30_87) (by decide) (by decide) k)))))) ?_
          exact jn352 T360 h0 (A360.mono (by decide) (by decide)) (extR h0) ((Or.inr ((Or.inr (Or.inl ⟨c367, c368⟩)))))
    by_cases c369 : c1 < (65 : Int32)
    · refine Run.st (T358.setTop (mkF m 57 #[vA a1, vI 1, vI 0, vI c1] [])) (fun _ k => XS.icmpYes A358.here hx rfl (pc0 := 48) (pc' := 57) rfl (hb hby d30_48) rfl (tlt c369).1 (by decide) (by decide) k) ?_
      exact jn360 T358 (A358.mono (by decide) (by decide)) (fun k => k.1 c369)
    · refine Run.st (T358.setTop (mkF m 54 #[vA a1, vI 1, vI 0, vI c1] [.int 90, .int c1])) (fun _ k => XS.icmpNo A358.here hx rfl (hb hby d30_48) rfl (flt c369).1 (XS.iloadN A358.here hx rfl (hb hby d30_51) rfl (XS.bipush A358.here hx rfl (hb hby d30_52) k))) ?_
      by_cases c370 : (90 : Int32) < c1
      · refine Run.st (T358.setTop (mkF m 57 #[vA a1, vI 1, vI 0, vI c1] [])) (fun _ k => XS.icmpNo A358.here hx rfl (hb hby d30_54) rfl (tlt c370).2.2.2 k) ?_
        exact jn360 T358 (A358.mono (by decide) (by decide)) (fun k => k.2 c370)
      · refine Run.st (T358.setTop (mkF m 15 #[vA a1, vI 1, vI 1, vI c1] [])) (fun _ k => XS.icmpYes A358.here hx rfl (pc0 := 54) (pc' := 78) rfl (hb hby d30_54) rfl (flt c370).2.2.2 (by decide) (by decide) (XS.iconst A358.here hx rfl (hb hby d30_78) (XS.goto A358.here hx rfl (pc0 := 79) (pc' := 83) rfl (hb hby d30_79) (by decide) (by decide) (XS.istoreN A358.here hx rfl (hb hby d30_83) rfl (l' := #[vA a1, vI 1, vI 0, vI c1]) rfl (XS.iinc A358.here hx rfl (hb hby d30_84) rfl (l' := #[vA a1, vI 1, vI 1, vI c1]) rfl (XS.goto A358.here hx rfl (pc0 := 87) (pc' := 15) rfl (hb hby d30_87) (by decide) (by decide) k)))))) ?_
        exact jn352 T358 h0 (A358.mono (by decide) (by decide)) (extR h0) ((Or.inr (Or.inl ⟨c369, c370⟩)))
  by_cases c371 : c1 < (97 : Int32)
  · refine Run.st (T350.setTop (mkF m 45 #[vA a1, vI 1, vI 0, vI c1] [])) (fun _ k => XS.icmpYes A350.here hx rfl (pc0 := 36) (pc' := 45) rfl (hb hby d30_36) rfl (tlt c371).1 (by decide) (by decide) k) ?_
    exact jn358 T350 (A350.mono (by decide) (by decide)) (fun k => k.1 c371)
  · refine Run.st (T350.setTop (mkF m 42 #[vA a1, vI 1, vI 0, vI c1] [.int 122, .int c1])) (fun _ k => XS.icmpNo A350.here hx rfl (hb hby d30_36) rfl (flt c371).1 (XS.iloadN A350.here hx rfl (hb hby d30_39) rfl (XS.bipush A350.here hx rfl (hb hby d30_40) k))) ?_
    by_cases c372 : (122 : Int32) < c1
    · refine Run.st (T350.setTop (mkF m 45 #[vA a1, vI 1, vI 0, vI c1] [])) (fun _ k => XS.icmpNo A350.here hx rfl (hb hby d30_42) rfl (tlt c372).2.2.2 k) ?_
      exact jn358 T350 (A350.mono (by decide) (by decide)) (fun k => k.2 c372)
    · refine Run.st (T350.setTop (mkF m 15 #[vA a1, vI 1, vI 1, vI c1] [])) (fun _ k => XS.icmpYes A350.here hx rfl (pc0 := 42) (pc' := 78) rfl (hb hby d30_42) rfl (flt c372).2.2.2 (by decide) (by decide) (XS.iconst A350.here hx rfl (hb hby d30_78) (XS.goto A350.here hx rfl (pc0 := 79) (pc' := 83) rfl (hb hby d30_79) (by decide) (by decide) (XS.istoreN A350.here hx rfl (hb hby d30_83) rfl (l' := #[vA a1, vI 1, vI 0, vI c1]) rfl (XS.iinc A350.here hx rfl (hb hby d30_84) rfl (l' := #[vA a1, vI 1, vI 1, vI c1]) rfl (XS.goto A350.here hx rfl (pc0 := 87) (pc' := 15) rfl (hb hby d30_87) (by decide) (by decide) k)))))) ?_
      exact jn352 T350 h0 (A350.mono (by decide) (by decide)) (extR h0) (Or.inl ⟨c371, c372⟩)
theorem ef_tok2 (m : MethodId) (y0 : Addr) : entryFrame m #[(.ref y0)] 4 = mkF m 0 #[vA y0, .unset, .unset, .unset] [] := by first | (simp [entryFrame, mkF, argsToLocals, vI, vA, Value.category, maxLocals]; done) | rfl
def Q_tok2 (Z : State) (a1 : Addr) (c1 : Int32) (c2 : Int32) (h0 : Heap) (v : Option Value) (h : Heap) : Prop := ∃ z, v = some (.int z) ∧ Ext h0 h ∧ (((∀ c ∈ ([c1, c2] : List Int32), tokP c) ∧ ([c1, c2] : List Int32) ≠ []) ∧ z = 1 ∨ ¬ ((∀ c ∈ ([c1, c2] : List Int32), tokP c) ∧ ([c1, c2] : List Int32) ≠ []) ∧ z = 0)
def rm_tok2 : Room := { frames := 5, cells := 4, slots := 128, locals := 66 }
set_option maxRecDepth 65536 in
set_option maxHeartbeats 40000000 in
theorem ct_tok2 {l : Launch} {Z : State} {a0 : Array Value} (H : Ev Z a0) (a1 : Addr) (c1 : Int32) (c2 : Int32) {h0 : Heap} {n0 : Nat} (O0 : Old Z n0 h0) (S1 : StrU Z h0 a1 [c1, c2]) (r1 : R16 c1) (r2 : R16 c2) : CtrW l Z EL (⟨"com/example/gate_to_handlers/gatetohandlers/MediaType", "isToken", "(Ljava/lang/String;)Z"⟩ : MethodName) prog_69_method_11_code 4 (some .boolean) [] rm_tok2 #[(.ref a1)] h0 [] n0 (Q_tok2 Z a1 c1 c2 h0) := by
  refine enterW (a0 := a0) (plainFor_of_name pn_5) (elA H) O0 all0 ?_
  intro p e s m below meth c T0 hx hby hml hrt hnm hlk hh0 A0
  replace A0 : Wk true Z a0 EL n0 h0 [] "com/example/gate_to_handlers/gatetohandlers/MediaType" p l e rm_tok2 s m #[(.ref a1)] below meth c [] T0 h0 0 0 := A0
  refine Run.st (T0.setTop (mkF m 0 #[vA a1, .unset, .unset, .unset] [])) (fun _ k => castTop (ef_tok2 m a1) k) ?_
  refine Run.st (T0.setTop (mkF m 1 #[vA a1, .unset, .unset, .unset] [(.ref a1)])) (fun _ k => XS.aloadN A0.here hx rfl (hb hby d30_0) rfl rfl k) ?_
  obtain ⟨v373, T373, h373, AA373, K373, ⟨L373, Q373⟩, st373⟩ := A0.callV hx (y := (⟨"java/lang/String", "isEmpty", "()Z"⟩ : MethodName)) (z := (⟨"java/lang/String", "isEmpty", "()Z"⟩ : MethodName)) (tw32 H.1) (tw33 H.1) (tw35 H.1) (tw34 H.1) (nfSel (tw35 H.1)) (by decide) S1.1 (g := (mkF m 1 #[vA a1, .unset, .unset, .unset] [(.ref a1)])) rfl (by rw [hml]; rfl) [] [] (lenOf pd_4 rfl) rfl (Wd := 0) (Nat.le_refl _) (hb hby d30_1) (by decide) (by decide) [] (fun _ _ _ q => q.2) all0 (fun vm0 hZ => payN (ct_isEmpty2 H a1 c1 c2 A0.old S1) (tw36 H.1) (tw8 H.1) (by decide) (by decide) hZ)
  obtain ⟨Q373, N373, -⟩ := Q373
  obtain ⟨rfl, q373⟩ := Q373
  have q373 := q373.symm
  subst q373
  have A373 := AA373 [] all0
  refine Run.st (T373.setTop (mkF m 4 #[vA a1, .unset, .unset, .unset] [.int 0])) st373 ?_
  refine Run.st (T373.setTop (mkF m 20 #[vA a1, vI 1, vI 0, .unset] [.int 0])) (fun _ k => XS.ifNo A373.here hx rfl (hb hby d30_4) rfl (by decide) (XS.iconst A373.here hx rfl (hb hby d30_7) (XS.goto A373.here hx rfl (pc0 := 8) (pc' := 12) rfl (hb hby d30_8) (by decide) (by decide) (XS.istoreN A373.here hx rfl (hb hby d30_12) rfl (l' := #[vA a1, vI 1, .unset, .unset]) rfl (XS.iconst A373.here hx rfl (hb hby d30_13) (XS.istoreN A373.here hx rfl (hb hby d30_14) rfl (l' := #[vA a1, vI 1, vI 0, .unset]) rfl (XS.iloadN A373.here hx rfl (hb hby d30_15) rfl (XS.ifNo A373.here hx rfl (hb hby d30_16) rfl (by decide) (XS.iloadN A373.here hx rfl (hb hby d30_19) rfl k))))))))) ?_
  refine Run.st (T373.setTop (mkF m 21 #[vA a1, vI 1, vI 0, .unset] [(.ref a1), .int 0])) (fun _ k => XS.aloadN A373.here hx rfl (hb hby d30_20) rfl rfl k) ?_
  obtain ⟨v374, T374, h374, AA374, K374, ⟨L374, Q374⟩, st374⟩ := A373.callV hx (y := (⟨"java/lang/String", "length", "()I"⟩ : MethodName)) (z := (⟨"java/lang/String", "length", "()I"⟩ : MethodName)) (tw51 H.1) (tw52 H.1) (tw54 H.1) (tw53 H.1) (nfSel (tw54 H.1)) (by decide) S1.1 (g := (mkF m 21 #[vA a1, vI 1, vI 0, .unset] [(.ref a1), .int 0])) rfl (by rw [hml]; rfl) [] [(.int (0 : Int32))] (lenOf pd_5 rfl) rfl (Wd := 1) (Nat.le_refl _) (hb hby d30_21) (by decide) (by decide) [] (fun _ _ _ q => q.2) all0 (fun vm0 hZ => payN (ct_length2 H a1 c1 c2 A373.old S1) (tw55 H.1) (tw8 H.1) (by decide) (by decide) hZ)
  obtain ⟨Q374, N374, -⟩ := Q374
  obtain ⟨rfl, q374⟩ := Q374
  have q374 := q374.symm
  subst q374
  have A374 := AA374 [] all0
  refine Run.st (T374.setTop (mkF m 24 #[vA a1, vI 1, vI 0, .unset] [.int 2, .int 0])) st374 ?_
  refine Run.st (T374.setTop (mkF m 29 #[vA a1, vI 1, vI 0, .unset] [.int 0, (.ref a1)])) (fun _ k => XS.icmpNo A374.here hx rfl (hb hby d30_24) rfl (by decide) (XS.aloadN A374.here hx rfl (hb hby d30_27) rfl rfl (XS.iloadN A374.here hx rfl (hb hby d30_28) rfl k))) ?_
  obtain ⟨v375, T375, h375, AA375, K375, ⟨L375, Q375⟩, st375⟩ := A374.callV hx (y := (⟨"java/lang/String", "charAt", "(I)C"⟩ : MethodName)) (z := (⟨"java/lang/String", "charAt", "(I)C"⟩ : MethodName)) (tw61 H.1) (tw62 H.1) (tw64 H.1) (tw63 H.1) (nfSel (tw64 H.1)) (by decide) S1.1 (g := (mkF m 29 #[vA a1, vI 1, vI 0, .unset] [.int 0, (.ref a1)])) rfl (by rw [hml]; rfl) [(.int (0 : Int32))] [] (lenOf pd_18 rfl) rfl (Wd := 0) (Nat.le_refl _) (hb hby d30_29) (by decide) (by decide) [] (fun _ _ _ q => q.2) all0 (fun vm0 hZ => payN (ct_charAt H a1 [c1, c2] 0 A374.old S1 (Nat.le_of_ble_eq_true rfl) (Nat.le_of_ble_eq_true rfl) (chsS r1 (chsS r2 chs0))) (tw65 H.1) (tw8 H.1) (by decide) (by decide) hZ)
  obtain ⟨Q375, N375, -⟩ := Q375
  obtain ⟨e375, q375⟩ := Q375
  replace e375 : v375 = some (.int c1) := e375
  subst e375
  have q375 := q375.symm
  subst q375
  have A375 := AA375 [] all0
  refine Run.st (T375.setTop (mkF m 32 #[vA a1, vI 1, vI 0, .unset] [.int c1])) st375 ?_
  refine Run.st (T375.setTop (mkF m 33 #[vA a1, vI 1, vI 0, vI c1] [])) (fun _ k => XS.istoreN A375.here hx rfl (hb hby d30_32) rfl (l' := #[vA a1, vI 1, vI 0, vI c1]) rfl k) ?_
  have jn377 : ∀ (T377 : State) (h377 : Heap), Wk true Z a0 EL n0 h0 [] "com/example/gate_to_handlers/gatetohandlers/MediaType" p l e rm_tok2 s m #[(.ref a1)] below meth c [] T377 h377 2 64 → Ext h0 h377 → (tokP c1) → Run p.tables e below (EndW Z EL s h0 [] n0 rm_tok2 (Q_tok2 Z a1 c1 c2 h0)) (T377.setTop (mkF m 15 #[vA a1, vI 1, vI 1, vI c1] [])) := by
    intro T377 h377 A377 X377 tk376
    refine Run.st (T377.setTop (mkF m 21 #[vA a1, vI 1, vI 1, vI c1] [(.ref a1), .int 1])) (fun _ k => XS.iloadN A377.here hx rfl (hb hby d30_15) rfl (XS.ifNo A377.here hx rfl (hb hby d30_16) rfl (by decide) (XS.iloadN A377.here hx rfl (hb hby d30_19) rfl (XS.aloadN A377.here hx rfl (hb hby d30_20) rfl rfl k)))) ?_
    have X379 : Ext h0 h377 := X377
    have f380 := S1.ext X379
    have f381 := S1.1.ext X379
    obtain ⟨v378, T378, h378, AA378, K378, ⟨L378, Q378⟩, st378⟩ := A377.callV hx (y := (⟨"java/lang/String", "length", "()I"⟩ : MethodName)) (z := (⟨"java/lang/String", "length", "()I"⟩ : MethodName)) (tw51 H.1) (tw52 H.1) (tw54 H.1) (tw53 H.1) (nfSel (tw54 H.1)) (by decide) f381 (g := (mkF m 21 #[vA a1, vI 1, vI 1, vI c1] [(.ref a1), .int 1])) rfl (by rw [hml]; rfl) [] [(.int (1 : Int32))] (lenOf pd_5 rfl) rfl (Wd := 1) (Nat.le_refl _) (hb hby d30_21) (by decide) (by decide) [] (fun _ _ _ q => q.2) all0 (fun vm0 hZ => payN (ct_length2 H a1 c1 c2 A377.old f380) (tw55 H.1) (tw8 H.1) (by decide) (by decide) hZ)
    obtain ⟨Q378, N378, -⟩ := Q378
    obtain ⟨rfl, q378⟩ := Q378
    have q378 := q378.symm
    subst q378
    have A378 := AA378 [] all0
    refine Run.st (T378.setTop (mkF m 24 #[vA a1, vI 1, vI 1, vI c1] [.int 2, .int 1])) st378 ?_
    refine Run.st (T378.setTop (mkF m 29 #[vA a1, vI 1, vI 1, vI c1] [.int 1, (.ref a1)])) (fun _ k => XS.icmpNo A378.here hx rfl (hb hby d30_24) rfl (by decide) (XS.aloadN A378.here hx rfl (hb hby d30_27) rfl rfl (XS.iloadN A378.here hx rfl (hb hby d30_28) rfl k))) ?_
    obtain ⟨v382, T382, h382, AA382, K382, ⟨L382, Q382⟩, st382⟩ := A378.callV hx (y := (⟨"java/lang/String", "charAt", "(I)C"⟩ : MethodName)) (z := (⟨"java/lang/String", "charAt", "(I)C"⟩ : MethodName)) (tw61 H.1) (tw62 H.1) (tw64 H.1) (tw63 H.1) (nfSel (tw64 H.1)) (by decide) f381 (g := (mkF m 29 #[vA a1, vI 1, vI 1, vI c1] [.int 1, (.ref a1)])) rfl (by rw [hml]; rfl) [(.int (1 : Int32))] [] (lenOf pd_18 rfl) rfl (Wd := 0) (Nat.le_refl _) (hb hby d30_29) (by decide) (by decide) [] (fun _ _ _ q => q.2) all0 (fun vm0 hZ => payN (ct_charAt H a1 [c1, c2] 1 A378.old f380 (Nat.le_of_ble_eq_true rfl) (Nat.le_of_ble_eq_true rfl) (chsS r1 (chsS r2 chs0))) (tw65 H.1) (tw8 H.1) (by decide) (by decide) hZ)
    obtain ⟨Q382, N382, -⟩ := Q382
    obtain ⟨e382, q382⟩ := Q382
    replace e382 : v382 = some (.int c2) := e382
    subst e382
    have q382 := q382.symm
    subst q382
    have A382 := AA382 [] all0
    refine Run.st (T382.setTop (mkF m 32 #[vA a1, vI 1, vI 1, vI c1] [.int c2])) st382 ?_
    refine Run.st (T382.setTop (mkF m 33 #[vA a1, vI 1, vI 1, vI c2] [])) (fun _ k => XS.istoreN A382.here hx rfl (hb hby d30_32) rfl (l' := #[vA a1, vI 1, vI 1, vI c2]) rfl k) ?_
    have jn384 : ∀ (T384 : State) (h384 : Heap), Wk true Z a0 EL n0 h0 [] "com/example/gate_to_handlers/gatetohandlers/MediaType" p l e rm_tok2 s m #[(.ref a1)] below meth c [] T384 h384 4 128 → Ext h377 h384 → (tokP c2) → Run p.tables e below (EndW Z EL s h0 [] n0 rm_tok2 (Q_tok2 Z a1 c1 c2 h0)) (T384.setTop (mkF m 15 #[vA a1, vI 1, vI 2, vI c2] [])) := by
      intro T384 h384 A384 X384 tk383
      refine Run.st (T384.setTop (mkF m 21 #[vA a1, vI 1, vI 2, vI c2] [(.ref a1), .int 2])) (fun _ k => XS.iloadN A384.here hx rfl (hb hby d30_15) rfl (XS.ifNo A384.here hx rfl (hb hby d30_16) rfl (by decide) (XS.iloadN A384.here hx rfl (hb hby d30_19) rfl (XS.aloadN A384.here hx rfl (hb hby d30_20) rfl rfl k)))) ?_
      have X386 : Ext h0 h384 := (extT X379 X384)
      have f387 := S1.ext X386
      have f388 := S1.1.ext X386
      obtain ⟨v385, T385, h385, AA385, K385, ⟨L385, Q385⟩, st385⟩ := A384.callV hx (y := (⟨"java/lang/String", "length", "()I"⟩ : MethodName)) (z := (⟨"java/lang/String", "length", "()I"⟩ : MethodName)) (tw51 H.1) (tw52 H.1) (tw54 H.1) (tw53 H.1) (nfSel (tw54 H.1)) (by decide) f388 (g := (mkF m 21 #[vA a1, vI 1, vI 2, vI c2] [(.ref a1), .int 2])) rfl (by rw [hml]; rfl) [] [(.int (2 : Int32))] (lenOf pd_5 rfl) rfl (Wd := 1) (Nat.le_refl _) (hb hby d30_21) (by decide) (by decide) [] (fun _ _ _ q => q.2) all0 (fun vm0 hZ => payN (ct_length2 H a1 c1 c2 A384.old f387) (tw55 H.1) (tw8 H.1) (by decide) (by decide) hZ)
      obtain ⟨Q385, N385, -⟩ := Q385
      obtain ⟨rfl, q385⟩ := Q385
      have q385 := q385.symm
      subst q385
      have A385 := AA385 [] all0
      refine Run.st (T385.setTop (mkF m 24 #[vA a1, vI 1, vI 2, vI c2] [.int 2, .int 2])) st385 ?_
      refine Run.st (T385.setTop (mkF m 91 #[vA a1, vI 1, vI 2, vI c2] [.int 1])) (fun _ k => XS.icmpYes A385.here hx rfl (pc0 := 24) (pc' := 90) rfl (hb hby d30_24) rfl (by decide) (by decide) (by decide) (XS.iloadN A385.here hx rfl (hb hby d30_90) rfl k)) ?_
      exact A385.leaveW hlk hh0 (some (.int (1 : Int32))) (fun q => by rw [hrt] at q; cases q) (by decide) (by decide) ⟨_, rfl, keepE A385.keep, Or.inl ⟨⟨(chsS tk376 (chsS tk383 chs0)), List.cons_ne_nil _ _⟩, rfl⟩⟩ (fun X hr => retN X hx (t := .boolean) hrt (by simp) (hb hby d30_91) hr)
    refine Run.st (T382.setTop (mkF m 36 #[vA a1, vI 1, vI 1, vI c2] [.int 97, .int c2])) (fun _ k => XS.iloadN A382.here hx rfl (hb hby d30_33) rfl (XS.bipush A382.here hx rfl (hb hby d30_34) k)) ?_
    have jn390 : ∀ (T390 : State), Wk true Z a0 EL n0 h0 [] "com/example/gate_to_handlers/gatetohandlers/MediaType" p l e rm_tok2 s m #[(.ref a1)] below meth c [] T390 h377 2 64 → (¬ (¬ c2 < (97 : Int32) ∧ ¬ (122 : Int32) < c2)) → Run p.tables e below (EndW Z EL s h0 [] n0 rm_tok2 (Q_tok2 Z a1 c1 c2 h0)) (T390.setTop (mkF m 45 #[vA a1, vI 1, vI 1, vI c2] [])) := by
      intro T390 A390 nr389
      refine Run.st (T390.setTop (mkF m 48 #[vA a1, vI 1, vI 1, vI c2] [.int 65, .int c2])) (fun _ k => XS.iloadN A390.here hx rfl (hb hby d30_45) rfl (XS.bipush A390.here hx rfl (hb hby d30_46) k)) ?_
      have jn392 : ∀ (T392 : State), Wk true Z a0 EL n0 h0 [] "com/example/gate_to_handlers/gatetohandlers/MediaType" p l e rm_tok2 s m #[(.ref a1)] below meth c [] T392 h377 2 64 → (¬ (¬ c2 < (65 : Int32) ∧ ¬ (90 : Int32) < c2)) → Run p.tables e below (EndW Z EL s h0 [] n0 rm_tok2 (Q_tok2 Z a1 c1 c2 h0)) (T392.setTop (mkF m 57 #[vA a1, vI 1, vI 1, vI c2] [])) := by
        intro T392 A392 nr391
        refine Run.st (T392.setTop (mkF m 60 #[vA a1, vI 1, vI 1, vI c2] [.int 48, .int c2])) (fun _ k => XS.iloadN A392.here hx rfl (hb hby d30_57) rfl (XS.bipush A392.here hx rfl (hb hby d30_58) k)) ?_
        have jn394 : ∀ (T394 : State), Wk true Z a0 EL n0 h0 [] "com/example/gate_to_handlers/gatetohandlers/MediaType" p l e rm_tok2 s m #[(.ref a1)] below meth c [] T394 h377 2 64 → (¬ (¬ c2 < (48 : Int32) ∧ ¬ (57 : Int32) < c2)) → Run p.tables e below (EndW Z EL s h0 [] n0 rm_tok2 (Q_tok2 Z a1 c1 c2 h0)) (T394.setTop (mkF m 69 #[vA a1, vI 1, vI 1, vI c2] [])) := by
          intro T394 A394 nr393
          obtain ⟨a395, b395, kA395, T395, h395, A395, E395, Ex395, Fc395, Fv395, Va395, ne395, st395⟩ := A394.ldc hx (tw83 H.1) (strsA H) (List.mem_of_getElem? (i := 0) rfl) (vs := (([(33 : Int32), (35 : Int32), (36 : Int32), (37 : Int32), (38 : Int32), (39 : Int32), (42 : Int32), (43 : Int32), (45 : Int32), (46 : Int32), (94 : Int32), (95 : Int32), (96 : Int32), (124 : Int32), (126 : Int32)] : List Int32).map fun c => c.toInt8.toInt32).map Value.int) (z := (15 : Int32)) ⟨by decide, by decide +kernel⟩ (by decide) (by decide +kernel) (g := (mkF m 69 #[vA a1, vI 1, vI 1, vI c2] [])) rfl (hb hby d30_69) (q := 60) (by decide) (by decide) (by decide) (by decide)
          have S395 : StrA Z h395 a395 [(33 : Int32), (35 : Int32), (36 : Int32), (37 : Int32), (38 : Int32), (39 : Int32), (42 : Int32), (43 : Int32), (45 : Int32), (46 : Int32), (94 : Int32), (95 : Int32), (96 : Int32), (124 : Int32), (126 : Int32)] := ⟨Ex395, Fc395, ⟨b395, kA395, Fv395, Va395⟩, by decide, by decide⟩
          refine Run.st (T395.setTop (mkF m 71 #[vA a1, vI 1, vI 1, vI c2] [(.ref a395)])) st395 ?_
          refine Run.st (T395.setTop (mkF m 72 #[vA a1, vI 1, vI 1, vI c2] [.int c2, (.ref a395)])) (fun _ k => XS.iloadN A395.here hx rfl (hb hby d30_71) rfl k) ?_
          obtain ⟨v396, T396, h396, AA396, K396, ⟨L396, Q396⟩, st396⟩ := A395.callV hx (y := (⟨"java/lang/String", "indexOf", "(I)I"⟩ : MethodName)) (z := (⟨"java/lang/String", "indexOf", "(I)I"⟩ : MethodName)) (tw84 H.1) (tw85 H.1) (tw87 H.1) (tw86 H.1) (nfSel (tw87 H.1)) (by decide) Ex395 (g := (mkF m 72 #[vA a1, vI 1, vI 1, vI c2] [.int c2, (.ref a395)])) rfl (by rw [hml]; rfl) [(.int c2)] [] (lenOf pd_11 rfl) rfl (Wd := 0) (Nat.le_refl _) (hb hby d30_72) (by decide) (by decide) [] (fun _ _ _ q => q.2) all0 (fun vm0 hZ => payN (ct_ix1 H a395 b395 _ c2 A395.old Ex395 Fc395 Fv395 Va395 r2) (tw88 H.1) (tw8 H.1) (by decide) (by decide) hZ)
          obtain ⟨Q396, N396, -⟩ := Q396
          obtain ⟨z396, rfl, q396, D396⟩ := Q396
          have q396 := q396.symm
          subst q396
          have A396 := AA396 [] all0
          refine Run.st (T396.setTop (mkF m 75 #[vA a1, vI 1, vI 1, vI c2] [.int z396])) st396 ?_
          by_cases c397 : z396 < (0 : Int32)
          · refine Run.st (T396.setTop (mkF m 91 #[vA a1, vI 0, vI 2, vI c2] [.int 0])) (fun _ k => XS.ifYes A396.here hx rfl (pc0 := 75) (pc' := 82) rfl (hb hby d30_75) rfl (by rw [if0]; exact (tlt c397).1) (by decide) (by decide) (XS.iconst A396.here hx rfl (hb hby d30_82) (XS.istoreN A396.here hx rfl (hb hby d30_83) rfl (l' := #[vA a1, vI 0, vI 1, vI c2]) rfl (XS.iinc A396.here hx rfl (hb hby d30_84) rfl (l' := #[vA a1, vI 0, vI 2, vI c2]) rfl (XS.goto A396.here hx rfl (pc0 := 87) (pc' := 15) rfl (hb hby d30_87) (by decide) (by decide) (XS.iloadN A396.here hx rfl (hb hby d30_15) rfl (XS.ifYes A396.here hx rfl (pc0 := 16) (pc' := 90) rfl (hb hby d30_16) rfl (by decide) (by decide) (by decide) (XS.iloadN A396.here hx rfl (hb hby d30_90) rfl k)))))))) ?_
            exact A396.leaveW hlk hh0 (some (.int (0 : Int32))) (fun q => by rw [hrt] at q; cases q) (by decide) (by decide) ⟨_, rfl, keepE A396.keep, Or.inr ⟨fun q => (D396.elim (fun d => absurd c397 d.2) (fun d => d.1)) ((q.1 c2 (List.mem_of_getElem? (i := 1) rfl)).elim (fun k => absurd k nr389) fun k => k.elim (fun k => absurd k nr391) fun k => k.elim (fun k => absurd k nr393) id), rfl⟩⟩ (fun X hr => retN X hx (t := .boolean) hrt (by simp) (hb hby d30_91) hr)
          · refine Run.st (T396.setTop (mkF m 15 #[vA a1, vI 1, vI 2, vI c2] [])) (fun _ k => XS.ifNo A396.here hx rfl (hb hby d30_75) rfl (by rw [if0]; exact (flt c397).1) (XS.iconst A396.here hx rfl (hb hby d30_78) (XS.goto A396.here hx rfl (pc0 := 79) (pc' := 83) rfl (hb hby d30_79) (by decide) (by decide) (XS.istoreN A396.here hx rfl (hb hby d30_83) rfl (l' := #[vA a1, vI 1, vI 1, vI c2]) rfl (XS.iinc A396.here hx rfl (hb hby d30_84) rfl (l' := #[vA a1, vI 1, vI 2, vI c2]) rfl (XS.goto A396.here hx rfl (pc0 := 87) (pc' := 15) rfl (hb hby d30_87) (by decide) (by decide) k)))))) ?_
            have X398 : Ext h377 h395 := E395
            exact jn384 T396 h395 (A396.mono (by decide) (by decide)) X398 (Or.inr (Or.inr (Or.inr (D396.elim (fun d => d.1) (fun d => absurd d.2 c397)))))
        by_cases c399 : c2 < (48 : Int32)
        · refine Run.st (T392.setTop (mkF m 69 #[vA a1, vI 1, vI 1, vI c2] [])) (fun _ k => XS.icmpYes A392.here hx rfl (pc0 := 60) (pc' := 69) rfl (hb hby d30_60) rfl (tlt c399).1 (by decide) (by decide) k) ?_
          exact jn394 T392 (A392.mono (by decide) (by decide)) (fun k => k.1 c399)
        · refine Run.st (T392.setTop (mkF m 66 #[vA a1, vI 1, vI 1, vI c2] [.int 57, .int c2])) (fun _ k => XS.icmpNo A392.here hx rfl (hb hby d30_60) rfl (flt c399).1 (XS.iloadN A392.here hx rfl (hb hby d30_63) rfl (XS.bipush A392.here hx rfl (hb hby d30_64) k))) ?_
          by_cases c400 : (57 : Int32) < c2
          · refine Run.st (T392.setTop (mkF m 69 #[vA a1, vI 1, vI 1, vI c2] [])) (fun _ k => XS.icmpNo A392.here hx rfl (hb hby d30_66) rfl (tlt c400).2.2.2 k) ?_
            exact jn394 T392 (A392.mono (by decide) (by decide)) (fun k => k.2 c400)
          · refine Run.st (T392.setTop (mkF m 15 #[vA a1, vI 1, vI 2, vI c2] [])) (fun _ k => XS.icmpYes A392.here hx rfl (pc0 := 66) (pc' := 78) rfl (hb hby d30_66) rfl (flt c400).2.2.2 (by decide) (by decide) (XS.iconst A392.here hx rfl (hb hby d30_78) (XS.goto A392.here hx rfl (pc0 := 79) (pc' := 83) rfl (hb hby d30_79) (by decide) (by decide) (XS.istoreN A392.here hx rfl (hb hby d30_83) rfl (l' := #[vA a1, vI 1, vI 1, vI c2]) rfl (XS.iinc A392.here hx rfl (hb hby d30_84) rfl (l' := #[vA a1, vI 1, vI 2, vI c2]) rfl (XS.goto A392.here hx rfl (pc0 := 87) (pc' := 15) rfl (hb hby d30_87) (by decide) (by decide) k)))))) ?_
            exact jn384 T392 h377 (A392.mono (by decide) (by decide)) (extR h377) ((Or.inr ((Or.inr (Or.inl ⟨c399, c400⟩)))))
      by_cases c401 : c2 < (65 : Int32)
      · refine Run.st (T390.setTop (mkF m 57 #[vA a1, vI 1, vI 1, vI c2] [])) (fun _ k => XS.icmpYes A390.here hx rfl (pc0 := 48) (pc' := 57) rfl (hb hby d30_48) rfl (tlt c401).1 (by decide) (by decide) k) ?_
        exact jn392 T390 (A390.mono (by decide) (by decide)) (fun k => k.1 c401)
      · refine Run.st (T390.setTop (mkF m 54 #[vA a1, vI 1, vI 1, vI c2] [.int 90, .int c2])) (fun _ k => XS.icmpNo A390.here hx rfl (hb hby d30_48) rfl (flt c401).1 (XS.iloadN A390.here hx rfl (hb hby d30_51) rfl (XS.bipush A390.here hx rfl (hb hby d30_52) k))) ?_
        by_cases c402 : (90 : Int32) < c2
        · refine Run.st (T390.setTop (mkF m 57 #[vA a1, vI 1, vI 1, vI c2] [])) (fun _ k => XS.icmpNo A390.here hx rfl (hb hby d30_54) rfl (tlt c402).2.2.2 k) ?_
          exact jn392 T390 (A390.mono (by decide) (by decide)) (fun k => k.2 c402)
        · refine Run.st (T390.setTop (mkF m 15 #[vA a1, vI 1, vI 2, vI c2] [])) (fun _ k => XS.icmpYes A390.here hx rfl (pc0 := 54) (pc' := 78) rfl (hb hby d30_54) rfl (flt c402).2.2.2 (by decide) (by decide) (XS.iconst A390.here hx rfl (hb hby d30_78) (XS.goto A390.here hx rfl (pc0 := 79) (pc' := 83) rfl (hb hby d30_79) (by decide) (by decide) (XS.istoreN A390.here hx rfl (hb hby d30_83) rfl (l' := #[vA a1, vI 1, vI 1, vI c2]) rfl (XS.iinc A390.here hx rfl (hb hby d30_84) rfl (l' := #[vA a1, vI 1, vI 2, vI c2]) rfl (XS.goto A390.here hx rfl (pc0 := 87) (pc' := 15) rfl (hb hby d30_87) (by decide) (by decide) k)))))) ?_
          exact jn384 T390 h377 (A390.mono (by decide) (by decide)) (extR h377) ((Or.inr (Or.inl ⟨c401, c402⟩)))
    by_cases c403 : c2 < (97 : Int32)
    · refine Run.st (T382.setTop (mkF m 45 #[vA a1, vI 1, vI 1, vI c2] [])) (fun _ k => XS.icmpYes A382.here hx rfl (pc0 := 36) (pc' := 45) rfl (hb hby d30_36) rfl (tlt c403).1 (by decide) (by decide) k) ?_
      exact jn390 T382 (A382.mono (by decide) (by decide)) (fun k => k.1 c403)
    · refine Run.st (T382.setTop (mkF m 42 #[vA a1, vI 1, vI 1, vI c2] [.int 122, .int c2])) (fun _ k => XS.icmpNo A382.here hx rfl (hb hby d30_36) rfl (flt c403).1 (XS.iloadN A382.here hx rfl (hb hby d30_39) rfl (XS.bipush A382.here hx rfl (hb hby d30_40) k))) ?_
      by_cases c404 : (122 : Int32) < c2
      · refine Run.st (T382.setTop (mkF m 45 #[vA a1, vI 1, vI 1, vI c2] [])) (fun _ k => XS.icmpNo A382.here hx rfl (hb hby d30_42) rfl (tlt c404).2.2.2 k) ?_
        exact jn390 T382 (A382.mono (by decide) (by decide)) (fun k => k.2 c404)
      · refine Run.st (T382.setTop (mkF m 15 #[vA a1, vI 1, vI 2, vI c2] [])) (fun _ k => XS.icmpYes A382.here hx rfl (pc0 := 42) (pc' := 78) rfl (hb hby d30_42) rfl (flt c404).2.2.2 (by decide) (by decide) (XS.iconst A382.here hx rfl (hb hby d30_78) (XS.goto A382.here hx rfl (pc0 := 79) (pc' := 83) rfl (hb hby d30_79) (by decide) (by decide) (XS.istoreN A382.here hx rfl (hb hby d30_83) rfl (l' := #[vA a1, vI 1, vI 1, vI c2]) rfl (XS.iinc A382.here hx rfl (hb hby d30_84) rfl (l' := #[vA a1, vI 1, vI 2, vI c2]) rfl (XS.goto A382.here hx rfl (pc0 := 87) (pc' := 15) rfl (hb hby d30_87) (by decide) (by decide) k)))))) ?_
        exact jn384 T382 h377 (A382.mono (by decide) (by decide)) (extR h377) (Or.inl ⟨c403, c404⟩)
  refine Run.st (T375.setTop (mkF m 36 #[vA a1, vI 1, vI 0, vI c1] [.int 97, .int c1])) (fun _ k => XS.iloadN A375.here hx rfl (hb hby d30_33) rfl (XS.bipush A375.here hx rfl (hb hby d30_34) k)) ?_
  have jn406 : ∀ (T406 : State), Wk true Z a0 EL n0 h0 [] "com/example/gate_to_handlers/gatetohandlers/MediaType" p l e rm_tok2 s m #[(.ref a1)] below meth c [] T406 h0 0 0 → (¬ (¬ c1 < (97 : Int32) ∧ ¬ (122 : Int32) < c1)) → Run p.tables e below (EndW Z EL s h0 [] n0 rm_tok2 (Q_tok2 Z a1 c1 c2 h0)) (T406.setTop (mkF m 45 #[vA a1, vI 1, vI 0, vI c1] [])) := by
    intro T406 A406 nr405
    refine Run.st (T406.setTop (mkF m 48 #[vA a1, vI 1, vI 0, vI c1] [.int 65, .int c1])) (fun _ k => XS.iloadN A406.here hx rfl (hb hby d30_45) rfl (XS.bipush A406.here hx rfl (hb hby d30_46) k)) ?_
    have jn408 : ∀ (T408 : State), Wk true Z a0 EL n0 h0 [] "com/example/gate_to_handlers/gatetohandlers/MediaType" p l e rm_tok2 s m #[(.ref a1)] below meth c [] T408 h0 0 0 → (¬ (¬ c1 < (65 : Int32) ∧ ¬ (90 : Int32) < c1)) → Run p.tables e below (EndW Z EL s h0 [] n0 rm_tok2 (Q_tok2 Z a1 c1 c2 h0)) (T408.setTop (mkF m 57 #[vA a1, vI 1, vI 0, vI c1] [])) := by
      intro T408 A408 nr407
      refine Run.st (T408.setTop (mkF m 60 #[vA a1, vI 1, vI 0, vI c1] [.int 48, .int c1])) (fun _ k => XS.iloadN A408.here hx rfl (hb hby d30_57) rfl (XS.bipush A408.here hx rfl (hb hby d30_58) k)) ?_
      have jn410 : ∀ (T410 : State), Wk true Z a0 EL n0 h0 [] "com/example/gate_to_handlers/gatetohandlers/MediaType" p l e rm_tok2 s m #[(.ref a1)] below meth c [] T410 h0 0 0 → (¬ (¬ c1 < (48 : Int32) ∧ ¬ (57 : Int32) < c1)) → Run p.tables e below (EndW Z EL s h0 [] n0 rm_tok2 (Q_tok2 Z a1 c1 c2 h0)) (T410.setTop (mkF m 69 #[vA a1, vI 1, vI 0, vI c1] [])) := by
        intro T410 A410 nr409
        obtain ⟨a411, b411, kA411, T411, h411, A411, E411, Ex411, Fc411, Fv411, Va411, ne411, st411⟩ := A410.ldc hx (tw83 H.1) (strsA H) (List.mem_of_getElem? (i := 0) rfl) (vs := (([(33 : Int32), (35 : Int32), (36 : Int32), (37 : Int32), (38 : Int32), (39 : Int32), (42 : Int32), (43 : Int32), (45 : Int32), (46 : Int32), (94 : Int32), (95 : Int32), (96 : Int32), (124 : Int32), (126 : Int32)] : List Int32).map fun c => c.toInt8.toInt32).map Value.int) (z := (15 : Int32)) ⟨by decide, by decide +kernel⟩ (by decide) (by decide +kernel) (g := (mkF m 69 #[vA a1, vI 1, vI 0, vI c1] [])) rfl (hb hby d30_69) (q := 60) (by decide) (by decide) (by decide) (by decide)
        have S411 : StrA Z h411 a411 [(33 : Int32), (35 : Int32), (36 : Int32), (37 : Int32), (38 : Int32), (39 : Int32), (42 : Int32), (43 : Int32), (45 : Int32), (46 : Int32), (94 : Int32), (95 : Int32), (96 : Int32), (124 : Int32), (126 : Int32)] := ⟨Ex411, Fc411, ⟨b411, kA411, Fv411, Va411⟩, by decide, by decide⟩
        refine Run.st (T411.setTop (mkF m 71 #[vA a1, vI 1, vI 0, vI c1] [(.ref a411)])) st411 ?_
        refine Run.st (T411.setTop (mkF m 72 #[vA a1, vI 1, vI 0, vI c1] [.int c1, (.ref a411)])) (fun _ k => XS.iloadN A411.here hx rfl (hb hby d30_71) rfl k) ?_
        obtain ⟨v412, T412, h412, AA412, K412, ⟨L412, Q412⟩, st412⟩ := A411.callV hx (y := (⟨"java/lang/String", "indexOf", "(I)I"⟩ : MethodName)) (z := (⟨"java/lang/String", "indexOf", "(I)I"⟩ : MethodName)) (tw84 H.1) (tw85 H.1) (tw87 H.1) (tw86 H.1) (nfSel (tw87 H.1)) (by decide) Ex411 (g := (mkF m 72 #[vA a1, vI 1, vI 0, vI c1] [.int c1, (.ref a411)])) rfl (by rw [hml]; rfl) [(.int c1)] [] (lenOf pd_11 rfl) rfl (Wd := 0) (Nat.le_refl _) (hb hby d30_72) (by decide) (by decide) [] (fun _ _ _ q => q.2) all0 (fun vm0 hZ => payN (ct_ix1 H a411 b411 _ c1 A411.old Ex411 Fc411 Fv411 Va411 r1) (tw88 H.1) (tw8 H.1) (by decide) (by decide) hZ)
        obtain ⟨Q412, N412, -⟩ := Q412
        obtain ⟨z412, rfl, q412, D412⟩ := Q412
        have q412 := q412.symm
        subst q412
        have A412 := AA412 [] all0
        refine Run.st (T412.setTop (mkF m 75 #[vA a1, vI 1, vI 0, vI c1] [.int z412])) st412 ?_
        by_cases c413 : z412 < (0 : Int32)
        · refine Run.st (T412.setTop (mkF m 91 #[vA a1, vI 0, vI 1, vI c1] [.int 0])) (fun _ k => XS.ifYes A412.here hx rfl (pc0 := 75) (pc' := 82) rfl (hb hby d30_75) rfl (by rw [if0]; exact (tlt c413).1) (by decide) (by decide) (XS.iconst A412.here hx rfl (hb hby d30_82) (XS.istoreN A412.here hx rfl (hb hby d30_83) rfl (l' := #[vA a1, vI 0, vI 0, vI c1]) rfl (XS.iinc A412.here hx rfl (hb hby d30_84) rfl (l' := #[vA a1, vI 0, vI 1, vI c1]) rfl (XS.goto A412.here hx rfl (pc0 := 87) (pc' := 15) rfl (hb hby d30_87) (by decide) (by decide) (XS.iloadN A412.here hx rfl (hb hby d30_15) rfl (XS.ifYes A412.here hx rfl (pc0 := 16) (pc' := 90) rfl (hb hby d30_16) rfl (by decide) (by decide) (by decide) (XS.iloadN A412.here hx rfl (hb hby d30_90) rfl k)))))))) ?_
          exact A412.leaveW hlk hh0 (some (.int (0 : Int32))) (fun q => by rw [hrt] at q; cases q) (by decide) (by decide) ⟨_, rfl, keepE A412.keep, Or.inr ⟨fun q => (D412.elim (fun d => absurd c413 d.2) (fun d => d.1)) ((q.1 c1 (List.mem_of_getElem? (i := 0) rfl)).elim (fun k => absurd k nr405) fun k => k.elim (fun k => absurd k nr407) fun k => k.elim (fun k => absurd k nr409) id), rfl⟩⟩ (fun X hr => retN X hx (t := .boolean) hrt (by simp) (hb hby d30_91) hr)
        · refine Run.st (T412.setTop (mkF m 15 #[vA a1, vI 1, vI 1, vI c1] [])) (fun _ k => XS.ifNo A412.here hx rfl (hb hby d30_75) rfl (by rw [if0]; exact (flt c413).1) (XS.iconst A412.here hx rfl (hb hby d30_78) (XS.goto A412.here hx rfl (pc0 := 79) (pc' := 83) rfl (hb hby d30_79) (by decide) (by decide) (XS.istoreN A412.here hx rfl (hb hby d30_83) rfl (l' := #[vA a1, vI 1, vI 0, vI c1]) rfl (XS.iinc A412.here hx rfl (hb hby d30_84) rfl (l' := #[vA a1, vI 1, vI 1, vI c1]) rfl (XS.goto A412.here hx rfl (pc0 := 87) (pc' := 15) rfl (hb hby d30_87) (by decide) (by decide) k)))))) ?_
          have X414 : Ext h0 h411 := E411
          exact jn377 T412 h411 (A412.mono (by decide) (by decide)) X414 (Or.inr (Or.inr (Or.inr (D412.elim (fun d => d.1) (fun d => absurd d.2 c413)))))
      by_cases c415 : c1 < (48 : Int32)
      · refine Run.st (T408.setTop (mkF m 69 #[vA a1, vI 1, vI 0, vI c1] [])) (fun _ k => XS.icmpYes A408.here hx rfl (pc0 := 60) (pc' := 69) rfl (hb hby d30_60) rfl (tlt c415).1 (by decide) (by decide) k) ?_
        exact jn410 T408 (A408.mono (by decide) (by decide)) (fun k => k.1 c415)
      · refine Run.st (T408.setTop (mkF m 66 #[vA a1, vI 1, vI 0, vI c1] [.int 57, .int c1])) (fun _ k => XS.icmpNo A408.here hx rfl (hb hby d30_60) rfl (flt c415).1 (XS.iloadN A408.here hx rfl (hb hby d30_63) rfl (XS.bipush A408.here hx rfl (hb hby d30_64) k))) ?_
        by_cases c416 : (57 : Int32) < c1
        · refine Run.st (T408.setTop (mkF m 69 #[vA a1, vI 1, vI 0, vI c1] [])) (fun _ k => XS.icmpNo A408.here hx rfl (hb hby d30_66) rfl (tlt c416).2.2.2 k) ?_
          exact jn410 T408 (A408.mono (by decide) (by decide)) (fun k => k.2 c416)
        · refine Run.st (T408.setTop (mkF m 15 #[vA a1, vI 1, vI 1, vI c1] [])) (fun _ k => XS.icmpYes A408.here hx rfl (pc0 := 66) (pc' := 78) rfl (hb hby d30_66) rfl (flt c416).2.2.2 (by decide) (by decide) (XS.iconst A408.here hx rfl (hb hby d30_78) (XS.goto A408.here hx rfl (pc0 := 79) (pc' := 83) rfl (hb hby d30_79) (by decide) (by decide) (XS.istoreN A408.here hx rfl (hb hby d30_83) rfl (l' := #[vA a1, vI 1, vI 0, vI c1]) rfl (XS.iinc A408.here hx rfl (hb hby d30_84) rfl (l' := #[vA a1, vI 1, vI 1, vI c1]) rfl (XS.goto A408.here hx rfl (pc0 := 87) (pc' := 15) rfl (hb hby d30_87) (by decide) (by decide) k)))))) ?_
          exact jn377 T408 h0 (A408.mono (by decide) (by decide)) (extR h0) ((Or.inr ((Or.inr (Or.inl ⟨c415, c416⟩)))))
    by_cases c417 : c1 < (65 : Int32)
    · refine Run.st (T406.setTop (mkF m 57 #[vA a1, vI 1, vI 0, vI c1] [])) (fun _ k => XS.icmpYes A406.here hx rfl (pc0 := 48) (pc' := 57) rfl (hb hby d30_48) rfl (tlt c417).1 (by decide) (by decide) k) ?_
      exact jn408 T406 (A406.mono (by decide) (by decide)) (fun k => k.1 c417)
    · refine Run.st (T406.setTop (mkF m 54 #[vA a1, vI 1, vI 0, vI c1] [.int 90, .int c1])) (fun _ k => XS.icmpNo A406.here hx rfl (hb hby d30_48) rfl (flt c417).1 (XS.iloadN A406.here hx rfl (hb hby d30_51) rfl (XS.bipush A406.here hx rfl (hb hby d30_52) k))) ?_
      by_cases c418 : (90 : Int32) < c1
      · refine Run.st (T406.setTop (mkF m 57 #[vA a1, vI 1, vI 0, vI c1] [])) (fun _ k => XS.icmpNo A406.here hx rfl (hb hby d30_54) rfl (tlt c418).2.2.2 k) ?_
        exact jn408 T406 (A406.mono (by decide) (by decide)) (fun k => k.2 c418)
      · refine Run.st (T406.setTop (mkF m 15 #[vA a1, vI 1, vI 1, vI c1] [])) (fun _ k => XS.icmpYes A406.here hx rfl (pc0 := 54) (pc' := 78) rfl (hb hby d30_54) rfl (flt c418).2.2.2 (by decide) (by decide) (XS.iconst A406.here hx rfl (hb hby d30_78) (XS.goto A406.here hx rfl (pc0 := 79) (pc' := 83) rfl (hb hby d30_79) (by decide) (by decide) (XS.istoreN A406.here hx rfl (hb hby d30_83) rfl (l' := #[vA a1, vI 1, vI 0, vI c1]) rfl (XS.iinc A406.here hx rfl (hb hby d30_84) rfl (l' := #[vA a1, vI 1, vI 1, vI c1]) rfl (XS.goto A406.here hx rfl (pc0 := 87) (pc' := 15) rfl (hb hby d30_87) (by decide) (by decide) k)))))) ?_
        exact jn377 T406 h0 (A406.mono (by decide) (by decide)) (extR h0) ((Or.inr (Or.inl ⟨c417, c418⟩)))
  by_cases c419 : c1 < (97 : Int32)
  · refine Run.st (T375.setTop (mkF m 45 #[vA a1, vI 1, vI 0, vI c1] [])) (fun _ k => XS.icmpYes A375.here hx rfl (pc0 := 36) (pc' := 45) rfl (hb hby d30_36) rfl (tlt c419).1 (by decide) (by decide) k) ?_
    exact jn406 T375 (A375.mono (by decide) (by decide)) (fun k => k.1 c419)
  · refine Run.st (T375.setTop (mkF m 42 #[vA a1, vI 1, vI 0, vI c1] [.int 122, .int c1])) (fun _ k => XS.icmpNo A375.here hx rfl (hb hby d30_36) rfl (flt c419).1 (XS.iloadN A375.here hx rfl (hb hby d30_39) rfl (XS.bipush A375.here hx rfl (hb hby d30_40) k))) ?_
    by_cases c420 : (122 : Int32) < c1
    · refine Run.st (T375.setTop (mkF m 45 #[vA a1, vI 1, vI 0, vI c1] [])) (fun _ k => XS.icmpNo A375.here hx rfl (hb hby d30_42) rfl (tlt c420).2.2.2 k) ?_
      exact jn406 T375 (A375.mono (by decide) (by decide)) (fun k => k.2 c420)
    · refine Run.st (T375.setTop (mkF m 15 #[vA a1, vI 1, vI 1, vI c1] [])) (fun _ k => XS.icmpYes A375.here hx rfl (pc0 := 42) (pc' := 78) rfl (hb hby d30_42) rfl (flt c420).2.2.2 (by decide) (by decide) (XS.iconst A375.here hx rfl (hb hby d30_78) (XS.goto A375.here hx rfl (pc0 := 79) (pc' := 83) rfl (hb hby d30_79) (by decide) (by decide) (XS.istoreN A375.here hx rfl (hb hby d30_83) rfl (l' := #[vA a1, vI 1, vI 0, vI c1]) rfl (XS.iinc A375.here hx rfl (hb hby d30_84) rfl (l' := #[vA a1, vI 1, vI 1, vI c1]) rfl (XS.goto A375.here hx rfl (pc0 := 87) (pc' := 15) rfl (hb hby d30_87) (by decide) (by decide) k)))))) ?_
      exact jn377 T375 h0 (A375.mono (by decide) (by decide)) (extR h0) (Or.inl ⟨c419, c420⟩)
theorem ef_tok3 (m : MethodId) (y0 : Addr) : entryFrame m #[(.ref y0)] 4 = mkF m 0 #[vA y0, .unset, .unset, .unset] [] := by first | (simp [entryFrame, mkF, argsToLocals, vI, vA, Value.category, maxLocals]; done) | rfl
def Q_tok3 (Z : State) (a1 : Addr) (c1 : Int32) (c2 : Int32) (c3 : Int32) (h0 : Heap) (v : Option Value) (h : Heap) : Prop := ∃ z, v = some (.int z) ∧ Ext h0 h ∧ (((∀ c ∈ ([c1, c2, c3] : List Int32), tokP c) ∧ ([c1, c2, c3] : List Int32) ≠ []) ∧ z = 1 ∨ ¬ ((∀ c ∈ ([c1, c2, c3] : List Int32), tokP c) ∧ ([c1, c2, c3] : List Int32) ≠ []) ∧ z = 0)
def rm_tok3 : Room := { frames := 5, cells := 6, slots := 192, locals := 66 }
set_option maxRecDepth 65536 in
set_option maxHeartbeats 40000000 in
theorem ct_tok3 {l : Launch} {Z : State} {a0 : Array Value} (H : Ev Z a0) (a1 : Addr) (c1 : Int32) (c2 : Int32) (c3 : Int32) {h0 : Heap} {n0 : Nat} (O0 : Old Z n0 h0) (S1 : StrU Z h0 a1 [c1, c2, c3]) (r1 : R16 c1) (r2 : R16 c2) (r3 : R16 c3) : CtrW l Z EL (⟨"com/example/gate_to_handlers/gatetohandlers/MediaType", "isToken", "(Ljava/lang/String;)Z"⟩ : MethodName) prog_69_method_11_code 4 (some .boolean) [] rm_tok3 #[(.ref a1)] h0 [] n0 (Q_tok3 Z a1 c1 c2 c3 h0) := by
  refine enterW (a0 := a0) (plainFor_of_name pn_5) (elA H) O0 all0 ?_
  intro p e s m below meth c T0 hx hby hml hrt hnm hlk hh0 A0
  replace A0 : Wk true Z a0 EL n0 h0 [] "com/example/gate_to_handlers/gatetohandlers/MediaType" p l e rm_tok3 s m #[(.ref a1)] below meth c [] T0 h0 0 0 := A0
  refine Run.st (T0.setTop (mkF m 0 #[vA a1, .unset, .unset, .unset] [])) (fun _ k => castTop (ef_tok3 m a1) k) ?_
  refine Run.st (T0.setTop (mkF m 1 #[vA a1, .unset, .unset, .unset] [(.ref a1)])) (fun _ k => XS.aloadN A0.here hx rfl (hb hby d30_0) rfl rfl k) ?_
  obtain ⟨v421, T421, h421, AA421, K421, ⟨L421, Q421⟩, st421⟩ := A0.callV hx (y := (⟨"java/lang/String", "isEmpty", "()Z"⟩ : MethodName)) (z := (⟨"java/lang/String", "isEmpty", "()Z"⟩ : MethodName)) (tw32 H.1) (tw33 H.1) (tw35 H.1) (tw34 H.1) (nfSel (tw35 H.1)) (by decide) S1.1 (g := (mkF m 1 #[vA a1, .unset, .unset, .unset] [(.ref a1)])) rfl (by rw [hml]; rfl) [] [] (lenOf pd_4 rfl) rfl (Wd := 0) (Nat.le_refl _) (hb hby d30_1) (by decide) (by decide) [] (fun _ _ _ q => q.2) all0 (fun vm0 hZ => payN (ct_isEmpty3 H a1 c1 c2 c3 A0.old S1) (tw36 H.1) (tw8 H.1) (by decide) (by decide) hZ)
  obtain ⟨Q421, N421, -⟩ := Q421
  obtain ⟨rfl, q421⟩ := Q421
  have q421 := q421.symm
  subst q421
  have A421 := AA421 [] all0
  refine Run.st (T421.setTop (mkF m 4 #[vA a1, .unset, .unset, .unset] [.int 0])) st421 ?_
  refine Run.st (T421.setTop (mkF m 20 #[vA a1, vI 1, vI 0, .unset] [.int 0])) (fun _ k => XS.ifNo A421.here hx rfl (hb hby d30_4) rfl (by decide) (XS.iconst A421.here hx rfl (hb hby d30_7) (XS.goto A421.here hx rfl (pc0 := 8) (pc' := 12) rfl (hb hby d30_8) (by decide) (by decide) (XS.istoreN A421.here hx rfl (hb hby d30_12) rfl (l' := #[vA a1, vI 1, .unset, .unset]) rfl (XS.iconst A421.here hx rfl (hb hby d30_13) (XS.istoreN A421.here hx rfl (hb hby d30_14) rfl (l' := #[vA a1, vI 1, vI 0, .unset]) rfl (XS.iloadN A421.here hx rfl (hb hby d30_15) rfl (XS.ifNo A421.here hx rfl (hb hby d30_16) rfl (by decide) (XS.iloadN A421.here hx rfl (hb hby d30_19) rfl k))))))))) ?_
  refine Run.st (T421.setTop (mkF m 21 #[vA a1, vI 1, vI 0, .unset] [(.ref a1), .int 0])) (fun _ k => XS.aloadN A421.here hx rfl (hb hby d30_20) rfl rfl k) ?_
  obtain ⟨v422, T422, h422, AA422, K422, ⟨L422, Q422⟩, st422⟩ := A421.callV hx (y := (⟨"java/lang/String", "length", "()I"⟩ : MethodName)) (z := (⟨"java/lang/String", "length", "()I"⟩ : MethodName)) (tw51 H.1) (tw52 H.1) (tw54 H.1) (tw53 H.1) (nfSel (tw54 H.1)) (by decide) S1.1 (g := (mkF m 21 #[vA a1, vI 1, vI 0, .unset] [(.ref a1), .int 0])) rfl (by rw [hml]; rfl) [] [(.int (0 : Int32))] (lenOf pd_5 rfl) rfl (Wd := 1) (Nat.le_refl _) (hb hby d30_21) (by decide) (by decide) [] (fun _ _ _ q => q.2) all0 (fun vm0 hZ => payN (ct_length3 H a1 c1 c2 c3 A421.old S1) (tw55 H.1) (tw8 H.1) (by decide) (by decide) hZ)
  obtain ⟨Q422, N422, -⟩ := Q422
  obtain ⟨rfl, q422⟩ := Q422
  have q422 := q422.symm
  subst q422
  have A422 := AA422 [] all0
  refine Run.st (T422.setTop (mkF m 24 #[vA a1, vI 1, vI 0, .unset] [.int 3, .int 0])) st422 ?_
  refine Run.st (T422.setTop (mkF m 29 #[vA a1, vI 1, vI 0, .unset] [.int 0, (.ref a1)])) (fun _ k => XS.icmpNo A422.here hx rfl (hb hby d30_24) rfl (by decide) (XS.aloadN A422.here hx rfl (hb hby d30_27) rfl rfl (XS.iloadN A422.here hx rfl (hb hby d30_28) rfl k))) ?_
  obtain ⟨v423, T423, h423, AA423, K423, ⟨L423, Q423⟩, st423⟩ := A422.callV hx (y := (⟨"java/lang/String", "charAt", "(I)C"⟩ : MethodName)) (z := (⟨"java/lang/String", "charAt", "(I)C"⟩ : MethodName)) (tw61 H.1) (tw62 H.1) (tw64 H.1) (tw63 H.1) (nfSel (tw64 H.1)) (by decide) S1.1 (g := (mkF m 29 #[vA a1, vI 1, vI 0, .unset] [.int 0, (.ref a1)])) rfl (by rw [hml]; rfl) [(.int (0 : Int32))] [] (lenOf pd_18 rfl) rfl (Wd := 0) (Nat.le_refl _) (hb hby d30_29) (by decide) (by decide) [] (fun _ _ _ q => q.2) all0 (fun vm0 hZ => payN (ct_charAt H a1 [c1, c2, c3] 0 A422.old S1 (Nat.le_of_ble_eq_true rfl) (Nat.le_of_ble_eq_true rfl) (chsS r1 (chsS r2 (chsS r3 chs0)))) (tw65 H.1) (tw8 H.1) (by decide) (by decide) hZ)
  obtain ⟨Q423, N423, -⟩ := Q423
  obtain ⟨e423, q423⟩ := Q423
  replace e423 : v423 = some (.int c1) := e423
  subst e423
  have q423 := q423.symm
  subst q423
  have A423 := AA423 [] all0
  refine Run.st (T423.setTop (mkF m 32 #[vA a1, vI 1, vI 0, .unset] [.int c1])) st423 ?_
  refine Run.st (T423.setTop (mkF m 33 #[vA a1, vI 1, vI 0, vI c1] [])) (fun _ k => XS.istoreN A423.here hx rfl (hb hby d30_32) rfl (l' := #[vA a1, vI 1, vI 0, vI c1]) rfl k) ?_
  have jn425 : ∀ (T425 : State) (h425 : Heap), Wk true Z a0 EL n0 h0 [] "com/example/gate_to_handlers/gatetohandlers/MediaType" p l e rm_tok3 s m #[(.ref a1)] below meth c [] T425 h425 2 64 → Ext h0 h425 → (tokP c1) → Run p.tables e below (EndW Z EL s h0 [] n0 rm_tok3 (Q_tok3 Z a1 c1 c2 c3 h0)) (T425.setTop (mkF m 15 #[vA a1, vI 1, vI 1, vI c1] [])) := by
    intro T425 h425 A425 X425 tk424
    refine Run.st (T425.setTop (mkF m 21 #[vA a1, vI 1, vI 1, vI c1] [(.ref a1), .int 1])) (fun _ k => XS.iloadN A425.here hx rfl (hb hby d30_15) rfl (XS.ifNo A425.here hx rfl (hb hby d30_16) rfl (by decide) (XS.iloadN A425.here hx rfl (hb hby d30_19) rfl (XS.aloadN A425.here hx rfl (hb hby d30_20) rfl rfl k)))) ?_
    have X427 : Ext h0 h425 := X425
    have f428 := S1.ext X427
    have f429 := S1.1.ext X427
    obtain ⟨v426, T426, h426, AA426, K426, ⟨L426, Q426⟩, st426⟩ := A425.callV hx (y := (⟨"java/lang/String", "length", "()I"⟩ : MethodName)) (z := (⟨"java/lang/String", "length", "()I"⟩ : MethodName)) (tw51 H.1) (tw52 H.1) (tw54 H.1) (tw53 H.1) (nfSel (tw54 H.1)) (by decide) f429 (g := (mkF m 21 #[vA a1, vI 1, vI 1, vI c1] [(.ref a1), .int 1])) rfl (by rw [hml]; rfl) [] [(.int (1 : Int32))] (lenOf pd_5 rfl) rfl (Wd := 1) (Nat.le_refl _) (hb hby d30_21) (by decide) (by decide) [] (fun _ _ _ q => q.2) all0 (fun vm0 hZ => payN (ct_length3 H a1 c1 c2 c3 A425.old f428) (tw55 H.1) (tw8 H.1) (by decide) (by decide) hZ)
    obtain ⟨Q426, N426, -⟩ := Q426
    obtain ⟨rfl, q426⟩ := Q426
    have q426 := q426.symm
    subst q426
    have A426 := AA426 [] all0
    refine Run.st (T426.setTop (mkF m 24 #[vA a1, vI 1, vI 1, vI c1] [.int 3, .int 1])) st426 ?_
    refine Run.st (T426.setTop (mkF m 29 #[vA a1, vI 1, vI 1, vI c1] [.int 1, (.ref a1)])) (fun _ k => XS.icmpNo A426.here hx rfl (hb hby d30_24) rfl (by decide) (XS.aloadN A426.here hx rfl (hb hby d30_27) rfl rfl (XS.iloadN A426.here hx rfl (hb hby d30_28) rfl k))) ?_
    obtain ⟨v430, T430, h430, AA430, K430, ⟨L430, Q430⟩, st430⟩ := A426.callV hx (y := (⟨"java/lang/String", "charAt", "(I)C"⟩ : MethodName)) (z := (⟨"java/lang/String", "charAt", "(I)C"⟩ : MethodName)) (tw61 H.1) (tw62 H.1) (tw64 H.1) (tw63 H.1) (nfSel (tw64 H.1)) (by decide) f429 (g := (mkF m 29 #[vA a1, vI 1, vI 1, vI c1] [.int 1, (.ref a1)])) rfl (by rw [hml]; rfl) [(.int (1 : Int32))] [] (lenOf pd_18 rfl) rfl (Wd := 0) (Nat.le_refl _) (hb hby d30_29) (by decide) (by decide) [] (fun _ _ _ q => q.2) all0 (fun vm0 hZ => payN (ct_charAt H a1 [c1, c2, c3] 1 A426.old f428 (Nat.le_of_ble_eq_true rfl) (Nat.le_of_ble_eq_true rfl) (chsS r1 (chsS r2 (chsS r3 chs0)))) (tw65 H.1) (tw8 H.1) (by decide) (by decide) hZ)
    obtain ⟨Q430, N430, -⟩ := Q430
    obtain ⟨e430, q430⟩ := Q430
    replace e430 : v430 = some (.int c2) := e430
    subst e430
    have q430 := q430.symm
    subst q430
    have A430 := AA430 [] all0
    refine Run.st (T430.setTop (mkF m 32 #[vA a1, vI 1, vI 1, vI c1] [.int c2])) st430 ?_
    refine Run.st (T430.setTop (mkF m 33 #[vA a1, vI 1, vI 1, vI c2] [])) (fun _ k => XS.istoreN A430.here hx rfl (hb hby d30_32) rfl (l' := #[vA a1, vI 1, vI 1, vI c2]) rfl k) ?_
    have jn432 : ∀ (T432 : State) (h432 : Heap), Wk true Z a0 EL n0 h0 [] "com/example/gate_to_handlers/gatetohandlers/MediaType" p l e rm_tok3 s m #[(.ref a1)] below meth c [] T432 h432 4 128 → Ext h425 h432 → (tokP c2) → Run p.tables e below (EndW Z EL s h0 [] n0 rm_tok3 (Q_tok3 Z a1 c1 c2 c3 h0)) (T432.setTop (mkF m 15 #[vA a1, vI 1, vI 2, vI c2] [])) := by
      intro T432 h432 A432 X432 tk431
      refine Run.st (T432.setTop (mkF m 21 #[vA a1, vI 1, vI 2, vI c2] [(.ref a1), .int 2])) (fun _ k => XS.iloadN A432.here hx rfl (hb hby d30_15) rfl (XS.ifNo A432.here hx rfl (hb hby d30_16) rfl (by decide) (XS.iloadN A432.here hx rfl (hb hby d30_19) rfl (XS.aloadN A432.here hx rfl (hb hby d30_20) rfl rfl k)))) ?_
      have X434 : Ext h0 h432 := (extT X427 X432)
      have f435 := S1.ext X434
      have f436 := S1.1.ext X434
      obtain ⟨v433, T433, h433, AA433, K433, ⟨L433, Q433⟩, st433⟩ := A432.callV hx (y := (⟨"java/lang/String", "length", "()I"⟩ : MethodName)) (z := (⟨"java/lang/String", "length", "()I"⟩ : MethodName)) (tw51 H.1) (tw52 H.1) (tw54 H.1) (tw53 H.1) (nfSel (tw54 H.1)) (by decide) f436 (g := (mkF m 21 #[vA a1, vI 1, vI 2, vI c2] [(.ref a1), .int 2])) rfl (by rw [hml]; rfl) [] [(.int (2 : Int32))] (lenOf pd_5 rfl) rfl (Wd := 1) (Nat.le_refl _) (hb hby d30_21) (by decide) (by decide) [] (fun _ _ _ q => q.2) all0 (fun vm0 hZ => payN (ct_length3 H a1 c1 c2 c3 A432.old f435) (tw55 H.1) (tw8 H.1) (by decide) (by decide) hZ)
      obtain ⟨Q433, N433, -⟩ := Q433
      obtain ⟨rfl, q433⟩ := Q433
      have q433 := q433.symm
      subst q433
      have A433 := AA433 [] all0
      refine Run.st (T433.setTop (mkF m 24 #[vA a1, vI 1, vI 2, vI c2] [.int 3, .int 2])) st433 ?_
      refine Run.st (T433.setTop (mkF m 29 #[vA a1, vI 1, vI 2, vI c2] [.int 2, (.ref a1)])) (fun _ k => XS.icmpNo A433.here hx rfl (hb hby d30_24) rfl (by decide) (XS.aloadN A433.here hx rfl (hb hby d30_27) rfl rfl (XS.iloadN A433.here hx rfl (hb hby d30_28) rfl k))) ?_
      obtain ⟨v437, T437, h437, AA437, K437, ⟨L437, Q437⟩, st437⟩ := A433.callV hx (y := (⟨"java/lang/String", "charAt", "(I)C"⟩ : MethodName)) (z := (⟨"java/lang/String", "charAt", "(I)C"⟩ : MethodName)) (tw61 H.1) (tw62 H.1) (tw64 H.1) (tw63 H.1) (nfSel (tw64 H.1)) (by decide) f436 (g := (mkF m 29 #[vA a1, vI 1, vI 2, vI c2] [.int 2, (.ref a1)])) rfl (by rw [hml]; rfl) [(.int (2 : Int32))] [] (lenOf pd_18 rfl) rfl (Wd := 0) (Nat.le_refl _) (hb hby d30_29) (by decide) (by decide) [] (fun _ _ _ q => q.2) all0 (fun vm0 hZ => payN (ct_charAt H a1 [c1, c2, c3] 2 A433.old f435 (Nat.le_of_ble_eq_true rfl) (Nat.le_of_ble_eq_true rfl) (chsS r1 (chsS r2 (chsS r3 chs0)))) (tw65 H.1) (tw8 H.1) (by decide) (by decide) hZ)
      obtain ⟨Q437, N437, -⟩ := Q437
      obtain ⟨e437, q437⟩ := Q437
      replace e437 : v437 = some (.int c3) := e437
      subst e437
      have q437 := q437.symm
      subst q437
      have A437 := AA437 [] all0
      refine Run.st (T437.setTop (mkF m 32 #[vA a1, vI 1, vI 2, vI c2] [.int c3])) st437 ?_
      refine Run.st (T437.setTop (mkF m 33 #[vA a1, vI 1, vI 2, vI c3] [])) (fun _ k => XS.istoreN A437.here hx rfl (hb hby d30_32) rfl (l' := #[vA a1, vI 1, vI 2, vI c3]) rfl k) ?_
      have jn439 : ∀ (T439 : State) (h439 : Heap), Wk true Z a0 EL n0 h0 [] "com/example/gate_to_handlers/gatetohandlers/MediaType" p l e rm_tok3 s m #[(.ref a1)] below meth c [] T439 h439 6 192 → Ext h432 h439 → (tokP c3) → Run p.tables e below (EndW Z EL s h0 [] n0 rm_tok3 (Q_tok3 Z a1 c1 c2 c3 h0)) (T439.setTop (mkF m 15 #[vA a1, vI 1, vI 3, vI c3] [])) := by
        intro T439 h439 A439 X439 tk438
        refine Run.st (T439.setTop (mkF m 21 #[vA a1, vI 1, vI 3, vI c3] [(.ref a1), .int 3])) (fun _ k => XS.iloadN A439.here hx rfl (hb hby d30_15) rfl (XS.ifNo A439.here hx rfl (hb hby d30_16) rfl (by decide) (XS.iloadN A439.here hx rfl (hb hby d30_19) rfl (XS.aloadN A439.here hx rfl (hb hby d30_20) rfl rfl k)))) ?_
        have X441 : Ext h0 h439 := (extT X434 X439)
        have f442 := S1.ext X441
        have f443 := S1.1.ext X441
        obtain ⟨v440, T440, h440, AA440, K440, ⟨L440, Q440⟩, st440⟩ := A439.callV hx (y := (⟨"java/lang/String", "length", "()I"⟩ : MethodName)) (z := (⟨"java/lang/String", "length", "()I"⟩ : MethodName)) (tw51 H.1) (tw52 H.1) (tw54 H.1) (tw53 H.1) (nfSel (tw54 H.1)) (by decide) f443 (g := (mkF m 21 #[vA a1, vI 1, vI 3, vI c3] [(.ref a1), .int 3])) rfl (by rw [hml]; rfl) [] [(.int (3 : Int32))] (lenOf pd_5 rfl) rfl (Wd := 1) (Nat.le_refl _) (hb hby d30_21) (by decide) (by decide) [] (fun _ _ _ q => q.2) all0 (fun vm0 hZ => payN (ct_length3 H a1 c1 c2 c3 A439.old f442) (tw55 H.1) (tw8 H.1) (by decide) (by decide) hZ)
        obtain ⟨Q440, N440, -⟩ := Q440
        obtain ⟨rfl, q440⟩ := Q440
        have q440 := q440.symm
        subst q440
        have A440 := AA440 [] all0
        refine Run.st (T440.setTop (mkF m 24 #[vA a1, vI 1, vI 3, vI c3] [.int 3, .int 3])) st440 ?_
        refine Run.st (T440.setTop (mkF m 91 #[vA a1, vI 1, vI 3, vI c3] [.int 1])) (fun _ k => XS.icmpYes A440.here hx rfl (pc0 := 24) (pc' := 90) rfl (hb hby d30_24) rfl (by decide) (by decide) (by decide) (XS.iloadN A440.here hx rfl (hb hby d30_90) rfl k)) ?_
        exact A440.leaveW hlk hh0 (some (.int (1 : Int32))) (fun q => by rw [hrt] at q; cases q) (by decide) (by decide) ⟨_, rfl, keepE A440.keep, Or.inl ⟨⟨(chsS tk424 (chsS tk431 (chsS tk438 chs0))), List.cons_ne_nil _ _⟩, rfl⟩⟩ (fun X hr => retN X hx (t := .boolean) hrt (by simp) (hb hby d30_91) hr)
      refine Run.st (T437.setTop (mkF m 36 #[vA a1, vI 1, vI 2, vI c3] [.int 97, .int c3])) (fun _ k => XS.iloadN A437.here hx rfl (hb hby d30_33) rfl (XS.bipush A437.here hx rfl (hb hby d30_34) k)) ?_
      have jn445 : ∀ (T445 : State), Wk true Z a0 EL n0 h0 [] "com/example/gate_to_handlers/gatetohandlers/MediaType" p l e rm_tok3 s m #[(.ref a1)] below meth c [] T445 h432 4 128 → (¬ (¬ c3 < (97 : Int32) ∧ ¬ (122 : Int32) < c3)) → Run p.tables e below (EndW Z EL s h0 [] n0 rm_tok3 (Q_tok3 Z a1 c1 c2 c3 h0)) (T445.setTop (mkF m 45 #[vA a1, vI 1, vI 2, vI c3] [])) := by
        intro T445 A445 nr444
        refine Run.st (T445.setTop (mkF m 48 #[vA a1, vI 1, vI 2, vI c3] [.int 65, .int c3])) (fun _ k => XS.iloadN A445.here hx rfl (hb hby d30_45) rfl (XS.bipush A445.here hx rfl (hb hby d30_46) k)) ?_
        have jn447 : ∀ (T447 : State), Wk true Z a0 EL n0 h0 [] "com/example/gate_to_handlers/gatetohandlers/MediaType" p l e rm_tok3 s m #[(.ref a1)] below meth c [] T447 h432 4 128 → (¬ (¬ c3 < (65 : Int32) ∧ ¬ (90 : Int32) < c3)) → Run p.tables e below (EndW Z EL s h0 [] n0 rm_tok3 (Q_tok3 Z a1 c1 c2 c3 h0)) (T447.setTop (mkF m 57 #[vA a1, vI 1, vI 2, vI c3] [])) := by
          intro T447 A447 nr446
          refine Run.st (T447.setTop (mkF m 60 #[vA a1, vI 1, vI 2, vI c3] [.int 48, .int c3])) (fun _ k => XS.iloadN A447.here hx rfl (hb hby d30_57) rfl (XS.bipush A447.here hx rfl (hb hby d30_58) k)) ?_
          have jn449 : ∀ (T449 : State), Wk true Z a0 EL n0 h0 [] "com/example/gate_to_handlers/gatetohandlers/MediaType" p l e rm_tok3 s m #[(.ref a1)] below meth c [] T449 h432 4 128 → (¬ (¬ c3 < (48 : Int32) ∧ ¬ (57 : Int32) < c3)) → Run p.tables e below (EndW Z EL s h0 [] n0 rm_tok3 (Q_tok3 Z a1 c1 c2 c3 h0)) (T449.setTop (mkF m 69 #[vA a1, vI 1, vI 2, vI c3] [])) := by
            intro T449 A449 nr448
            obtain ⟨a450, b450, kA450, T450, h450, A450, E450, Ex450, Fc450, Fv450, Va450, ne450, st450⟩ := A449.ldc hx (tw83 H.1) (strsA H) (List.mem_of_getElem? (i := 0) rfl) (vs := (([(33 : Int32), (35 : Int32), (36 : Int32), (37 : Int32), (38 : Int32), (39 : Int32), (42 : Int32), (43 : Int32), (45 : Int32), (46 : Int32), (94 : Int32), (95 : Int32), (96 : Int32), (124 : Int32), (126 : Int32)] : List Int32).map fun c => c.toInt8.toInt32).map Value.int) (z := (15 : Int32)) ⟨by decide, by decide +kernel⟩ (by decide) (by decide +kernel) (g := (mkF m 69 #[vA a1, vI 1, vI 2, vI c3] [])) rfl (hb hby d30_69) (q := 60) (by decide) (by decide) (by decide) (by decide)
            have S450 : StrA Z h450 a450 [(33 : Int32), (35 : Int32), (36 : Int32), (37 : Int32), (38 : Int32), (39 : Int32), (42 : Int32), (43 : Int32), (45 : Int32), (46 : Int32), (94 : Int32), (95 : Int32), (96 : Int32), (124 : Int32), (126 : Int32)] := ⟨Ex450, Fc450, ⟨b450, kA450, Fv450, Va450⟩, by decide, by decide⟩
            refine Run.st (T450.setTop (mkF m 71 #[vA a1, vI 1, vI 2, vI c3] [(.ref a450)])) st450 ?_
            refine Run.st (T450.setTop (mkF m 72 #[vA a1, vI 1, vI 2, vI c3] [.int c3, (.ref a450)])) (fun _ k => XS.iloadN A450.here hx rfl (hb hby d30_71) rfl k) ?_
            obtain ⟨v451, T451, h451, AA451, K451, ⟨L451, Q451⟩, st451⟩ := A450.callV hx (y := (⟨"java/lang/String", "indexOf", "(I)I"⟩ : MethodName)) (z := (⟨"java/lang/String", "indexOf", "(I)I"⟩ : MethodName)) (tw84 H.1) (tw85 H.1) (tw87 H.1) (tw86 H.1) (nfSel (tw87 H.1)) (by decide) Ex450 (g := (mkF m 72 #[vA a1, vI 1, vI 2, vI c3] [.int c3, (.ref a450)])) rfl (by rw [hml]; rfl) [(.int c3)] [] (lenOf pd_11 rfl) rfl (Wd := 0) (Nat.le_refl _) (hb hby d30_72) (by decide) (by decide) [] (fun _ _ _ q => q.2) all0 (fun vm0 hZ => payN (ct_ix1 H a450 b450 _ c3 A450.old Ex450 Fc450 Fv450 Va450 r3) (tw88 H.1) (tw8 H.1) (by decide) (by decide) hZ)
            obtain ⟨Q451, N451, -⟩ := Q451
            obtain ⟨z451, rfl, q451, D451⟩ := Q451
            have q451 := q451.symm
            subst q451
            have A451 := AA451 [] all0
            refine Run.st (T451.setTop (mkF m 75 #[vA a1, vI 1, vI 2, vI c3] [.int z451])) st451 ?_
            by_cases c452 : z451 < (0 : Int32)
            · refine Run.st (T451.setTop (mkF m 91 #[vA a1, vI 0, vI 3, vI c3] [.int 0])) (fun _ k => XS.ifYes A451.here hx rfl (pc0 := 75) (pc' := 82) rfl (hb hby d30_75) rfl (by rw [if0]; exact (tlt c452).1) (by decide) (by decide) (XS.iconst A451.here hx rfl (hb hby d30_82) (XS.istoreN A451.here hx rfl (hb hby d30_83) rfl (l' := #[vA a1, vI 0, vI 2, vI c3]) rfl (XS.iinc A451.here hx rfl (hb hby d30_84) rfl (l' := #[vA a1, vI 0, vI 3, vI c3]) rfl (XS.goto A451.here hx rfl (pc0 := 87) (pc' := 15) rfl (hb hby d30_87) (by decide) (by decide) (XS.iloadN A451.here hx rfl (hb hby d30_15) rfl (XS.ifYes A451.here hx rfl (pc0 := 16) (pc' := 90) rfl (hb hby d30_16) rfl (by decide) (by decide) (by decide) (XS.iloadN A451.here hx rfl (hb hby d30_90) rfl k)))))))) ?_
              exact A451.leaveW hlk hh0 (some (.int (0 : Int32))) (fun q => by rw [hrt] at q; cases q) (by decide) (by decide) ⟨_, rfl, keepE A451.keep, Or.inr ⟨fun q => (D451.elim (fun d => absurd c452 d.2) (fun d => d.1)) ((q.1 c3 (List.mem_of_getElem? (i := 2) rfl)).elim (fun k => absurd k nr444) fun k => k.elim (fun k => absurd k nr446) fun k => k.elim (fun k => absurd k nr448) id), rfl⟩⟩ (fun X hr => retN X hx (t := .boolean) hrt (by simp) (hb hby d30_91) hr)
            · refine Run.st (T451.setTop (mkF m 15 #[vA a1, vI 1, vI 3, vI c3] [])) (fun _ k => XS.ifNo A451.here hx rfl (hb hby d30_75) rfl (by rw [if0]; exact (flt c452).1) (XS.iconst A451.here hx rfl (hb hby d30_78) (XS.goto A451.here hx rfl (pc0 := 79) (pc' := 83) rfl (hb hby d30_79) (by decide) (by decide) (XS.istoreN A451.here hx rfl (hb hby d30_83) rfl (l' := #[vA a1, vI 1, vI 2, vI c3]) rfl (XS.iinc A451.here hx rfl (hb hby d30_84) rfl (l' := #[vA a1, vI 1, vI 3, vI c3]) rfl (XS.goto A451.here hx rfl (pc0 := 87) (pc' := 15) rfl (hb hby d30_87) (by decide) (by decide) k)))))) ?_
              have X453 : Ext h432 h450 := E450
              exact jn439 T451 h450 (A451.mono (by decide) (by decide)) X453 (Or.inr (Or.inr (Or.inr (D451.elim (fun d => d.1) (fun d => absurd d.2 c452)))))
          by_cases c454 : c3 < (48 : Int32)
          · refine Run.st (T447.setTop (mkF m 69 #[vA a1, vI 1, vI 2, vI c3] [])) (fun _ k => XS.icmpYes A447.here hx rfl (pc0 := 60) (pc' := 69) rfl (hb hby d30_60) rfl (tlt c454).1 (by decide) (by decide) k) ?_
            exact jn449 T447 (A447.mono (by decide) (by decide)) (fun k => k.1 c454)
          · refine Run.st (T447.setTop (mkF m 66 #[vA a1, vI 1, vI 2, vI c3] [.int 57, .int c3])) (fun _ k => XS.icmpNo A447.here hx rfl (hb hby d30_60) rfl (flt c454).1 (XS.iloadN A447.here hx rfl (hb hby d30_63) rfl (XS.bipush A447.here hx rfl (hb hby d30_64) k))) ?_
            by_cases c455 : (57 : Int32) < c3
            · refine Run.st (T447.setTop (mkF m 69 #[vA a1, vI 1, vI 2, vI c3] [])) (fun _ k => XS.icmpNo A447.here hx rfl (hb hby d30_66) rfl (tlt c455).2.2.2 k) ?_
              exact jn449 T447 (A447.mono (by decide) (by decide)) (fun k => k.2 c455)
            · refine Run.st (T447.setTop (mkF m 15 #[vA a1, vI 1, vI 3, vI c3] [])) (fun _ k => XS.icmpYes A447.here hx rfl (pc0 := 66) (pc' := 78) rfl (hb hby d30_66) rfl (flt c455).2.2.2 (by decide) (by decide) (XS.iconst A447.here hx rfl (hb hby d30_78) (XS.goto A447.here hx rfl (pc0 := 79) (pc' := 83) rfl (hb hby d30_79) (by decide) (by decide) (XS.istoreN A447.here hx rfl (hb hby d30_83) rfl (l' := #[vA a1, vI 1, vI 2, vI c3]) rfl (XS.iinc A447.here hx rfl (hb hby d30_84) rfl (l' := #[vA a1, vI 1, vI 3, vI c3]) rfl (XS.goto A447.here hx rfl (pc0 := 87) (pc' := 15) rfl (hb hby d30_87) (by decide) (by decide) k)))))) ?_
              exact jn439 T447 h432 (A447.mono (by decide) (by decide)) (extR h432) ((Or.inr ((Or.inr (Or.inl ⟨c454, c455⟩)))))
        by_cases c456 : c3 < (65 : Int32)
        · refine Run.st (T445.setTop (mkF m 57 #[vA a1, vI 1, vI 2, vI c3] [])) (fun _ k => XS.icmpYes A445.here hx rfl (pc0 := 48) (pc' := 57) rfl (hb hby d30_48) rfl (tlt c456).1 (by decide) (by decide) k) ?_
          exact jn447 T445 (A445.mono (by decide) (by decide)) (fun k => k.1 c456)
        · refine Run.st (T445.setTop (mkF m 54 #[vA a1, vI 1, vI 2, vI c3] [.int 90, .int c3])) (fun _ k => XS.icmpNo A445.here hx rfl (hb hby d30_48) rfl (flt c456).1 (XS.iloadN A445.here hx rfl (hb hby d30_51) rfl (XS.bipush A445.here hx rfl (hb hby d30_52) k))) ?_
          by_cases c457 : (90 : Int32) < c3
          · refine Run.st (T445.setTop (mkF m 57 #[vA a1, vI 1, vI 2, vI c3] [])) (fun _ k => XS.icmpNo A445.here hx rfl (hb hby d30_54) rfl (tlt c457).2.2.2 k) ?_
            exact jn447 T445 (A445.mono (by decide) (by decide)) (fun k => k.2 c457)
          · refine Run.st (T445.setTop (mkF m 15 #[vA a1, vI 1, vI 3, vI c3] [])) (fun _ k => XS.icmpYes A445.here hx rfl (pc0 := 54) (pc' := 78) rfl (hb hby d30_54) rfl (flt c457).2.2.2 (by decide) (by decide) (XS.iconst A445.here hx rfl (hb hby d30_78) (XS.goto A445.here hx rfl (pc0 := 79) (pc' := 83) rfl (hb hby d30_79) (by decide) (by decide) (XS.istoreN A445.here hx rfl (hb hby d30_83) rfl (l' := #[vA a1, vI 1, vI 2, vI c3]) rfl (XS.iinc A445.here hx rfl (hb hby d30_84) rfl (l' := #[vA a1, vI 1, vI 3, vI c3]) rfl (XS.goto A445.here hx rfl (pc0 := 87) (pc' := 15) rfl (hb hby d30_87) (by decide) (by decide) k)))))) ?_
            exact jn439 T445 h432 (A445.mono (by decide) (by decide)) (extR h432) ((Or.inr (Or.inl ⟨c456, c457⟩)))
      by_cases c458 : c3 < (97 : Int32)
      · refine Run.st (T437.setTop (mkF m 45 #[vA a1, vI 1, vI 2, vI c3] [])) (fun _ k => XS.icmpYes A437.here hx rfl (pc0 := 36) (pc' := 45) rfl (hb hby d30_36) rfl (tlt c458).1 (by decide) (by decide) k) ?_
        exact jn445 T437 (A437.mono (by decide) (by decide)) (fun k => k.1 c458)
      · refine Run.st (T437.setTop (mkF m 42 #[vA a1, vI 1, vI 2, vI c3] [.int 122, .int c3])) (fun _ k => XS.icmpNo A437.here hx rfl (hb hby d30_36) rfl (flt c458).1 (XS.iloadN A437.here hx rfl (hb hby d30_39) rfl (XS.bipush A437.here hx rfl (hb hby d30_40) k))) ?_
        by_cases c459 : (122 : Int32) < c3
        · refine Run.st (T437.setTop (mkF m 45 #[vA a1, vI 1, vI 2, vI c3] [])) (fun _ k => XS.icmpNo A437.here hx rfl (hb hby d30_42) rfl (tlt c459).2.2.2 k) ?_
          exact jn445 T437 (A437.mono (by decide) (by decide)) (fun k => k.2 c459)
        · refine Run.st (T437.setTop (mkF m 15 #[vA a1, vI 1, vI 3, vI c3] [])) (fun _ k => XS.icmpYes A437.here hx rfl (pc0 := 42) (pc' := 78) rfl (hb hby d30_42) rfl (flt c459).2.2.2 (by decide) (by decide) (XS.iconst A437.here hx rfl (hb hby d30_78) (XS.goto A437.here hx rfl (pc0 := 79) (pc' := 83) rfl (hb hby d30_79) (by decide) (by decide) (XS.istoreN A437.here hx rfl (hb hby d30_83) rfl (l' := #[vA a1, vI 1, vI 2, vI c3]) rfl (XS.iinc A437.here hx rfl (hb hby d30_84) rfl (l' := #[vA a1, vI 1, vI 3, vI c3]) rfl (XS.goto A437.here hx rfl (pc0 := 87) (pc' := 15) rfl (hb hby d30_87) (by decide) (by decide) k)))))) ?_
          exact jn439 T437 h432 (A437.mono (by decide) (by decide)) (extR h432) (Or.inl ⟨c458, c459⟩)
    refine Run.st (T430.setTop (mkF m 36 #[vA a1, vI 1, vI 1, vI c2] [.int 97, .int c2])) (fun _ k => XS.iloadN A430.here hx rfl (hb hby d30_33) rfl (XS.bipush A430.here hx rfl (hb hby d30_34) k)) ?_
    have jn461 : ∀ (T461 : State), Wk true Z a0 EL n0 h0 [] "com/example/gate_to_handlers/gatetohandlers/MediaType" p l e rm_tok3 s m #[(.ref a1)] below meth c [] T461 h425 2 64 → (¬ (¬ c2 < (97 : Int32) ∧ ¬ (122 : Int32) < c2)) → Run p.tables e below (EndW Z EL s h0 [] n0 rm_tok3 (Q_tok3 Z a1 c1 c2 c3 h0)) (T461.setTop (mkF m 45 #[vA a1, vI 1, vI 1, vI c2] [])) := by
      intro T461 A461 nr460
      refine Run.st (T461.setTop (mkF m 48 #[vA a1, vI 1, vI 1, vI c2] [.int 65, .int c2])) (fun _ k => XS.iloadN A461.here hx rfl (hb hby d30_45) rfl (XS.bipush A461.here hx rfl (hb hby d30_46) k)) ?_
      have jn463 : ∀ (T463 : State), Wk true Z a0 EL n0 h0 [] "com/example/gate_to_handlers/gatetohandlers/MediaType" p l e rm_tok3 s m #[(.ref a1)] below meth c [] T463 h425 2 64 → (¬ (¬ c2 < (65 : Int32) ∧ ¬ (90 : Int32) < c2)) → Run p.tables e below (EndW Z EL s h0 [] n0 rm_tok3 (Q_tok3 Z a1 c1 c2 c3 h0)) (T463.setTop (mkF m 57 #[vA a1, vI 1, vI 1, vI c2] [])) := by
        intro T463 A463 nr462
        refine Run.st (T463.setTop (mkF m 60 #[vA a1, vI 1, vI 1, vI c2] [.int 48, .int c2])) (fun _ k => XS.iloadN A463.here hx rfl (hb hby d30_57) rfl (XS.bipush A463.here hx rfl (hb hby d30_58) k)) ?_
        have jn465 : ∀ (T465 : State), Wk true Z a0 EL n0 h0 [] "com/example/gate_to_handlers/gatetohandlers/MediaType" p l e rm_tok3 s m #[(.ref a1)] below meth c [] T465 h425 2 64 → (¬ (¬ c2 < (48 : Int32) ∧ ¬ (57 : Int32) < c2)) → Run p.tables e below (EndW Z EL s h0 [] n0 rm_tok3 (Q_tok3 Z a1 c1 c2 c3 h0)) (T465.setTop (mkF m 69 #[vA a1, vI 1, vI 1, vI c2] [])) := by
          intro T465 A465 nr464
          obtain ⟨a466, b466, kA466, T466, h466, A466, E466, Ex466, Fc466, Fv466, Va466, ne466, st466⟩ := A465.ldc hx (tw83 H.1) (strsA H) (List.mem_of_getElem? (i := 0) rfl) (vs := (([(33 : Int32), (35 : Int32), (36 : Int32), (37 : Int32), (38 : Int32), (39 : Int32), (42 : Int32), (43 : Int32), (45 : Int32), (46 : Int32), (94 : Int32), (95 : Int32), (96 : Int32), (124 : Int32), (126 : Int32)] : List Int32).map fun c => c.toInt8.toInt32).map Value.int) (z := (15 : Int32)) ⟨by decide, by decide +kernel⟩ (by decide) (by decide +kernel) (g := (mkF m 69 #[vA a1, vI 1, vI 1, vI c2] [])) rfl (hb hby d30_69) (q := 60) (by decide) (by decide) (by decide) (by decide)
          have S466 : StrA Z h466 a466 [(33 : Int32), (35 : Int32), (36 : Int32), (37 : Int32), (38 : Int32), (39 : Int32), (42 : Int32), (43 : Int32), (45 : Int32), (46 : Int32), (94 : Int32), (95 : Int32), (96 : Int32), (124 : Int32), (126 : Int32)] := ⟨Ex466, Fc466, ⟨b466, kA466, Fv466, Va466⟩, by decide, by decide⟩
          refine Run.st (T466.setTop (mkF m 71 #[vA a1, vI 1, vI 1, vI c2] [(.ref a466)])) st466 ?_
          refine Run.st (T466.setTop (mkF m 72 #[vA a1, vI 1, vI 1, vI c2] [.int c2, (.ref a466)])) (fun _ k => XS.iloadN A466.here hx rfl (hb hby d30_71) rfl k) ?_
          obtain ⟨v467, T467, h467, AA467, K467, ⟨L467, Q467⟩, st467⟩ := A466.callV hx (y := (⟨"java/lang/String", "indexOf", "(I)I"⟩ : MethodName)) (z := (⟨"java/lang/String", "indexOf", "(I)I"⟩ : MethodName)) (tw84 H.1) (tw85 H.1) (tw87 H.1) (tw86 H.1) (nfSel (tw87 H.1)) (by decide) Ex466 (g := (mkF m 72 #[vA a1, vI 1, vI 1, vI c2] [.int c2, (.ref a466)])) rfl (by rw [hml]; rfl) [(.int c2)] [] (lenOf pd_11 rfl) rfl (Wd := 0) (Nat.le_refl _) (hb hby d30_72) (by decide) (by decide) [] (fun _ _ _ q => q.2) all0 (fun vm0 hZ => payN (ct_ix1 H a466 b466 _ c2 A466.old Ex466 Fc466 Fv466 Va466 r2) (tw88 H.1) (tw8 H.1) (by decide) (by decide) hZ)
          obtain ⟨Q467, N467, -⟩ := Q467
          obtain ⟨z467, rfl, q467, D467⟩ := Q467
          have q467 := q467.symm
          subst q467
          have A467 := AA467 [] all0
          refine Run.st (T467.setTop (mkF m 75 #[vA a1, vI 1, vI 1, vI c2] [.int z467])) st467 ?_
          by_cases c468 : z467 < (0 : Int32)
          · refine Run.st (T467.setTop (mkF m 91 #[vA a1, vI 0, vI 2, vI c2] [.int 0])) (fun _ k => XS.ifYes A467.here hx rfl (pc0 := 75) (pc' := 82) rfl (hb hby d30_75) rfl (by rw [if0]; exact (tlt c468).1) (by decide) (by decide) (XS.iconst A467.here hx rfl (hb hby d30_82) (XS.istoreN A467.here hx rfl (hb hby d30_83) rfl (l' := #[vA a1, vI 0, vI 1, vI c2]) rfl (XS.iinc A467.here hx rfl (hb hby d30_84) rfl (l' := #[vA a1, vI 0, vI 2, vI c2]) rfl (XS.goto A467.here hx rfl (pc0 := 87) (pc' := 15) rfl (hb hby d30_87) (by decide) (by decide) (XS.iloadN A467.here hx rfl (hb hby d30_15) rfl (XS.ifYes A467.here hx rfl (pc0 := 16) (pc' := 90) rfl (hb hby d30_16) rfl (by decide) (by decide) (by decide) (XS.iloadN A467.here hx rfl (hb hby d30_90) rfl k)))))))) ?_
            exact A467.leaveW hlk hh0 (some (.int (0 : Int32))) (fun q => by rw [hrt] at q; cases q) (by decide) (by decide) ⟨_, rfl, keepE A467.keep, Or.inr ⟨fun q => (D467.elim (fun d => absurd c468 d.2) (fun d => d.1)) ((q.1 c2 (List.mem_of_getElem? (i := 1) rfl)).elim (fun k => absurd k nr460) fun k => k.elim (fun k => absurd k nr462) fun k => k.elim (fun k => absurd k nr464) id), rfl⟩⟩ (fun X hr => retN X hx (t := .boolean) hrt (by simp) (hb hby d30_91) hr)
          · refine Run.st (T467.setTop (mkF m 15 #[vA a1, vI 1, vI 2, vI c2] [])) (fun _ k => XS.ifNo A467.here hx rfl (hb hby d30_75) rfl (by rw [if0]; exact (flt c468).1) (XS.iconst A467.here hx rfl (hb hby d30_78) (XS.goto A467.here hx rfl (pc0 := 79) (pc' := 83) rfl (hb hby d30_79) (by decide) (by decide) (XS.istoreN A467.here hx rfl (hb hby d30_83) rfl (l' := #[vA a1, vI 1, vI 1, vI c2]) rfl (XS.iinc A467.here hx rfl (hb hby d30_84) rfl (l' := #[vA a1, vI 1, vI 2, vI c2]) rfl (XS.goto A467.here hx rfl (pc0 := 87) (pc' := 15) rfl (hb hby d30_87) (by decide) (by decide) k)))))) ?_
            have X469 : Ext h425 h466 := E466
            exact jn432 T467 h466 (A467.mono (by decide) (by decide)) X469 (Or.inr (Or.inr (Or.inr (D467.elim (fun d => d.1) (fun d => absurd d.2 c468)))))
        by_cases c470 : c2 < (48 : Int32)
        · refine Run.st (T463.setTop (mkF m 69 #[vA a1, vI 1, vI 1, vI c2] [])) (fun _ k => XS.icmpYes A463.here hx rfl (pc0 := 60) (pc' := 69) rfl (hb hby d30_60) rfl (tlt c470).1 (by decide) (by decide) k) ?_
          exact jn465 T463 (A463.mono (by decide) (by decide)) (fun k => k.1 c470)
        · refine Run.st (T463.setTop (mkF m 66 #[vA a1, vI 1, vI 1, vI c2] [.int 57, .int c2])) (fun _ k => XS.icmpNo A463.here hx rfl (hb hby d30_60) rfl (flt c470).1 (XS.iloadN A463.here hx rfl (hb hby d30_63) rfl (XS.bipush A463.here hx rfl (hb hby d30_64) k))) ?_
          by_cases c471 : (57 : Int32) < c2
          · refine Run.st (T463.setTop (mkF m 69 #[vA a1, vI 1, vI 1, vI c2] [])) (fun _ k => XS.icmpNo A463.here hx rfl (hb hby d30_66) rfl (tlt c471).2.2.2 k) ?_
            exact jn465 T463 (A463.mono (by decide) (by decide)) (fun k => k.2 c471)
          · refine Run.st (T463.setTop (mkF m 15 #[vA a1, vI 1, vI 2, vI c2] [])) (fun _ k => XS.icmpYes A463.here hx rfl (pc0 := 66) (pc' := 78) rfl (hb hby d30_66) rfl (flt c471).2.2.2 (by decide) (by decide) (XS.iconst A463.here hx rfl (hb hby d30_78) (XS.goto A463.here hx rfl (pc0 := 79) (pc' := 83) rfl (hb hby d30_79) (by decide) (by decide) (XS.istoreN A463.here hx rfl (hb hby d30_83) rfl (l' := #[vA a1, vI 1, vI 1, vI c2]) rfl (XS.iinc A463.here hx rfl (hb hby d30_84) rfl (l' := #[vA a1, vI 1, vI 2, vI c2]) rfl (XS.goto A463.here hx rfl (pc0 := 87) (pc' := 15) rfl (hb hby d30_87) (by decide) (by decide) k)))))) ?_
            exact jn432 T463 h425 (A463.mono (by decide) (by decide)) (extR h425) ((Or.inr ((Or.inr (Or.inl ⟨c470, c471⟩)))))
      by_cases c472 : c2 < (65 : Int32)
      · refine Run.st (T461.setTop (mkF m 57 #[vA a1, vI 1, vI 1, vI c2] [])) (fun _ k => XS.icmpYes A461.here hx rfl (pc0 := 48) (pc' := 57) rfl (hb hby d30_48) rfl (tlt c472).1 (by decide) (by decide) k) ?_
        exact jn463 T461 (A461.mono (by decide) (by decide)) (fun k => k.1 c472)
      · refine Run.st (T461.setTop (mkF m 54 #[vA a1, vI 1, vI 1, vI c2] [.int 90, .int c2])) (fun _ k => XS.icmpNo A461.here hx rfl (hb hby d30_48) rfl (flt c472).1 (XS.iloadN A461.here hx rfl (hb hby d30_51) rfl (XS.bipush A461.here hx rfl (hb hby d30_52) k))) ?_
        by_cases c473 : (90 : Int32) < c2
        · refine Run.st (T461.setTop (mkF m 57 #[vA a1, vI 1, vI 1, vI c2] [])) (fun _ k => XS.icmpNo A461.here hx rfl (hb hby d30_54) rfl (tlt c473).2.2.2 k) ?_
          exact jn463 T461 (A461.mono (by decide) (by decide)) (fun k => k.2 c473)
        · refine Run.st (T461.setTop (mkF m 15 #[vA a1, vI 1, vI 2, vI c2] [])) (fun _ k => XS.icmpYes A461.here hx rfl (pc0 := 54) (pc' := 78) rfl (hb hby d30_54) rfl (flt c473).2.2.2 (by decide) (by decide) (XS.iconst A461.here hx rfl (hb hby d30_78) (XS.goto A461.here hx rfl (pc0 := 79) (pc' := 83) rfl (hb hby d30_79) (by decide) (by decide) (XS.istoreN A461.here hx rfl (hb hby d30_83) rfl (l' := #[vA a1, vI 1, vI 1, vI c2]) rfl (XS.iinc A461.here hx rfl (hb hby d30_84) rfl (l' := #[vA a1, vI 1, vI 2, vI c2]) rfl (XS.goto A461.here hx rfl (pc0 := 87) (pc' := 15) rfl (hb hby d30_87) (by decide) (by decide) k)))))) ?_
          exact jn432 T461 h425 (A461.mono (by decide) (by decide)) (extR h425) ((Or.inr (Or.inl ⟨c472, c473⟩)))
    by_cases c474 : c2 < (97 : Int32)
    · refine Run.st (T430.setTop (mkF m 45 #[vA a1, vI 1, vI 1, vI c2] [])) (fun _ k => XS.icmpYes A430.here hx rfl (pc0 := 36) (pc' := 45) rfl (hb hby d30_36) rfl (tlt c474).1 (by decide) (by decide) k) ?_
      exact jn461 T430 (A430.mono (by decide) (by decide)) (fun k => k.1 c474)
    · refine Run.st (T430.setTop (mkF m 42 #[vA a1, vI 1, vI 1, vI c2] [.int 122, .int c2])) (fun _ k => XS.icmpNo A430.here hx rfl (hb hby d30_36) rfl (flt c474).1 (XS.iloadN A430.here hx rfl (hb hby d30_39) rfl (XS.bipush A430.here hx rfl (hb hby d30_40) k))) ?_
      by_cases c475 : (122 : Int32) < c2
      · refine Run.st (T430.setTop (mkF m 45 #[vA a1, vI 1, vI 1, vI c2] [])) (fun _ k => XS.icmpNo A430.here hx rfl (hb hby d30_42) rfl (tlt c475).2.2.2 k) ?_
        exact jn461 T430 (A430.mono (by decide) (by decide)) (fun k => k.2 c475)
      · refine Run.st (T430.setTop (mkF m 15 #[vA a1, vI 1, vI 2, vI c2] [])) (fun _ k => XS.icmpYes A430.here hx rfl (pc0 := 42) (pc' := 78) rfl (hb hby d30_42) rfl (flt c475).2.2.2 (by decide) (by decide) (XS.iconst A430.here hx rfl (hb hby d30_78) (XS.goto A430.here hx rfl (pc0 := 79) (pc' := 83) rfl (hb hby d30_79) (by decide) (by decide) (XS.istoreN A430.here hx rfl (hb hby d30_83) rfl (l' := #[vA a1, vI 1, vI 1, vI c2]) rfl (XS.iinc A430.here hx rfl (hb hby d30_84) rfl (l' := #[vA a1, vI 1, vI 2, vI c2]) rfl (XS.goto A430.here hx rfl (pc0 := 87) (pc' := 15) rfl (hb hby d30_87) (by decide) (by decide) k)))))) ?_
        exact jn432 T430 h425 (A430.mono (by decide) (by decide)) (extR h425) (Or.inl ⟨c474, c475⟩)
  refine Run.st (T423.setTop (mkF m 36 #[vA a1, vI 1, vI 0, vI c1] [.int 97, .int c1])) (fun _ k => XS.iloadN A423.here hx rfl (hb hby d30_33) rfl (XS.bipush A423.here hx rfl (hb hby d30_34) k)) ?_
  have jn477 : ∀ (T477 : State), Wk true Z a0 EL n0 h0 [] "com/example/gate_to_handlers/gatetohandlers/MediaType" p l e rm_tok3 s m #[(.ref a1)] below meth c [] T477 h0 0 0 → (¬ (¬ c1 < (97 : Int32) ∧ ¬ (122 : Int32) < c1)) → Run p.tables e below (EndW Z EL s h0 [] n0 rm_tok3 (Q_tok3 Z a1 c1 c2 c3 h0)) (T477.setTop (mkF m 45 #[vA a1, vI 1, vI 0, vI c1] [])) := by
    intro T477 A477 nr476
    refine Run.st (T477.setTop (mkF m 48 #[vA a1, vI 1, vI 0, vI c1] [.int 65, .int c1])) (fun _ k => XS.iloadN A477.here hx rfl (hb hby d30_45) rfl (XS.bipush A477.here hx rfl (hb hby d30_46) k)) ?_
    have jn479 : ∀ (T479 : State), Wk true Z a0 EL n0 h0 [] "com/example/gate_to_handlers/gatetohandlers/MediaType" p l e rm_tok3 s m #[(.ref a1)] below meth c [] T479 h0 0 0 → (¬ (¬ c1 < (65 : Int32) ∧ ¬ (90 : Int32) < c1)) → Run p.tables e below (EndW Z EL s h0 [] n0 rm_tok3 (Q_tok3 Z a1 c1 c2 c3 h0)) (T479.setTop (mkF m 57 #[vA a1, vI 1, vI 0, vI c1] [])) := by
      intro T479 A479 nr478
      refine Run.st (T479.setTop (mkF m 60 #[vA a1, vI 1, vI 0, vI c1] [.int 48, .int c1])) (fun _ k => XS.iloadN A479.here hx rfl (hb hby d30_57) rfl (XS.bipush A479.here hx rfl (hb hby d30_58) k)) ?_
      have jn481 : ∀ (T481 : State), Wk true Z a0 EL n0 h0 [] "com/example/gate_to_handlers/gatetohandlers/MediaType" p l e rm_tok3 s m #[(.ref a1)] below meth c [] T481 h0 0 0 → (¬ (¬ c1 < (48 : Int32) ∧ ¬ (57 : Int32) < c1)) → Run p.tables e below (EndW Z EL s h0 [] n0 rm_tok3 (Q_tok3 Z a1 c1 c2 c3 h0)) (T481.setTop (mkF m 69 #[vA a1, vI 1, vI 0, vI c1] [])) := by
        intro T481 A481 nr480
        obtain ⟨a482, b482, kA482, T482, h482, A482, E482, Ex482, Fc482, Fv482, Va482, ne482, st482⟩ := A481.ldc hx (tw83 H.1) (strsA H) (List.mem_of_getElem? (i := 0) rfl) (vs := (([(33 : Int32), (35 : Int32), (36 : Int32), (37 : Int32), (38 : Int32), (39 : Int32), (42 : Int32), (43 : Int32), (45 : Int32), (46 : Int32), (94 : Int32), (95 : Int32), (96 : Int32), (124 : Int32), (126 : Int32)] : List Int32).map fun c => c.toInt8.toInt32).map Value.int) (z := (15 : Int32)) ⟨by decide, by decide +kernel⟩ (by decide) (by decide +kernel) (g := (mkF m 69 #[vA a1, vI 1, vI 0, vI c1] [])) rfl (hb hby d30_69) (q := 60) (by decide) (by decide) (by decide) (by decide)
        have S482 : StrA Z h482 a482 [(33 : Int32), (35 : Int32), (36 : Int32), (37 : Int32), (38 : Int32), (39 : Int32), (42 : Int32), (43 : Int32), (45 : Int32), (46 : Int32), (94 : Int32), (95 : Int32), (96 : Int32), (124 : Int32), (126 : Int32)] := ⟨Ex482, Fc482, ⟨b482, kA482, Fv482, Va482⟩, by decide, by decide⟩
        refine Run.st (T482.setTop (mkF m 71 #[vA a1, vI 1, vI 0, vI c1] [(.ref a482)])) st482 ?_
        refine Run.st (T482.setTop (mkF m 72 #[vA a1, vI 1, vI 0, vI c1] [.int c1, (.ref a482)])) (fun _ k => XS.iloadN A482.here hx rfl (hb hby d30_71) rfl k) ?_
        obtain ⟨v483, T483, h483, AA483, K483, ⟨L483, Q483⟩, st483⟩ := A482.callV hx (y := (⟨"java/lang/String", "indexOf", "(I)I"⟩ : MethodName)) (z := (⟨"java/lang/String", "indexOf", "(I)I"⟩ : MethodName)) (tw84 H.1) (tw85 H.1) (tw87 H.1) (tw86 H.1) (nfSel (tw87 H.1)) (by decide) Ex482 (g := (mkF m 72 #[vA a1, vI 1, vI 0, vI c1] [.int c1, (.ref a482)])) rfl (by rw [hml]; rfl) [(.int c1)] [] (lenOf pd_11 rfl) rfl (Wd := 0) (Nat.le_refl _) (hb hby d30_72) (by decide) (by decide) [] (fun _ _ _ q => q.2) all0 (fun vm0 hZ => payN (ct_ix1 H a482 b482 _ c1 A482.old Ex482 Fc482 Fv482 Va482 r1) (tw88 H.1) (tw8 H.1) (by decide) (by decide) hZ)
        obtain ⟨Q483, N483, -⟩ := Q483
        obtain ⟨z483, rfl, q483, D483⟩ := Q483
        have q483 := q483.symm
        subst q483
        have A483 := AA483 [] all0
        refine Run.st (T483.setTop (mkF m 75 #[vA a1, vI 1, vI 0, vI c1] [.int z483])) st483 ?_
        by_cases c484 : z483 < (0 : Int32)
        · refine Run.st (T483.setTop (mkF m 91 #[vA a1, vI 0, vI 1, vI c1] [.int 0])) (fun _ k => XS.ifYes A483.here hx rfl (pc0 := 75) (pc' := 82) rfl (hb hby d30_75) rfl (by rw [if0]; exact (tlt c484).1) (by decide) (by decide) (XS.iconst A483.here hx rfl (hb hby d30_82) (XS.istoreN A483.here hx rfl (hb hby d30_83) rfl (l' := #[vA a1, vI 0, vI 0, vI c1]) rfl (XS.iinc A483.here hx rfl (hb hby d30_84) rfl (l' := #[vA a1, vI 0, vI 1, vI c1]) rfl (XS.goto A483.here hx rfl (pc0 := 87) (pc' := 15) rfl (hb hby d30_87) (by decide) (by decide) (XS.iloadN A483.here hx rfl (hb hby d30_15) rfl (XS.ifYes A483.here hx rfl (pc0 := 16) (pc' := 90) rfl (hb hby d30_16) rfl (by decide) (by decide) (by decide) (XS.iloadN A483.here hx rfl (hb hby d30_90) rfl k)))))))) ?_
          exact A483.leaveW hlk hh0 (some (.int (0 : Int32))) (fun q => by rw [hrt] at q; cases q) (by decide) (by decide) ⟨_, rfl, keepE A483.keep, Or.inr ⟨fun q => (D483.elim (fun d => absurd c484 d.2) (fun d => d.1)) ((q.1 c1 (List.mem_of_getElem? (i := 0) rfl)).elim (fun k => absurd k nr476) fun k => k.elim (fun k => absurd k nr478) fun k => k.elim (fun k => absurd k nr480) id), rfl⟩⟩ (fun X hr => retN X hx (t := .boolean) hrt (by simp) (hb hby d30_91) hr)
        · refine Run.st (T483.setTop (mkF m 15 #[vA a1, vI 1, vI 1, vI c1] [])) (fun _ k => XS.ifNo A483.here hx rfl (hb hby d30_75) rfl (by rw [if0]; exact (flt c484).1) (XS.iconst A483.here hx rfl (hb hby d30_78) (XS.goto A483.here hx rfl (pc0 := 79) (pc' := 83) rfl (hb hby d30_79) (by decide) (by decide) (XS.istoreN A483.here hx rfl (hb hby d30_83) rfl (l' := #[vA a1, vI 1, vI 0, vI c1]) rfl (XS.iinc A483.here hx rfl (hb hby d30_84) rfl (l' := #[vA a1, vI 1, vI 1, vI c1]) rfl (XS.goto A483.here hx rfl (pc0 := 87) (pc' := 15) rfl (hb hby d30_87) (by decide) (by decide) k)))))) ?_
          have X485 : Ext h0 h482 := E482
          exact jn425 T483 h482 (A483.mono (by decide) (by decide)) X485 (Or.inr (Or.inr (Or.inr (D483.elim (fun d => d.1) (fun d => absurd d.2 c484)))))
      by_cases c486 : c1 < (48 : Int32)
      · refine Run.st (T479.setTop (mkF m 69 #[vA a1, vI 1, vI 0, vI c1] [])) (fun _ k => XS.icmpYes A479.here hx rfl (pc0 := 60) (pc' := 69) rfl (hb hby d30_60) rfl (tlt c486).1 (by decide) (by decide) k) ?_
        exact jn481 T479 (A479.mono (by decide) (by decide)) (fun k => k.1 c486)
      · refine Run.st (T479.setTop (mkF m 66 #[vA a1, vI 1, vI 0, vI c1] [.int 57, .int c1])) (fun _ k => XS.icmpNo A479.here hx rfl (hb hby d30_60) rfl (flt c486).1 (XS.iloadN A479.here hx rfl (hb hby d30_63) rfl (XS.bipush A479.here hx rfl (hb hby d30_64) k))) ?_
        by_cases c487 : (57 : Int32) < c1
        · refine Run.st (T479.setTop (mkF m 69 #[vA a1, vI 1, vI 0, vI c1] [])) (fun _ k => XS.icmpNo A479.here hx rfl (hb hby d30_66) rfl (tlt c487).2.2.2 k) ?_
          exact jn481 T479 (A479.mono (by decide) (by decide)) (fun k => k.2 c487)
        · refine Run.st (T479.setTop (mkF m 15 #[vA a1, vI 1, vI 1, vI c1] [])) (fun _ k => XS.icmpYes A479.here hx rfl (pc0 := 66) (pc' := 78) rfl (hb hby d30_66) rfl (flt c487).2.2.2 (by decide) (by decide) (XS.iconst A479.here hx rfl (hb hby d30_78) (XS.goto A479.here hx rfl (pc0 := 79) (pc' := 83) rfl (hb hby d30_79) (by decide) (by decide) (XS.istoreN A479.here hx rfl (hb hby d30_83) rfl (l' := #[vA a1, vI 1, vI 0, vI c1]) rfl (XS.iinc A479.here hx rfl (hb hby d30_84) rfl (l' := #[vA a1, vI 1, vI 1, vI c1]) rfl (XS.goto A479.here hx rfl (pc0 := 87) (pc' := 15) rfl (hb hby d30_87) (by decide) (by decide) k)))))) ?_
          exact jn425 T479 h0 (A479.mono (by decide) (by decide)) (extR h0) ((Or.inr ((Or.inr (Or.inl ⟨c486, c487⟩)))))
    by_cases c488 : c1 < (65 : Int32)
    · refine Run.st (T477.setTop (mkF m 57 #[vA a1, vI 1, vI 0, vI c1] [])) (fun _ k => XS.icmpYes A477.here hx rfl (pc0 := 48) (pc' := 57) rfl (hb hby d30_48) rfl (tlt c488).1 (by decide) (by decide) k) ?_
      exact jn479 T477 (A477.mono (by decide) (by decide)) (fun k => k.1 c488)
    · refine Run.st (T477.setTop (mkF m 54 #[vA a1, vI 1, vI 0, vI c1] [.int 90, .int c1])) (fun _ k => XS.icmpNo A477.here hx rfl (hb hby d30_48) rfl (flt c488).1 (XS.iloadN A477.here hx rfl (hb hby d30_51) rfl (XS.bipush A477.here hx rfl (hb hby d30_52) k))) ?_
      by_cases c489 : (90 : Int32) < c1
      · refine Run.st (T477.setTop (mkF m 57 #[vA a1, vI 1, vI 0, vI c1] [])) (fun _ k => XS.icmpNo A477.here hx rfl (hb hby d30_54) rfl (tlt c489).2.2.2 k) ?_
        exact jn479 T477 (A477.mono (by decide) (by decide)) (fun k => k.2 c489)
      · refine Run.st (T477.setTop (mkF m 15 #[vA a1, vI 1, vI 1, vI c1] [])) (fun _ k => XS.icmpYes A477.here hx rfl (pc0 := 54) (pc' := 78) rfl (hb hby d30_54) rfl (flt c489).2.2.2 (by decide) (by decide) (XS.iconst A477.here hx rfl (hb hby d30_78) (XS.goto A477.here hx rfl (pc0 := 79) (pc' := 83) rfl (hb hby d30_79) (by decide) (by decide) (XS.istoreN A477.here hx rfl (hb hby d30_83) rfl (l' := #[vA a1, vI 1, vI 0, vI c1]) rfl (XS.iinc A477.here hx rfl (hb hby d30_84) rfl (l' := #[vA a1, vI 1, vI 1, vI c1]) rfl (XS.goto A477.here hx rfl (pc0 := 87) (pc' := 15) rfl (hb hby d30_87) (by decide) (by decide) k)))))) ?_
        exact jn425 T477 h0 (A477.mono (by decide) (by decide)) (extR h0) ((Or.inr (Or.inl ⟨c488, c489⟩)))
  by_cases c490 : c1 < (97 : Int32)
  · refine Run.st (T423.setTop (mkF m 45 #[vA a1, vI 1, vI 0, vI c1] [])) (fun _ k => XS.icmpYes A423.here hx rfl (pc0 := 36) (pc' := 45) rfl (hb hby d30_36) rfl (tlt c490).1 (by decide) (by decide) k) ?_
    exact jn477 T423 (A423.mono (by decide) (by decide)) (fun k => k.1 c490)
  · refine Run.st (T423.setTop (mkF m 42 #[vA a1, vI 1, vI 0, vI c1] [.int 122, .int c1])) (fun _ k => XS.icmpNo A423.here hx rfl (hb hby d30_36) rfl (flt c490).1 (XS.iloadN A423.here hx rfl (hb hby d30_39) rfl (XS.bipush A423.here hx rfl (hb hby d30_40) k))) ?_
    by_cases c491 : (122 : Int32) < c1
    · refine Run.st (T423.setTop (mkF m 45 #[vA a1, vI 1, vI 0, vI c1] [])) (fun _ k => XS.icmpNo A423.here hx rfl (hb hby d30_42) rfl (tlt c491).2.2.2 k) ?_
      exact jn477 T423 (A423.mono (by decide) (by decide)) (fun k => k.2 c491)
    · refine Run.st (T423.setTop (mkF m 15 #[vA a1, vI 1, vI 1, vI c1] [])) (fun _ k => XS.icmpYes A423.here hx rfl (pc0 := 42) (pc' := 78) rfl (hb hby d30_42) rfl (flt c491).2.2.2 (by decide) (by decide) (XS.iconst A423.here hx rfl (hb hby d30_78) (XS.goto A423.here hx rfl (pc0 := 79) (pc' := 83) rfl (hb hby d30_79) (by decide) (by decide) (XS.istoreN A423.here hx rfl (hb hby d30_83) rfl (l' := #[vA a1, vI 1, vI 0, vI c1]) rfl (XS.iinc A423.here hx rfl (hb hby d30_84) rfl (l' := #[vA a1, vI 1, vI 1, vI c1]) rfl (XS.goto A423.here hx rfl (pc0 := 87) (pc' := 15) rfl (hb hby d30_87) (by decide) (by decide) k)))))) ?_
      exact jn425 T423 h0 (A423.mono (by decide) (by decide)) (extR h0) (Or.inl ⟨c490, c491⟩)
theorem ef_tok4 (m : MethodId) (y0 : Addr) : entryFrame m #[(.ref y0)] 4 = mkF m 0 #[vA y0, .unset, .unset, .unset] [] := by first | (simp [entryFrame, mkF, argsToLocals, vI, vA, Value.category, maxLocals]; done) | rfl
def Q_tok4 (Z : State) (a1 : Addr) (c1 : Int32) (c2 : Int32) (c3 : Int32) (c4 : Int32) (h0 : Heap) (v : Option Value) (h : Heap) : Prop := ∃ z, v = some (.int z) ∧ Ext h0 h ∧ (((∀ c ∈ ([c1, c2, c3, c4] : List Int32), tokP c) ∧ ([c1, c2, c3, c4] : List Int32) ≠ []) ∧ z = 1 ∨ ¬ ((∀ c ∈ ([c1, c2, c3, c4] : List Int32), tokP c) ∧ ([c1, c2, c3, c4] : List Int32) ≠ []) ∧ z = 0)
def rm_tok4 : Room := { frames := 5, cells := 8, slots := 256, locals := 66 }
set_option maxRecDepth 65536 in
set_option maxHeartbeats 40000000 in
theorem ct_tok4 {l : Launch} {Z : State} {a0 : Array Value} (H : Ev Z a0) (a1 : Addr) (c1 : Int32) (c2 : Int32) (c3 : Int32) (c4 : Int32) {h0 : Heap} {n0 : Nat} (O0 : Old Z n0 h0) (S1 : StrU Z h0 a1 [c1, c2, c3, c4]) (r1 : R16 c1) (r2 : R16 c2) (r3 : R16 c3) (r4 : R16 c4) : CtrW l Z EL (⟨"com/example/gate_to_handlers/gatetohandlers/MediaType", "isToken", "(Ljava/lang/String;)Z"⟩ : MethodName) prog_69_method_11_code 4 (some .boolean) [] rm_tok4 #[(.ref a1)] h0 [] n0 (Q_tok4 Z a1 c1 c2 c3 c4 h0) := by
  refine enterW (a0 := a0) (plainFor_of_name pn_5) (elA H) O0 all0 ?_
  intro p e s m below meth c T0 hx hby hml hrt hnm hlk hh0 A0
  replace A0 : Wk true Z a0 EL n0 h0 [] "com/example/gate_to_handlers/gatetohandlers/MediaType" p l e rm_tok4 s m #[(.ref a1)] below meth c [] T0 h0 0 0 := A0
  refine Run.st (T0.setTop (mkF m 0 #[vA a1, .unset, .unset, .unset] [])) (fun _ k => castTop (ef_tok4 m a1) k) ?_
  refine Run.st (T0.setTop (mkF m 1 #[vA a1, .unset, .unset, .unset] [(.ref a1)])) (fun _ k => XS.aloadN A0.here hx rfl (hb hby d30_0) rfl rfl k) ?_
  obtain ⟨v492, T492, h492, AA492, K492, ⟨L492, Q492⟩, st492⟩ := A0.callV hx (y := (⟨"java/lang/String", "isEmpty", "()Z"⟩ : MethodName)) (z := (⟨"java/lang/String", "isEmpty", "()Z"⟩ : MethodName)) (tw32 H.1) (tw33 H.1) (tw35 H.1) (tw34 H.1) (nfSel (tw35 H.1)) (by decide) S1.1 (g := (mkF m 1 #[vA a1, .unset, .unset, .unset] [(.ref a1)])) rfl (by rw [hml]; rfl) [] [] (lenOf pd_4 rfl) rfl (Wd := 0) (Nat.le_refl _) (hb hby d30_1) (by decide) (by decide) [] (fun _ _ _ q => q.2) all0 (fun vm0 hZ => payN (ct_isEmpty4 H a1 c1 c2 c3 c4 A0.old S1) (tw36 H.1) (tw8 H.1) (by decide) (by decide) hZ)
  obtain ⟨Q492, N492, -⟩ := Q492
  obtain ⟨rfl, q492⟩ := Q492
  have q492 := q492.symm
  subst q492
  have A492 := AA492 [] all0
  refine Run.st (T492.setTop (mkF m 4 #[vA a1, .unset, .unset, .unset] [.int 0])) st492 ?_
  refine Run.st (T492.setTop (mkF m 20 #[vA a1, vI 1, vI 0, .unset] [.int 0])) (fun _ k => XS.ifNo A492.here hx rfl (hb hby d30_4) rfl (by decide) (XS.iconst A492.here hx rfl (hb hby d30_7) (XS.goto A492.here hx rfl (pc0 := 8) (pc' := 12) rfl (hb hby d30_8) (by decide) (by decide) (XS.istoreN A492.here hx rfl (hb hby d30_12) rfl (l' := #[vA a1, vI 1, .unset, .unset]) rfl (XS.iconst A492.here hx rfl (hb hby d30_13) (XS.istoreN A492.here hx rfl (hb hby d30_14) rfl (l' := #[vA a1, vI 1, vI 0, .unset]) rfl (XS.iloadN A492.here hx rfl (hb hby d30_15) rfl (XS.ifNo A492.here hx rfl (hb hby d30_16) rfl (by decide) (XS.iloadN A492.here hx rfl (hb hby d30_19) rfl k))))))))) ?_
  refine Run.st (T492.setTop (mkF m 21 #[vA a1, vI 1, vI 0, .unset] [(.ref a1), .int 0])) (fun _ k => XS.aloadN A492.here hx rfl (hb hby d30_20) rfl rfl k) ?_
  obtain ⟨v493, T493, h493, AA493, K493, ⟨L493, Q493⟩, st493⟩ := A492.callV hx (y := (⟨"java/lang/String", "length", "()I"⟩ : MethodName)) (z := (⟨"java/lang/String", "length", "()I"⟩ : MethodName)) (tw51 H.1) (tw52 H.1) (tw54 H.1) (tw53 H.1) (nfSel (tw54 H.1)) (by decide) S1.1 (g := (mkF m 21 #[vA a1, vI 1, vI 0, .unset] [(.ref a1), .int 0])) rfl (by rw [hml]; rfl) [] [(.int (0 : Int32))] (lenOf pd_5 rfl) rfl (Wd := 1) (Nat.le_refl _) (hb hby d30_21) (by decide) (by decide) [] (fun _ _ _ q => q.2) all0 (fun vm0 hZ => payN (ct_length4 H a1 c1 c2 c3 c4 A492.old S1) (tw55 H.1) (tw8 H.1) (by decide) (by decide) hZ)
  obtain ⟨Q493, N493, -⟩ := Q493
  obtain ⟨rfl, q493⟩ := Q493
  have q493 := q493.symm
  subst q493
  have A493 := AA493 [] all0
  refine Run.st (T493.setTop (mkF m 24 #[vA a1, vI 1, vI 0, .unset] [.int 4, .int 0])) st493 ?_
  refine Run.st (T493.setTop (mkF m 29 #[vA a1, vI 1, vI 0, .unset] [.int 0, (.ref a1)])) (fun _ k => XS.icmpNo A493.here hx rfl (hb hby d30_24) rfl (by decide) (XS.aloadN A493.here hx rfl (hb hby d30_27) rfl rfl (XS.iloadN A493.here hx rfl (hb hby d30_28) rfl k))) ?_
  obtain ⟨v494, T494, h494, AA494, K494, ⟨L494, Q494⟩, st494⟩ := A493.callV hx (y := (⟨"java/lang/String", "charAt", "(I)C"⟩ : MethodName)) (z := (⟨"java/lang/String", "charAt", "(I)C"⟩ : MethodName)) (tw61 H.1) (tw62 H.1) (tw64 H.1) (tw63 H.1) (nfSel (tw64 H.1)) (by decide) S1.1 (g := (mkF m 29 #[vA a1, vI 1, vI 0, .unset] [.int 0, (.ref a1)])) rfl (by rw [hml]; rfl) [(.int (0 : Int32))] [] (lenOf pd_18 rfl) rfl (Wd := 0) (Nat.le_refl _) (hb hby d30_29) (by decide) (by decide) [] (fun _ _ _ q => q.2) all0 (fun vm0 hZ => payN (ct_charAt H a1 [c1, c2, c3, c4] 0 A493.old S1 (Nat.le_of_ble_eq_true rfl) (Nat.le_of_ble_eq_true rfl) (chsS r1 (chsS r2 (chsS r3 (chsS r4 chs0))))) (tw65 H.1) (tw8 H.1) (by decide) (by decide) hZ)
  obtain ⟨Q494, N494, -⟩ := Q494
  obtain ⟨e494, q494⟩ := Q494
  replace e494 : v494 = some (.int c1) := e494
  subst e494
  have q494 := q494.symm
  subst q494
  have A494 := AA494 [] all0
  refine Run.st (T494.setTop (mkF m 32 #[vA a1, vI 1, vI 0, .unset] [.int c1])) st494 ?_
  refine Run.st (T494.setTop (mkF m 33 #[vA a1, vI 1, vI 0, vI c1] [])) (fun _ k => XS.istoreN A494.here hx rfl (hb hby d30_32) rfl (l' := #[vA a1, vI 1, vI 0, vI c1]) rfl k) ?_
  have jn496 : ∀ (T496 : State) (h496 : Heap), Wk true Z a0 EL n0 h0 [] "com/example/gate_to_handlers/gatetohandlers/MediaType" p l e rm_tok4 s m #[(.ref a1)] below meth c [] T496 h496 2 64 → Ext h0 h496 → (tokP c1) → Run p.tables e below (EndW Z EL s h0 [] n0 rm_tok4 (Q_tok4 Z a1 c1 c2 c3 c4 h0)) (T496.setTop (mkF m 15 #[vA a1, vI 1, vI 1, vI c1] [])) := by
    intro T496 h496 A496 X496 tk495
    refine Run.st (T496.setTop (mkF m 21 #[vA a1, vI 1, vI 1, vI c1] [(.ref a1), .int 1])) (fun _ k => XS.iloadN A496.here hx rfl (hb hby d30_15) rfl (XS.ifNo A496.here hx rfl (hb hby d30_16) rfl (by decide) (XS.iloadN A496.here hx rfl (hb hby d30_19) rfl (XS.aloadN A496.here hx rfl (hb hby d30_20) rfl rfl k)))) ?_
    have X498 : Ext h0 h496 := X496
    have f499 := S1.ext X498
    have f500 := S1.1.ext X498
    obtain ⟨v497, T497, h497, AA497, K497, ⟨L497, Q497⟩, st497⟩ := A496.callV hx (y := (⟨"java/lang/String", "length", "()I"⟩ : MethodName)) (z := (⟨"java/lang/String", "length", "()I"⟩ : MethodName)) (tw51 H.1) (tw52 H.1) (tw54 H.1) (tw53 H.1) (nfSel (tw54 H.1)) (by decide) f500 (g := (mkF m 21 #[vA a1, vI 1, vI 1, vI c1] [(.ref a1), .int 1])) rfl (by rw [hml]; rfl) [] [(.int (1 : Int32))] (lenOf pd_5 rfl) rfl (Wd := 1) (Nat.le_refl _) (hb hby d30_21) (by decide) (by decide) [] (fun _ _ _ q => q.2) all0 (fun vm0 hZ => payN (ct_length4 H a1 c1 c2 c3 c4 A496.old f499) (tw55 H.1) (tw8 H.1) (by decide) (by decide) hZ)
    obtain ⟨Q497, N497, -⟩ := Q497
    obtain ⟨rfl, q497⟩ := Q497
    have q497 := q497.symm
    subst q497
    have A497 := AA497 [] all0
    refine Run.st (T497.setTop (mkF m 24 #[vA a1, vI 1, vI 1, vI c1] [.int 4, .int 1])) st497 ?_
    refine Run.st (T497.setTop (mkF m 29 #[vA a1, vI 1, vI 1, vI c1] [.int 1, (.ref a1)])) (fun _ k => XS.icmpNo A497.here hx rfl (hb hby d30_24) rfl (by decide) (XS.aloadN A497.here hx rfl (hb hby d30_27) rfl rfl (XS.iloadN A497.here hx rfl (hb hby d30_28) rfl k))) ?_
    obtain ⟨v501, T501, h501, AA501, K501, ⟨L501, Q501⟩, st501⟩ := A497.callV hx (y := (⟨"java/lang/String", "charAt", "(I)C"⟩ : MethodName)) (z := (⟨"java/lang/String", "charAt", "(I)C"⟩ : MethodName)) (tw61 H.1) (tw62 H.1) (tw64 H.1) (tw63 H.1) (nfSel (tw64 H.1)) (by decide) f500 (g := (mkF m 29 #[vA a1, vI 1, vI 1, vI c1] [.int 1, (.ref a1)])) rfl (by rw [hml]; rfl) [(.int (1 : Int32))] [] (lenOf pd_18 rfl) rfl (Wd := 0) (Nat.le_refl _) (hb hby d30_29) (by decide) (by decide) [] (fun _ _ _ q => q.2) all0 (fun vm0 hZ => payN (ct_charAt H a1 [c1, c2, c3, c4] 1 A497.old f499 (Nat.le_of_ble_eq_true rfl) (Nat.le_of_ble_eq_true rfl) (chsS r1 (chsS r2 (chsS r3 (chsS r4 chs0))))) (tw65 H.1) (tw8 H.1) (by decide) (by decide) hZ)
    obtain ⟨Q501, N501, -⟩ := Q501
    obtain ⟨e501, q501⟩ := Q501
    replace e501 : v501 = some (.int c2) := e501
    subst e501
    have q501 := q501.symm
    subst q501
    have A501 := AA501 [] all0
    refine Run.st (T501.setTop (mkF m 32 #[vA a1, vI 1, vI 1, vI c1] [.int c2])) st501 ?_
    refine Run.st (T501.setTop (mkF m 33 #[vA a1, vI 1, vI 1, vI c2] [])) (fun _ k => XS.istoreN A501.here hx rfl (hb hby d30_32) rfl (l' := #[vA a1, vI 1, vI 1, vI c2]) rfl k) ?_
    have jn503 : ∀ (T503 : State) (h503 : Heap), Wk true Z a0 EL n0 h0 [] "com/example/gate_to_handlers/gatetohandlers/MediaType" p l e rm_tok4 s m #[(.ref a1)] below meth c [] T503 h503 4 128 → Ext h496 h503 → (tokP c2) → Run p.tables e below (EndW Z EL s h0 [] n0 rm_tok4 (Q_tok4 Z a1 c1 c2 c3 c4 h0)) (T503.setTop (mkF m 15 #[vA a1, vI 1, vI 2, vI c2] [])) := by
      intro T503 h503 A503 X503 tk502
      refine Run.st (T503.setTop (mkF m 21 #[vA a1, vI 1, vI 2, vI c2] [(.ref a1), .int 2])) (fun _ k => XS.iloadN A503.here hx rfl (hb hby d30_15) rfl (XS.ifNo A503.here hx rfl (hb hby d30_16) rfl (by decide) (XS.iloadN A503.here hx rfl (hb hby d30_19) rfl (XS.aloadN A503.here hx rfl (hb hby d30_20) rfl rfl k)))) ?_
      have X505 : Ext h0 h503 := (extT X498 X503)
      have f506 := S1.ext X505
      have f507 := S1.1.ext X505
      obtain ⟨v504, T504, h504, AA504, K504, ⟨L504, Q504⟩, st504⟩ := A503.callV hx (y := (⟨"java/lang/String", "length", "()I"⟩ : MethodName)) (z := (⟨"java/lang/String", "length", "()I"⟩ : MethodName)) (tw51 H.1) (tw52 H.1) (tw54 H.1) (tw53 H.1) (nfSel (tw54 H.1)) (by decide) f507 (g := (mkF m 21 #[vA a1, vI 1, vI 2, vI c2] [(.ref a1), .int 2])) rfl (by rw [hml]; rfl) [] [(.int (2 : Int32))] (lenOf pd_5 rfl) rfl (Wd := 1) (Nat.le_refl _) (hb hby d30_21) (by decide) (by decide) [] (fun _ _ _ q => q.2) all0 (fun vm0 hZ => payN (ct_length4 H a1 c1 c2 c3 c4 A503.old f506) (tw55 H.1) (tw8 H.1) (by decide) (by decide) hZ)
      obtain ⟨Q504, N504, -⟩ := Q504
      obtain ⟨rfl, q504⟩ := Q504
      have q504 := q504.symm
      subst q504
      have A504 := AA504 [] all0
      refine Run.st (T504.setTop (mkF m 24 #[vA a1, vI 1, vI 2, vI c2] [.int 4, .int 2])) st504 ?_
      refine Run.st (T504.setTop (mkF m 29 #[vA a1, vI 1, vI 2, vI c2] [.int 2, (.ref a1)])) (fun _ k => XS.icmpNo A504.here hx rfl (hb hby d30_24) rfl (by decide) (XS.aloadN A504.here hx rfl (hb hby d30_27) rfl rfl (XS.iloadN A504.here hx rfl (hb hby d30_28) rfl k))) ?_
      obtain ⟨v508, T508, h508, AA508, K508, ⟨L508, Q508⟩, st508⟩ := A504.callV hx (y := (⟨"java/lang/String", "charAt", "(I)C"⟩ : MethodName)) (z := (⟨"java/lang/String", "charAt", "(I)C"⟩ : MethodName)) (tw61 H.1) (tw62 H.1) (tw64 H.1) (tw63 H.1) (nfSel (tw64 H.1)) (by decide) f507 (g := (mkF m 29 #[vA a1, vI 1, vI 2, vI c2] [.int 2, (.ref a1)])) rfl (by rw [hml]; rfl) [(.int (2 : Int32))] [] (lenOf pd_18 rfl) rfl (Wd := 0) (Nat.le_refl _) (hb hby d30_29) (by decide) (by decide) [] (fun _ _ _ q => q.2) all0 (fun vm0 hZ => payN (ct_charAt H a1 [c1, c2, c3, c4] 2 A504.old f506 (Nat.le_of_ble_eq_true rfl) (Nat.le_of_ble_eq_true rfl) (chsS r1 (chsS r2 (chsS r3 (chsS r4 chs0))))) (tw65 H.1) (tw8 H.1) (by decide) (by decide) hZ)
      obtain ⟨Q508, N508, -⟩ := Q508
      obtain ⟨e508, q508⟩ := Q508
      replace e508 : v508 = some (.int c3) := e508
      subst e508
      have q508 := q508.symm
      subst q508
      have A508 := AA508 [] all0
      refine Run.st (T508.setTop (mkF m 32 #[vA a1, vI 1, vI 2, vI c2] [.int c3])) st508 ?_
      refine Run.st (T508.setTop (mkF m 33 #[vA a1, vI 1, vI 2, vI c3] [])) (fun _ k => XS.istoreN A508.here hx rfl (hb hby d30_32) rfl (l' := #[vA a1, vI 1, vI 2, vI c3]) rfl k) ?_
      have jn510 : ∀ (T510 : State) (h510 : Heap), Wk true Z a0 EL n0 h0 [] "com/example/gate_to_handlers/gatetohandlers/MediaType" p l e rm_tok4 s m #[(.ref a1)] below meth c [] T510 h510 6 192 → Ext h503 h510 → (tokP c3) → Run p.tables e below (EndW Z EL s h0 [] n0 rm_tok4 (Q_tok4 Z a1 c1 c2 c3 c4 h0)) (T510.setTop (mkF m 15 #[vA a1, vI 1, vI 3, vI c3] [])) := by
        intro T510 h510 A510 X510 tk509
        refine Run.st (T510.setTop (mkF m 21 #[vA a1, vI 1, vI 3, vI c3] [(.ref a1), .int 3])) (fun _ k => XS.iloadN A510.here hx rfl (hb hby d30_15) rfl (XS.ifNo A510.here hx rfl (hb hby d30_16) rfl (by decide) (XS.iloadN A510.here hx rfl (hb hby d30_19) rfl (XS.aloadN A510.here hx rfl (hb hby d30_20) rfl rfl k)))) ?_
        have X512 : Ext h0 h510 := (extT X505 X510)
        have f513 := S1.ext X512
        have f514 := S1.1.ext X512
        obtain ⟨v511, T511, h511, AA511, K511, ⟨L511, Q511⟩, st511⟩ := A510.callV hx (y := (⟨"java/lang/String", "length", "()I"⟩ : MethodName)) (z := (⟨"java/lang/String", "length", "()I"⟩ : MethodName)) (tw51 H.1) (tw52 H.1) (tw54 H.1) (tw53 H.1) (nfSel (tw54 H.1)) (by decide) f514 (g := (mkF m 21 #[vA a1, vI 1, vI 3, vI c3] [(.ref a1), .int 3])) rfl (by rw [hml]; rfl) [] [(.int (3 : Int32))] (lenOf pd_5 rfl) rfl (Wd := 1) (Nat.le_refl _) (hb hby d30_21) (by decide) (by decide) [] (fun _ _ _ q => q.2) all0 (fun vm0 hZ => payN (ct_length4 H a1 c1 c2 c3 c4 A510.old f513) (tw55 H.1) (tw8 H.1) (by decide) (by decide) hZ)
        obtain ⟨Q511, N511, -⟩ := Q511
        obtain ⟨rfl, q511⟩ := Q511
        have q511 := q511.symm
        subst q511
        have A511 := AA511 [] all0
        refine Run.st (T511.setTop (mkF m 24 #[vA a1, vI 1, vI 3, vI c3] [.int 4, .int 3])) st511 ?_
        refine Run.st (T511.setTop (mkF m 29 #[vA a1, vI 1, vI 3, vI c3] [.int 3, (.ref a1)])) (fun _ k => XS.icmpNo A511.here hx rfl (hb hby d30_24) rfl (by decide) (XS.aloadN A511.here hx rfl (hb hby d30_27) rfl rfl (XS.iloadN A511.here hx rfl (hb hby d30_28) rfl k))) ?_
        obtain ⟨v515, T515, h515, AA515, K515, ⟨L515, Q515⟩, st515⟩ := A511.callV hx (y := (⟨"java/lang/String", "charAt", "(I)C"⟩ : MethodName)) (z := (⟨"java/lang/String", "charAt", "(I)C"⟩ : MethodName)) (tw61 H.1) (tw62 H.1) (tw64 H.1) (tw63 H.1) (nfSel (tw64 H.1)) (by decide) f514 (g := (mkF m 29 #[vA a1, vI 1, vI 3, vI c3] [.int 3, (.ref a1)])) rfl (by rw [hml]; rfl) [(.int (3 : Int32))] [] (lenOf pd_18 rfl) rfl (Wd := 0) (Nat.le_refl _) (hb hby d30_29) (by decide) (by decide) [] (fun _ _ _ q => q.2) all0 (fun vm0 hZ => payN (ct_charAt H a1 [c1, c2, c3, c4] 3 A511.old f513 (Nat.le_of_ble_eq_true rfl) (Nat.le_of_ble_eq_true rfl) (chsS r1 (chsS r2 (chsS r3 (chsS r4 chs0))))) (tw65 H.1) (tw8 H.1) (by decide) (by decide) hZ)
        obtain ⟨Q515, N515, -⟩ := Q515
        obtain ⟨e515, q515⟩ := Q515
        replace e515 : v515 = some (.int c4) := e515
        subst e515
        have q515 := q515.symm
        subst q515
        have A515 := AA515 [] all0
        refine Run.st (T515.setTop (mkF m 32 #[vA a1, vI 1, vI 3, vI c3] [.int c4])) st515 ?_
        refine Run.st (T515.setTop (mkF m 33 #[vA a1, vI 1, vI 3, vI c4] [])) (fun _ k => XS.istoreN A515.here hx rfl (hb hby d30_32) rfl (l' := #[vA a1, vI 1, vI 3, vI c4]) rfl k) ?_
        have jn517 : ∀ (T517 : State) (h517 : Heap), Wk true Z a0 EL n0 h0 [] "com/example/gate_to_handlers/gatetohandlers/MediaType" p l e rm_tok4 s m #[(.ref a1)] below meth c [] T517 h517 8 256 → Ext h510 h517 → (tokP c4) → Run p.tables e below (EndW Z EL s h0 [] n0 rm_tok4 (Q_tok4 Z a1 c1 c2 c3 c4 h0)) (T517.setTop (mkF m 15 #[vA a1, vI 1, vI 4, vI c4] [])) := by
          intro T517 h517 A517 X517 tk516
          refine Run.st (T517.setTop (mkF m 21 #[vA a1, vI 1, vI 4, vI c4] [(.ref a1), .int 4])) (fun _ k => XS.iloadN A517.here hx rfl (hb hby d30_15) rfl (XS.ifNo A517.here hx rfl (hb hby d30_16) rfl (by decide) (XS.iloadN A517.here hx rfl (hb hby d30_19) rfl (XS.aloadN A517.here hx rfl (hb hby d30_20) rfl rfl k)))) ?_
          have X519 : Ext h0 h517 := (extT X512 X517)
          have f520 := S1.ext X519
          have f521 := S1.1.ext X519
          obtain ⟨v518, T518, h518, AA518, K518, ⟨L518, Q518⟩, st518⟩ := A517.callV hx (y := (⟨"java/lang/String", "length", "()I"⟩ : MethodName)) (z := (⟨"java/lang/String", "length", "()I"⟩ : MethodName)) (tw51 H.1) (tw52 H.1) (tw54 H.1) (tw53 H.1) (nfSel (tw54 H.1)) (by decide) f521 (g := (mkF m 21 #[vA a1, vI 1, vI 4, vI c4] [(.ref a1), .int 4])) rfl (by rw [hml]; rfl) [] [(.int (4 : Int32))] (lenOf pd_5 rfl) rfl (Wd := 1) (Nat.le_refl _) (hb hby d30_21) (by decide) (by decide) [] (fun _ _ _ q => q.2) all0 (fun vm0 hZ => payN (ct_length4 H a1 c1 c2 c3 c4 A517.old f520) (tw55 H.1) (tw8 H.1) (by decide) (by decide) hZ)
          obtain ⟨Q518, N518, -⟩ := Q518
          obtain ⟨rfl, q518⟩ := Q518
          have q518 := q518.symm
          subst q518
          have A518 := AA518 [] all0
          refine Run.st (T518.setTop (mkF m 24 #[vA a1, vI 1, vI 4, vI c4] [.int 4, .int 4])) st518 ?_
          refine Run.st (T518.setTop (mkF m 91 #[vA a1, vI 1, vI 4, vI c4] [.int 1])) (fun _ k => XS.icmpYes A518.here hx rfl (pc0 := 24) (pc' := 90) rfl (hb hby d30_24) rfl (by decide) (by decide) (by decide) (XS.iloadN A518.here hx rfl (hb hby d30_90) rfl k)) ?_
          exact A518.leaveW hlk hh0 (some (.int (1 : Int32))) (fun q => by rw [hrt] at q; cases q) (by decide) (by decide) ⟨_, rfl, keepE A518.keep, Or.inl ⟨⟨(chsS tk495 (chsS tk502 (chsS tk509 (chsS tk516 chs0)))), List.cons_ne_nil _ _⟩, rfl⟩⟩ (fun X hr => retN X hx (t := .boolean) hrt (by simp) (hb hby d30_91) hr)
        refine Run.st (T515.setTop (mkF m 36 #[vA a1, vI 1, vI 3, vI c4] [.int 97, .int c4])) (fun _ k => XS.iloadN A515.here hx rfl (hb hby d30_33) rfl (XS.bipush A515.here hx rfl (hb hby d30_34) k)) ?_
        have jn523 : ∀ (T523 : State), Wk true Z a0 EL n0 h0 [] "com/example/gate_to_handlers/gatetohandlers/MediaType" p l e rm_tok4 s m #[(.ref a1)] below meth c [] T523 h510 6 192 → (¬ (¬ c4 < (97 : Int32) ∧ ¬ (122 : Int32) < c4)) → Run p.tables e below (EndW Z EL s h0 [] n0 rm_tok4 (Q_tok4 Z a1 c1 c2 c3 c4 h0)) (T523.setTop (mkF m 45 #[vA a1, vI 1, vI 3, vI c4] [])) := by
          intro T523 A523 nr522
          refine Run.st (T523.setTop (mkF m 48 #[vA a1, vI 1, vI 3, vI c4] [.int 65, .int c4])) (fun _ k => XS.iloadN A523.here hx rfl (hb hby d30_45) rfl (XS.bipush A523.here hx rfl (hb hby d30_46) k)) ?_
          have jn525 : ∀ (T525 : State), Wk true Z a0 EL n0 h0 [] "com/example/gate_to_handlers/gatetohandlers/MediaType" p l e rm_tok4 s m #[(.ref a1)] below meth c [] T525 h510 6 192 → (¬ (¬ c4 < (65 : Int32) ∧ ¬ (90 : Int32) < c4)) → Run p.tables e below (EndW Z EL s h0 [] n0 rm_tok4 (Q_tok4 Z a1 c1 c2 c3 c4 h0)) (T525.setTop (mkF m 57 #[vA a1, vI 1, vI 3, vI c4] [])) := by
            intro T525 A525 nr524
            refine Run.st (T525.setTop (mkF m 60 #[vA a1, vI 1, vI 3, vI c4] [.int 48, .int c4])) (fun _ k => XS.iloadN A525.here hx rfl (hb hby d30_57) rfl (XS.bipush A525.here hx rfl (hb hby d30_58) k)) ?_
            have jn527 : ∀ (T527 : State), Wk true Z a0 EL n0 h0 [] "com/example/gate_to_handlers/gatetohandlers/MediaType" p l e rm_tok4 s m #[(.ref a1)] below meth c [] T527 h510 6 192 → (¬ (¬ c4 < (48 : Int32) ∧ ¬ (57 : Int32) < c4)) → Run p.tables e below (EndW Z EL s h0 [] n0 rm_tok4 (Q_tok4 Z a1 c1 c2 c3 c4 h0)) (T527.setTop (mkF m 69 #[vA a1, vI 1, vI 3, vI c4] [])) := by
              intro T527 A527 nr526
              obtain ⟨a528, b528, kA528, T528, h528, A528, E528, Ex528, Fc528, Fv528, Va528, ne528, st528⟩ := A527.ldc hx (tw83 H.1) (strsA H) (List.mem_of_getElem? (i := 0) rfl) (vs := (([(33 : Int32), (35 : Int32), (36 : Int32), (37 : Int32), (38 : Int32), (39 : Int32), (42 : Int32), (43 : Int32), (45 : Int32), (46 : Int32), (94 : Int32), (95 : Int32), (96 : Int32), (124 : Int32), (126 : Int32)] : List Int32).map fun c => c.toInt8.toInt32).map Value.int) (z := (15 : Int32)) ⟨by decide, by decide +kernel⟩ (by decide) (by decide +kernel) (g := (mkF m 69 #[vA a1, vI 1, vI 3, vI c4] [])) rfl (hb hby d30_69) (q := 60) (by decide) (by decide) (by decide) (by decide)
              have S528 : StrA Z h528 a528 [(33 : Int32), (35 : Int32), (36 : Int32), (37 : Int32), (38 : Int32), (39 : Int32), (42 : Int32), (43 : Int32), (45 : Int32), (46 : Int32), (94 : Int32), (95 : Int32), (96 : Int32), (124 : Int32), (126 : Int32)] := ⟨Ex528, Fc528, ⟨b528, kA528, Fv528, Va528⟩, by decide, by decide⟩
              refine Run.st (T528.setTop (mkF m 71 #[vA a1, vI 1, vI 3, vI c4] [(.ref a528)])) st528 ?_
              refine Run.st (T528.setTop (mkF m 72 #[vA a1, vI 1, vI 3, vI c4] [.int c4, (.ref a528)])) (fun _ k => XS.iloadN A528.here hx rfl (hb hby d30_71) rfl k) ?_
              obtain ⟨v529, T529, h529, AA529, K529, ⟨L529, Q529⟩, st529⟩ := A528.callV hx (y := (⟨"java/lang/String", "indexOf", "(I)I"⟩ : MethodName)) (z := (⟨"java/lang/String", "indexOf", "(I)I"⟩ : MethodName)) (tw84 H.1) (tw85 H.1) (tw87 H.1) (tw86 H.1) (nfSel (tw87 H.1)) (by decide) Ex528 (g := (mkF m 72 #[vA a1, vI 1, vI 3, vI c4] [.int c4, (.ref a528)])) rfl (by rw [hml]; rfl) [(.int c4)] [] (lenOf pd_11 rfl) rfl (Wd := 0) (Nat.le_refl _) (hb hby d30_72) (by decide) (by decide) [] (fun _ _ _ q => q.2) all0 (fun vm0 hZ => payN (ct_ix1 H a528 b528 _ c4 A528.old Ex528 Fc528 Fv528 Va528 r4) (tw88 H.1) (tw8 H.1) (by decide) (by decide) hZ)
              obtain ⟨Q529, N529, -⟩ := Q529
              obtain ⟨z529, rfl, q529, D529⟩ := Q529
              have q529 := q529.symm
              subst q529
              have A529 := AA529 [] all0
              refine Run.st (T529.setTop (mkF m 75 #[vA a1, vI 1, vI 3, vI c4] [.int z529])) st529 ?_
              by_cases c530 : z529 < (0 : Int32)
              · refine Run.st (T529.setTop (mkF m 91 #[vA a1, vI 0, vI 4, vI c4] [.int 0])) (fun _ k => XS.ifYes A529.here hx rfl (pc0 := 75) (pc' := 82) rfl (hb hby d30_75) rfl (by rw [if0]; exact (tlt c530).1) (by decide) (by decide) (XS.iconst A529.here hx rfl (hb hby d30_82) (XS.istoreN A529.here hx rfl (hb hby d30_83) rfl (l' := #[vA a1, vI 0, vI 3, vI c4]) rfl (XS.iinc A529.here hx rfl (hb hby d30_84) rfl (l' := #[vA a1, vI 0, vI 4, vI c4]) rfl (XS.goto A529.here hx rfl (pc0 := 87) (pc' := 15) rfl (hb hby d30_87) (by decide) (by decide) (XS.iloadN A529.here hx rfl (hb hby d30_15) rfl (XS.ifYes A529.here hx rfl (pc0 := 16) (pc' := 90) rfl (hb hby d30_16) rfl (by decide) (by decide) (by decide) (XS.iloadN A529.here hx rfl (hb hby d30_90) rfl k)))))))) ?_
                exact A529.leaveW hlk hh0 (some (.int (0 : Int32))) (fun q => by rw [hrt] at q; cases q) (by decide) (by decide) ⟨_, rfl, keepE A529.keep, Or.inr ⟨fun q => (D529.elim (fun d => absurd c530 d.2) (fun d => d.1)) ((q.1 c4 (List.mem_of_getElem? (i := 3) rfl)).elim (fun k => absurd k nr522) fun k => k.elim (fun k => absurd k nr524) fun k => k.elim (fun k => absurd k nr526) id), rfl⟩⟩ (fun X hr => retN X hx (t := .boolean) hrt (by simp) (hb hby d30_91) hr)
              · refine Run.st (T529.setTop (mkF m 15 #[vA a1, vI 1, vI 4, vI c4] [])) (fun _ k => XS.ifNo A529.here hx rfl (hb hby d30_75) rfl (by rw [if0]; exact (flt c530).1) (XS.iconst A529.here hx rfl (hb hby d30_78) (XS.goto A529.here hx rfl (pc0 := 79) (pc' := 83) rfl (hb hby d30_79) (by decide) (by decide) (XS.istoreN A529.here hx rfl (hb hby d30_83) rfl (l' := #[vA a1, vI 1, vI 3, vI c4]) rfl (XS.iinc A529.here hx rfl (hb hby d30_84) rfl (l' := #[vA a1, vI 1, vI 4, vI c4]) rfl (XS.goto A529.here hx rfl (pc0 := 87) (pc' := 15) rfl (hb hby d30_87) (by decide) (by decide) k)))))) ?_
                have X531 : Ext h510 h528 := E528
                exact jn517 T529 h528 (A529.mono (by decide) (by decide)) X531 (Or.inr (Or.inr (Or.inr (D529.elim (fun d => d.1) (fun d => absurd d.2 c530)))))
            by_cases c532 : c4 < (48 : Int32)
            · refine Run.st (T525.setTop (mkF m 69 #[vA a1, vI 1, vI 3, vI c4] [])) (fun _ k => XS.icmpYes A525.here hx rfl (pc0 := 60) (pc' := 69) rfl (hb hby d30_60) rfl (tlt c532).1 (by decide) (by decide) k) ?_
              exact jn527 T525 (A525.mono (by decide) (by decide)) (fun k => k.1 c532)
            · refine Run.st (T525.setTop (mkF m 66 #[vA a1, vI 1, vI 3, vI c4] [.int 57, .int c4])) (fun _ k => XS.icmpNo A525.here hx rfl (hb hby d30_60) rfl (flt c532).1 (XS.iloadN A525.here hx rfl (hb hby d30_63) rfl (XS.bipush A525.here hx rfl (hb hby d30_64) k))) ?_
              by_cases c533 : (57 : Int32) < c4
              · refine Run.st (T525.setTop (mkF m 69 #[vA a1, vI 1, vI 3, vI c4] [])) (fun _ k => XS.icmpNo A525.here hx rfl (hb hby d30_66) rfl (tlt c533).2.2.2 k) ?_
                exact jn527 T525 (A525.mono (by decide) (by decide)) (fun k => k.2 c533)
              · refine Run.st (T525.setTop (mkF m 15 #[vA a1, vI 1, vI 4, vI c4] [])) (fun _ k => XS.icmpYes A525.here hx rfl (pc0 := 66) (pc' := 78) rfl (hb hby d30_66) rfl (flt c533).2.2.2 (by decide) (by decide) (XS.iconst A525.here hx rfl (hb hby d30_78) (XS.goto A525.here hx rfl (pc0 := 79) (pc' := 83) rfl (hb hby d30_79) (by decide) (by decide) (XS.istoreN A525.here hx rfl (hb hby d30_83) rfl (l' := #[vA a1, vI 1, vI 3, vI c4]) rfl (XS.iinc A525.here hx rfl (hb hby d30_84) rfl (l' := #[vA a1, vI 1, vI 4, vI c4]) rfl (XS.goto A525.here hx rfl (pc0 := 87) (pc' := 15) rfl (hb hby d30_87) (by decide) (by decide) k)))))) ?_
                exact jn517 T525 h510 (A525.mono (by decide) (by decide)) (extR h510) ((Or.inr ((Or.inr (Or.inl ⟨c532, c533⟩)))))
          by_cases c534 : c4 < (65 : Int32)
          · refine Run.st (T523.setTop (mkF m 57 #[vA a1, vI 1, vI 3, vI c4] [])) (fun _ k => XS.icmpYes A523.here hx rfl (pc0 := 48) (pc' := 57) rfl (hb hby d30_48) rfl (tlt c534).1 (by decide) (by decide) k) ?_
            exact jn525 T523 (A523.mono (by decide) (by decide)) (fun k => k.1 c534)
          · refine Run.st (T523.setTop (mkF m 54 #[vA a1, vI 1, vI 3, vI c4] [.int 90, .int c4])) (fun _ k => XS.icmpNo A523.here hx rfl (hb hby d30_48) rfl (flt c534).1 (XS.iloadN A523.here hx rfl (hb hby d30_51) rfl (XS.bipush A523.here hx rfl (hb hby d30_52) k))) ?_
            by_cases c535 : (90 : Int32) < c4
            · refine Run.st (T523.setTop (mkF m 57 #[vA a1, vI 1, vI 3, vI c4] [])) (fun _ k => XS.icmpNo A523.here hx rfl (hb hby d30_54) rfl (tlt c535).2.2.2 k) ?_
              exact jn525 T523 (A523.mono (by decide) (by decide)) (fun k => k.2 c535)
            · refine Run.st (T523.setTop (mkF m 15 #[vA a1, vI 1, vI 4, vI c4] [])) (fun _ k => XS.icmpYes A523.here hx rfl (pc0 := 54) (pc' := 78) rfl (hb hby d30_54) rfl (flt c535).2.2.2 (by decide) (by decide) (XS.iconst A523.here hx rfl (hb hby d30_78) (XS.goto A523.here hx rfl (pc0 := 79) (pc' := 83) rfl (hb hby d30_79) (by decide) (by decide) (XS.istoreN A523.here hx rfl (hb hby d30_83) rfl (l' := #[vA a1, vI 1, vI 3, vI c4]) rfl (XS.iinc A523.here hx rfl (hb hby d30_84) rfl (l' := #[vA a1, vI 1, vI 4, vI c4]) rfl (XS.goto A523.here hx rfl (pc0 := 87) (pc' := 15) rfl (hb hby d30_87) (by decide) (by decide) k)))))) ?_
              exact jn517 T523 h510 (A523.mono (by decide) (by decide)) (extR h510) ((Or.inr (Or.inl ⟨c534, c535⟩)))
        by_cases c536 : c4 < (97 : Int32)
        · refine Run.st (T515.setTop (mkF m 45 #[vA a1, vI 1, vI 3, vI c4] [])) (fun _ k => XS.icmpYes A515.here hx rfl (pc0 := 36) (pc' := 45) rfl (hb hby d30_36) rfl (tlt c536).1 (by decide) (by decide) k) ?_
          exact jn523 T515 (A515.mono (by decide) (by decide)) (fun k => k.1 c536)
        · refine Run.st (T515.setTop (mkF m 42 #[vA a1, vI 1, vI 3, vI c4] [.int 122, .int c4])) (fun _ k => XS.icmpNo A515.here hx rfl (hb hby d30_36) rfl (flt c536).1 (XS.iloadN A515.here hx rfl (hb hby d30_39) rfl (XS.bipush A515.here hx rfl (hb hby d30_40) k))) ?_
          by_cases c537 : (122 : Int32) < c4
          · refine Run.st (T515.setTop (mkF m 45 #[vA a1, vI 1, vI 3, vI c4] [])) (fun _ k => XS.icmpNo A515.here hx rfl (hb hby d30_42) rfl (tlt c537).2.2.2 k) ?_
            exact jn523 T515 (A515.mono (by decide) (by decide)) (fun k => k.2 c537)
          · refine Run.st (T515.setTop (mkF m 15 #[vA a1, vI 1, vI 4, vI c4] [])) (fun _ k => XS.icmpYes A515.here hx rfl (pc0 := 42) (pc' := 78) rfl (hb hby d30_42) rfl (flt c537).2.2.2 (by decide) (by decide) (XS.iconst A515.here hx rfl (hb hby d30_78) (XS.goto A515.here hx rfl (pc0 := 79) (pc' := 83) rfl (hb hby d30_79) (by decide) (by decide) (XS.istoreN A515.here hx rfl (hb hby d30_83) rfl (l' := #[vA a1, vI 1, vI 3, vI c4]) rfl (XS.iinc A515.here hx rfl (hb hby d30_84) rfl (l' := #[vA a1, vI 1, vI 4, vI c4]) rfl (XS.goto A515.here hx rfl (pc0 := 87) (pc' := 15) rfl (hb hby d30_87) (by decide) (by decide) k)))))) ?_
            exact jn517 T515 h510 (A515.mono (by decide) (by decide)) (extR h510) (Or.inl ⟨c536, c537⟩)
      refine Run.st (T508.setTop (mkF m 36 #[vA a1, vI 1, vI 2, vI c3] [.int 97, .int c3])) (fun _ k => XS.iloadN A508.here hx rfl (hb hby d30_33) rfl (XS.bipush A508.here hx rfl (hb hby d30_34) k)) ?_
      have jn539 : ∀ (T539 : State), Wk true Z a0 EL n0 h0 [] "com/example/gate_to_handlers/gatetohandlers/MediaType" p l e rm_tok4 s m #[(.ref a1)] below meth c [] T539 h503 4 128 → (¬ (¬ c3 < (97 : Int32) ∧ ¬ (122 : Int32) < c3)) → Run p.tables e below (EndW Z EL s h0 [] n0 rm_tok4 (Q_tok4 Z a1 c1 c2 c3 c4 h0)) (T539.setTop (mkF m 45 #[vA a1, vI 1, vI 2, vI c3] [])) := by
        intro T539 A539 nr538
        refine Run.st (T539.setTop (mkF m 48 #[vA a1, vI 1, vI 2, vI c3] [.int 65, .int c3])) (fun _ k => XS.iloadN A539.here hx rfl (hb hby d30_45) rfl (XS.bipush A539.here hx rfl (hb hby d30_46) k)) ?_
        have jn541 : ∀ (T541 : State), Wk true Z a0 EL n0 h0 [] "com/example/gate_to_handlers/gatetohandlers/MediaType" p l e rm_tok4 s m #[(.ref a1)] below meth c [] T541 h503 4 128 → (¬ (¬ c3 < (65 : Int32) ∧ ¬ (90 : Int32) < c3)) → Run p.tables e below (EndW Z EL s h0 [] n0 rm_tok4 (Q_tok4 Z a1 c1 c2 c3 c4 h0)) (T541.setTop (mkF m 57 #[vA a1, vI 1, vI 2, vI c3] [])) := by
          intro T541 A541 nr540
          refine Run.st (T541.setTop (mkF m 60 #[vA a1, vI 1, vI 2, vI c3] [.int 48, .int c3])) (fun _ k => XS.iloadN A541.here hx rfl (hb hby d30_57) rfl (XS.bipush A541.here hx rfl (hb hby d30_58) k)) ?_
          have jn543 : ∀ (T543 : State), Wk true Z a0 EL n0 h0 [] "com/example/gate_to_handlers/gatetohandlers/MediaType" p l e rm_tok4 s m #[(.ref a1)] below meth c [] T543 h503 4 128 → (¬ (¬ c3 < (48 : Int32) ∧ ¬ (57 : Int32) < c3)) → Run p.tables e below (EndW Z EL s h0 [] n0 rm_tok4 (Q_tok4 Z a1 c1 c2 c3 c4 h0)) (T543.setTop (mkF m 69 #[vA a1, vI 1, vI 2, vI c3] [])) := by
            intro T543 A543 nr542
            obtain ⟨a544, b544, kA544, T544, h544, A544, E544, Ex544, Fc544, Fv544, Va544, ne544, st544⟩ := A543.ldc hx (tw83 H.1) (strsA H) (List.mem_of_getElem? (i := 0) rfl) (vs := (([(33 : Int32), (35 : Int32), (36 : Int32), (37 : Int32), (38 : Int32), (39 : Int32), (42 : Int32), (43 : Int32), (45 : Int32), (46 : Int32), (94 : Int32), (95 : Int32), (96 : Int32), (124 : Int32), (126 : Int32)] : List Int32).map fun c => c.toInt8.toInt32).map Value.int) (z := (15 : Int32)) ⟨by decide, by decide +kernel⟩ (by decide) (by decide +kernel) (g := (mkF m 69 #[vA a1, vI 1, vI 2, vI c3] [])) rfl (hb hby d30_69) (q := 60) (by decide) (by decide) (by decide) (by decide)
            have S544 : StrA Z h544 a544 [(33 : Int32), (35 : Int32), (36 : Int32), (37 : Int32), (38 : Int32), (39 : Int32), (42 : Int32), (43 : Int32), (45 : Int32), (46 : Int32), (94 : Int32), (95 : Int32), (96 : Int32), (124 : Int32), (126 : Int32)] := ⟨Ex544, Fc544, ⟨b544, kA544, Fv544, Va544⟩, by decide, by decide⟩
            refine Run.st (T544.setTop (mkF m 71 #[vA a1, vI 1, vI 2, vI c3] [(.ref a544)])) st544 ?_
            refine Run.st (T544.setTop (mkF m 72 #[vA a1, vI 1, vI 2, vI c3] [.int c3, (.ref a544)])) (fun _ k => XS.iloadN A544.here hx rfl (hb hby d30_71) rfl k) ?_
            obtain ⟨v545, T545, h545, AA545, K545, ⟨L545, Q545⟩, st545⟩ := A544.callV hx (y := (⟨"java/lang/String", "indexOf", "(I)I"⟩ : MethodName)) (z := (⟨"java/lang/String", "indexOf", "(I)I"⟩ : MethodName)) (tw84 H.1) (tw85 H.1) (tw87 H.1) (tw86 H.1) (nfSel (tw87 H.1)) (by decide) Ex544 (g := (mkF m 72 #[vA a1, vI 1, vI 2, vI c3] [.int c3, (.ref a544)])) rfl (by rw [hml]; rfl) [(.int c3)] [] (lenOf pd_11 rfl) rfl (Wd := 0) (Nat.le_refl _) (hb hby d30_72) (by decide) (by decide) [] (fun _ _ _ q => q.2) all0 (fun vm0 hZ => payN (ct_ix1 H a544 b544 _ c3 A544.old Ex544 Fc544 Fv544 Va544 r3) (tw88 H.1) (tw8 H.1) (by decide) (by decide) hZ)
            obtain ⟨Q545, N545, -⟩ := Q545
            obtain ⟨z545, rfl, q545, D545⟩ := Q545
            have q545 := q545.symm
            subst q545
            have A545 := AA545 [] all0
            refine Run.st (T545.setTop (mkF m 75 #[vA a1, vI 1, vI 2, vI c3] [.int z545])) st545 ?_
            by_cases c546 : z545 < (0 : Int32)
            · refine Run.st (T545.setTop (mkF m 91 #[vA a1, vI 0, vI 3, vI c3] [.int 0])) (fun _ k => XS.ifYes A545.here hx rfl (pc0 := 75) (pc' := 82) rfl (hb hby d30_75) rfl (by rw [if0]; exact (tlt c546).1) (by decide) (by decide) (XS.iconst A545.here hx rfl (hb hby d30_82) (XS.istoreN A545.here hx rfl (hb hby d30_83) rfl (l' := #[vA a1, vI 0, vI 2, vI c3]) rfl (XS.iinc A545.here hx rfl (hb hby d30_84) rfl (l' := #[vA a1, vI 0, vI 3, vI c3]) rfl (XS.goto A545.here hx rfl (pc0 := 87) (pc' := 15) rfl (hb hby d30_87) (by decide) (by decide) (XS.iloadN A545.here hx rfl (hb hby d30_15) rfl (XS.ifYes A545.here hx rfl (pc0 := 16) (pc' := 90) rfl (hb hby d30_16) rfl (by decide) (by decide) (by decide) (XS.iloadN A545.here hx rfl (hb hby d30_90) rfl k)))))))) ?_
              exact A545.leaveW hlk hh0 (some (.int (0 : Int32))) (fun q => by rw [hrt] at q; cases q) (by decide) (by decide) ⟨_, rfl, keepE A545.keep, Or.inr ⟨fun q => (D545.elim (fun d => absurd c546 d.2) (fun d => d.1)) ((q.1 c3 (List.mem_of_getElem? (i := 2) rfl)).elim (fun k => absurd k nr538) fun k => k.elim (fun k => absurd k nr540) fun k => k.elim (fun k => absurd k nr542) id), rfl⟩⟩ (fun X hr => retN X hx (t := .boolean) hrt (by simp) (hb hby d30_91) hr)
            · refine Run.st (T545.setTop (mkF m 15 #[vA a1, vI 1, vI 3, vI c3] [])) (fun _ k => XS.ifNo A545.here hx rfl (hb hby d30_75) rfl (by rw [if0]; exact (flt c546).1) (XS.iconst A545.here hx rfl (hb hby d30_78) (XS.goto A545.here hx rfl (pc0 := 79) (pc' := 83) rfl (hb hby d30_79) (by decide) (by decide) (XS.istoreN A545.here hx rfl (hb hby d30_83) rfl (l' := #[vA a1, vI 1, vI 2, vI c3]) rfl (XS.iinc A545.here hx rfl (hb hby d30_84) rfl (l' := #[vA a1, vI 1, vI 3, vI c3]) rfl (XS.goto A545.here hx rfl (pc0 := 87) (pc' := 15) rfl (hb hby d30_87) (by decide) (by decide) k)))))) ?_
              have X547 : Ext h503 h544 := E544
              exact jn510 T545 h544 (A545.mono (by decide) (by decide)) X547 (Or.inr (Or.inr (Or.inr (D545.elim (fun d => d.1) (fun d => absurd d.2 c546)))))
          by_cases c548 : c3 < (48 : Int32)
          · refine Run.st (T541.setTop (mkF m 69 #[vA a1, vI 1, vI 2, vI c3] [])) (fun _ k => XS.icmpYes A541.here hx rfl (pc0 := 60) (pc' := 69) rfl (hb hby d30_60) rfl (tlt c548).1 (by decide) (by decide) k) ?_
            exact jn543 T541 (A541.mono (by decide) (by decide)) (fun k => k.1 c548)
          · refine Run.st (T541.setTop (mkF m 66 #[vA a1, vI 1, vI 2, vI c3] [.int 57, .int c3])) (fun _ k => XS.icmpNo A541.here hx rfl (hb hby d30_60) rfl (flt c548).1 (XS.iloadN A541.here hx rfl (hb hby d30_63) rfl (XS.bipush A541.here hx rfl (hb hby d30_64) k))) ?_
            by_cases c549 : (57 : Int32) < c3
            · refine Run.st (T541.setTop (mkF m 69 #[vA a1, vI 1, vI 2, vI c3] [])) (fun _ k => XS.icmpNo A541.here hx rfl (hb hby d30_66) rfl (tlt c549).2.2.2 k) ?_
              exact jn543 T541 (A541.mono (by decide) (by decide)) (fun k => k.2 c549)
            · refine Run.st (T541.setTop (mkF m 15 #[vA a1, vI 1, vI 3, vI c3] [])) (fun _ k => XS.icmpYes A541.here hx rfl (pc0 := 66) (pc' := 78) rfl (hb hby d30_66) rfl (flt c549).2.2.2 (by decide) (by decide) (XS.iconst A541.here hx rfl (hb hby d30_78) (XS.goto A541.here hx rfl (pc0 := 79) (pc' := 83) rfl (hb hby d30_79) (by decide) (by decide) (XS.istoreN A541.here hx rfl (hb hby d30_83) rfl (l' := #[vA a1, vI 1, vI 2, vI c3]) rfl (XS.iinc A541.here hx rfl (hb hby d30_84) rfl (l' := #[vA a1, vI 1, vI 3, vI c3]) rfl (XS.goto A541.here hx rfl (pc0 := 87) (pc' := 15) rfl (hb hby d30_87) (by decide) (by decide) k)))))) ?_
              exact jn510 T541 h503 (A541.mono (by decide) (by decide)) (extR h503) ((Or.inr ((Or.inr (Or.inl ⟨c548, c549⟩)))))
        by_cases c550 : c3 < (65 : Int32)
        · refine Run.st (T539.setTop (mkF m 57 #[vA a1, vI 1, vI 2, vI c3] [])) (fun _ k => XS.icmpYes A539.here hx rfl (pc0 := 48) (pc' := 57) rfl (hb hby d30_48) rfl (tlt c550).1 (by decide) (by decide) k) ?_
          exact jn541 T539 (A539.mono (by decide) (by decide)) (fun k => k.1 c550)
        · refine Run.st (T539.setTop (mkF m 54 #[vA a1, vI 1, vI 2, vI c3] [.int 90, .int c3])) (fun _ k => XS.icmpNo A539.here hx rfl (hb hby d30_48) rfl (flt c550).1 (XS.iloadN A539.here hx rfl (hb hby d30_51) rfl (XS.bipush A539.here hx rfl (hb hby d30_52) k))) ?_
          by_cases c551 : (90 : Int32) < c3
          · refine Run.st (T539.setTop (mkF m 57 #[vA a1, vI 1, vI 2, vI c3] [])) (fun _ k => XS.icmpNo A539.here hx rfl (hb hby d30_54) rfl (tlt c551).2.2.2 k) ?_
            exact jn541 T539 (A539.mono (by decide) (by decide)) (fun k => k.2 c551)
          · refine Run.st (T539.setTop (mkF m 15 #[vA a1, vI 1, vI 3, vI c3] [])) (fun _ k => XS.icmpYes A539.here hx rfl (pc0 := 54) (pc' := 78) rfl (hb hby d30_54) rfl (flt c551).2.2.2 (by decide) (by decide) (XS.iconst A539.here hx rfl (hb hby d30_78) (XS.goto A539.here hx rfl (pc0 := 79) (pc' := 83) rfl (hb hby d30_79) (by decide) (by decide) (XS.istoreN A539.here hx rfl (hb hby d30_83) rfl (l' := #[vA a1, vI 1, vI 2, vI c3]) rfl (XS.iinc A539.here hx rfl (hb hby d30_84) rfl (l' := #[vA a1, vI 1, vI 3, vI c3]) rfl (XS.goto A539.here hx rfl (pc0 := 87) (pc' := 15) rfl (hb hby d30_87) (by decide) (by decide) k)))))) ?_
            exact jn510 T539 h503 (A539.mono (by decide) (by decide)) (extR h503) ((Or.inr (Or.inl ⟨c550, c551⟩)))
      by_cases c552 : c3 < (97 : Int32)
      · refine Run.st (T508.setTop (mkF m 45 #[vA a1, vI 1, vI 2, vI c3] [])) (fun _ k => XS.icmpYes A508.here hx rfl (pc0 := 36) (pc' := 45) rfl (hb hby d30_36) rfl (tlt c552).1 (by decide) (by decide) k) ?_
        exact jn539 T508 (A508.mono (by decide) (by decide)) (fun k => k.1 c552)
      · refine Run.st (T508.setTop (mkF m 42 #[vA a1, vI 1, vI 2, vI c3] [.int 122, .int c3])) (fun _ k => XS.icmpNo A508.here hx rfl (hb hby d30_36) rfl (flt c552).1 (XS.iloadN A508.here hx rfl (hb hby d30_39) rfl (XS.bipush A508.here hx rfl (hb hby d30_40) k))) ?_
        by_cases c553 : (122 : Int32) < c3
        · refine Run.st (T508.setTop (mkF m 45 #[vA a1, vI 1, vI 2, vI c3] [])) (fun _ k => XS.icmpNo A508.here hx rfl (hb hby d30_42) rfl (tlt c553).2.2.2 k) ?_
          exact jn539 T508 (A508.mono (by decide) (by decide)) (fun k => k.2 c553)
        · refine Run.st (T508.setTop (mkF m 15 #[vA a1, vI 1, vI 3, vI c3] [])) (fun _ k => XS.icmpYes A508.here hx rfl (pc0 := 42) (pc' := 78) rfl (hb hby d30_42) rfl (flt c553).2.2.2 (by decide) (by decide) (XS.iconst A508.here hx rfl (hb hby d30_78) (XS.goto A508.here hx rfl (pc0 := 79) (pc' := 83) rfl (hb hby d30_79) (by decide) (by decide) (XS.istoreN A508.here hx rfl (hb hby d30_83) rfl (l' := #[vA a1, vI 1, vI 2, vI c3]) rfl (XS.iinc A508.here hx rfl (hb hby d30_84) rfl (l' := #[vA a1, vI 1, vI 3, vI c3]) rfl (XS.goto A508.here hx rfl (pc0 := 87) (pc' := 15) rfl (hb hby d30_87) (by decide) (by decide) k)))))) ?_
          exact jn510 T508 h503 (A508.mono (by decide) (by decide)) (extR h503) (Or.inl ⟨c552, c553⟩)
    refine Run.st (T501.setTop (mkF m 36 #[vA a1, vI 1, vI 1, vI c2] [.int 97, .int c2])) (fun _ k => XS.iloadN A501.here hx rfl (hb hby d30_33) rfl (XS.bipush A501.here hx rfl (hb hby d30_34) k)) ?_
    have jn555 : ∀ (T555 : State), Wk true Z a0 EL n0 h0 [] "com/example/gate_to_handlers/gatetohandlers/MediaType" p l e rm_tok4 s m #[(.ref a1)] below meth c [] T555 h496 2 64 → (¬ (¬ c2 < (97 : Int32) ∧ ¬ (122 : Int32) < c2)) → Run p.tables e below (EndW Z EL s h0 [] n0 rm_tok4 (Q_tok4 Z a1 c1 c2 c3 c4 h0)) (T555.setTop (mkF m 45 #[vA a1, vI 1, vI 1, vI c2] [])) := by
      intro T555 A555 nr554
      refine Run.st (T555.setTop (mkF m 48 #[vA a1, vI 1, vI 1, vI c2] [.int 65, .int c2])) (fun _ k => XS.iloadN A555.here hx rfl (hb hby d30_45) rfl (XS.bipush A555.here hx rfl (hb hby d30_46) k)) ?_
      have jn557 : ∀ (T557 : State), Wk true Z a0 EL n0 h0 [] "com/example/gate_to_handlers/gatetohandlers/MediaType" p l e rm_tok4 s m #[(.ref a1)] below meth c [] T557 h496 2 64 → (¬ (¬ c2 < (65 : Int32) ∧ ¬ (90 : Int32) < c2)) → Run p.tables e below (EndW Z EL s h0 [] n0 rm_tok4 (Q_tok4 Z a1 c1 c2 c3 c4 h0)) (T557.setTop (mkF m 57 #[vA a1, vI 1, vI 1, vI c2] [])) := by
        intro T557 A557 nr556
        refine Run.st (T557.setTop (mkF m 60 #[vA a1, vI 1, vI 1, vI c2] [.int 48, .int c2])) (fun _ k => XS.iloadN A557.here hx rfl (hb hby d30_57) rfl (XS.bipush A557.here hx rfl (hb hby d30_58) k)) ?_
        have jn559 : ∀ (T559 : State), Wk true Z a0 EL n0 h0 [] "com/example/gate_to_handlers/gatetohandlers/MediaType" p l e rm_tok4 s m #[(.ref a1)] below meth c [] T559 h496 2 64 → (¬ (¬ c2 < (48 : Int32) ∧ ¬ (57 : Int32) < c2)) → Run p.tables e below (EndW Z EL s h0 [] n0 rm_tok4 (Q_tok4 Z a1 c1 c2 c3 c4 h0)) (T559.setTop (mkF m 69 #[vA a1, vI 1, vI 1, vI c2] [])) := by
          intro T559 A559 nr558
          obtain ⟨a560, b560, kA560, T560, h560, A560, E560, Ex560, Fc560, Fv560, Va560, ne560, st560⟩ := A559.ldc hx (tw83 H.1) (strsA H) (List.mem_of_getElem? (i := 0) rfl) (vs := (([(33 : Int32), (35 : Int32), (36 : Int32), (37 : Int32), (38 : Int32), (39 : Int32), (42 : Int32), (43 : Int32), (45 : Int32), (46 : Int32), (94 : Int32), (95 : Int32), (96 : Int32), (124 : Int32), (126 : Int32)] : List Int32).map fun c => c.toInt8.toInt32).map Value.int) (z := (15 : Int32)) ⟨by decide, by decide +kernel⟩ (by decide) (by decide +kernel) (g := (mkF m 69 #[vA a1, vI 1, vI 1, vI c2] [])) rfl (hb hby d30_69) (q := 60) (by decide) (by decide) (by decide) (by decide)
          have S560 : StrA Z h560 a560 [(33 : Int32), (35 : Int32), (36 : Int32), (37 : Int32), (38 : Int32), (39 : Int32), (42 : Int32), (43 : Int32), (45 : Int32), (46 : Int32), (94 : Int32), (95 : Int32), (96 : Int32), (124 : Int32), (126 : Int32)] := ⟨Ex560, Fc560, ⟨b560, kA560, Fv560, Va560⟩, by decide, by decide⟩
          refine Run.st (T560.setTop (mkF m 71 #[vA a1, vI 1, vI 1, vI c2] [(.ref a560)])) st560 ?_
          refine Run.st (T560.setTop (mkF m 72 #[vA a1, vI 1, vI 1, vI c2] [.int c2, (.ref a560)])) (fun _ k => XS.iloadN A560.here hx rfl (hb hby d30_71) rfl k) ?_
          obtain ⟨v561, T561, h561, AA561, K561, ⟨L561, Q561⟩, st561⟩ := A560.callV hx (y := (⟨"java/lang/String", "indexOf", "(I)I"⟩ : MethodName)) (z := (⟨"java/lang/String", "indexOf", "(I)I"⟩ : MethodName)) (tw84 H.1) (tw85 H.1) (tw87 H.1) (tw86 H.1) (nfSel (tw87 H.1)) (by decide) Ex560 (g := (mkF m 72 #[vA a1, vI 1, vI 1, vI c2] [.int c2, (.ref a560)])) rfl (by rw [hml]; rfl) [(.int c2)] [] (lenOf pd_11 rfl) rfl (Wd := 0) (Nat.le_refl _) (hb hby d30_72) (by decide) (by decide) [] (fun _ _ _ q => q.2) all0 (fun vm0 hZ => payN (ct_ix1 H a560 b560 _ c2 A560.old Ex560 Fc560 Fv560 Va560 r2) (tw88 H.1) (tw8 H.1) (by decide) (by decide) hZ)
          obtain ⟨Q561, N561, -⟩ := Q561
          obtain ⟨z561, rfl, q561, D561⟩ := Q561
          have q561 := q561.symm
          subst q561
          have A561 := AA561 [] all0
          refine Run.st (T561.setTop (mkF m 75 #[vA a1, vI 1, vI 1, vI c2] [.int z561])) st561 ?_
          by_cases c562 : z561 < (0 : Int32)
          · refine Run.st (T561.setTop (mkF m 91 #[vA a1, vI 0, vI 2, vI c2] [.int 0])) (fun _ k => XS.ifYes A561.here hx rfl (pc0 := 75) (pc' := 82) rfl (hb hby d30_75) rfl (by rw [if0]; exact (tlt c562).1) (by decide) (by decide) (XS.iconst A561.here hx rfl (hb hby d30_82) (XS.istoreN A561.here hx rfl (hb hby d30_83) rfl (l' := #[vA a1, vI 0, vI 1, vI c2]) rfl (XS.iinc A561.here hx rfl (hb hby d30_84) rfl (l' := #[vA a1, vI 0, vI 2, vI c2]) rfl (XS.goto A561.here hx rfl (pc0 := 87) (pc' := 15) rfl (hb hby d30_87) (by decide) (by decide) (XS.iloadN A561.here hx rfl (hb hby d30_15) rfl (XS.ifYes A561.here hx rfl (pc0 := 16) (pc' := 90) rfl (hb hby d30_16) rfl (by decide) (by decide) (by decide) (XS.iloadN A561.here hx rfl (hb hby d30_90) rfl k)))))))) ?_
            exact A561.leaveW hlk hh0 (some (.int (0 : Int32))) (fun q => by rw [hrt] at q; cases q) (by decide) (by decide) ⟨_, rfl, keepE A561.keep, Or.inr ⟨fun q => (D561.elim (fun d => absurd c562 d.2) (fun d => d.1)) ((q.1 c2 (List.mem_of_getElem? (i := 1) rfl)).elim (fun k => absurd k nr554) fun k => k.elim (fun k => absurd k nr556) fun k => k.elim (fun k => absurd k nr558) id), rfl⟩⟩ (fun X hr => retN X hx (t := .boolean) hrt (by simp) (hb hby d30_91) hr)
          · refine Run.st (T561.setTop (mkF m 15 #[vA a1, vI 1, vI 2, vI c2] [])) (fun _ k => XS.ifNo A561.here hx rfl (hb hby d30_75) rfl (by rw [if0]; exact (flt c562).1) (XS.iconst A561.here hx rfl (hb hby d30_78) (XS.goto A561.here hx rfl (pc0 := 79) (pc' := 83) rfl (hb hby d30_79) (by decide) (by decide) (XS.istoreN A561.here hx rfl (hb hby d30_83) rfl (l' := #[vA a1, vI 1, vI 1, vI c2]) rfl (XS.iinc A561.here hx rfl (hb hby d30_84) rfl (l' := #[vA a1, vI 1, vI 2, vI c2]) rfl (XS.goto A561.here hx rfl (pc0 := 87) (pc' := 15) rfl (hb hby d30_87) (by decide) (by decide) k)))))) ?_
            have X563 : Ext h496 h560 := E560
            exact jn503 T561 h560 (A561.mono (by decide) (by decide)) X563 (Or.inr (Or.inr (Or.inr (D561.elim (fun d => d.1) (fun d => absurd d.2 c562)))))
        by_cases c564 : c2 < (48 : Int32)
        · refine Run.st (T557.setTop (mkF m 69 #[vA a1, vI 1, vI 1, vI c2] [])) (fun _ k => XS.icmpYes A557.here hx rfl (pc0 := 60) (pc' := 69) rfl (hb hby d30_60) rfl (tlt c564).1 (by decide) (by decide) k) ?_
          exact jn559 T557 (A557.mono (by decide) (by decide)) (fun k => k.1 c564)
        · refine Run.st (T557.setTop (mkF m 66 #[vA a1, vI 1, vI 1, vI c2] [.int 57, .int c2])) (fun _ k => XS.icmpNo A557.here hx rfl (hb hby d30_60) rfl (flt c564).1 (XS.iloadN A557.here hx rfl (hb hby d30_63) rfl (XS.bipush A557.here hx rfl (hb hby d30_64) k))) ?_
          by_cases c565 : (57 : Int32) < c2
          · refine Run.st (T557.setTop (mkF m 69 #[vA a1, vI 1, vI 1, vI c2] [])) (fun _ k => XS.icmpNo A557.here hx rfl (hb hby d30_66) rfl (tlt c565).2.2.2 k) ?_
            exact jn559 T557 (A557.mono (by decide) (by decide)) (fun k => k.2 c565)
          · refine Run.st (T557.setTop (mkF m 15 #[vA a1, vI 1, vI 2, vI c2] [])) (fun _ k => XS.icmpYes A557.here hx rfl (pc0 := 66) (pc' := 78) rfl (hb hby d30_66) rfl (flt c565).2.2.2 (by decide) (by decide) (XS.iconst A557.here hx rfl (hb hby d30_78) (XS.goto A557.here hx rfl (pc0 := 79) (pc' := 83) rfl (hb hby d30_79) (by decide) (by decide) (XS.istoreN A557.here hx rfl (hb hby d30_83) rfl (l' := #[vA a1, vI 1, vI 1, vI c2]) rfl (XS.iinc A557.here hx rfl (hb hby d30_84) rfl (l' := #[vA a1, vI 1, vI 2, vI c2]) rfl (XS.goto A557.here hx rfl (pc0 := 87) (pc' := 15) rfl (hb hby d30_87) (by decide) (by decide) k)))))) ?_
            exact jn503 T557 h496 (A557.mono (by decide) (by decide)) (extR h496) ((Or.inr ((Or.inr (Or.inl ⟨c564, c565⟩)))))
      by_cases c566 : c2 < (65 : Int32)
      · refine Run.st (T555.setTop (mkF m 57 #[vA a1, vI 1, vI 1, vI c2] [])) (fun _ k => XS.icmpYes A555.here hx rfl (pc0 := 48) (pc' := 57) rfl (hb hby d30_48) rfl (tlt c566).1 (by decide) (by decide) k) ?_
        exact jn557 T555 (A555.mono (by decide) (by decide)) (fun k => k.1 c566)
      · refine Run.st (T555.setTop (mkF m 54 #[vA a1, vI 1, vI 1, vI c2] [.int 90, .int c2])) (fun _ k => XS.icmpNo A555.here hx rfl (hb hby d30_48) rfl (flt c566).1 (XS.iloadN A555.here hx rfl (hb hby d30_51) rfl (XS.bipush A555.here hx rfl (hb hby d30_52) k))) ?_
        by_cases c567 : (90 : Int32) < c2
        · refine Run.st (T555.setTop (mkF m 57 #[vA a1, vI 1, vI 1, vI c2] [])) (fun _ k => XS.icmpNo A555.here hx rfl (hb hby d30_54) rfl (tlt c567).2.2.2 k) ?_
          exact jn557 T555 (A555.mono (by decide) (by decide)) (fun k => k.2 c567)
        · refine Run.st (T555.setTop (mkF m 15 #[vA a1, vI 1, vI 2, vI c2] [])) (fun _ k => XS.icmpYes A555.here hx rfl (pc0 := 54) (pc' := 78) rfl (hb hby d30_54) rfl (flt c567).2.2.2 (by decide) (by decide) (XS.iconst A555.here hx rfl (hb hby d30_78) (XS.goto A555.here hx rfl (pc0 := 79) (pc' := 83) rfl (hb hby d30_79) (by decide) (by decide) (XS.istoreN A555.here hx rfl (hb hby d30_83) rfl (l' := #[vA a1, vI 1, vI 1, vI c2]) rfl (XS.iinc A555.here hx rfl (hb hby d30_84) rfl (l' := #[vA a1, vI 1, vI 2, vI c2]) rfl (XS.goto A555.here hx rfl (pc0 := 87) (pc' := 15) rfl (hb hby d30_87) (by decide) (by decide) k)))))) ?_
          exact jn503 T555 h496 (A555.mono (by decide) (by decide)) (extR h496) ((Or.inr (Or.inl ⟨c566, c567⟩)))
    by_cases c568 : c2 < (97 : Int32)
    · refine Run.st (T501.setTop (mkF m 45 #[vA a1, vI 1, vI 1, vI c2] [])) (fun _ k => XS.icmpYes A501.here hx rfl (pc0 := 36) (pc' := 45) rfl (hb hby d30_36) rfl (tlt c568).1 (by decide) (by decide) k) ?_
      exact jn555 T501 (A501.mono (by decide) (by decide)) (fun k => k.1 c568)
    · refine Run.st (T501.setTop (mkF m 42 #[vA a1, vI 1, vI 1, vI c2] [.int 122, .int c2])) (fun _ k => XS.icmpNo A501.here hx rfl (hb hby d30_36) rfl (flt c568).1 (XS.iloadN A501.here hx rfl (hb hby d30_39) rfl (XS.bipush A501.here hx rfl (hb hby d30_40) k))) ?_
      by_cases c569 : (122 : Int32) < c2
      · refine Run.st (T501.setTop (mkF m 45 #[vA a1, vI 1, vI 1, vI c2] [])) (fun _ k => XS.icmpNo A501.here hx rfl (hb hby d30_42) rfl (tlt c569).2.2.2 k) ?_
        exact jn555 T501 (A501.mono (by decide) (by decide)) (fun k => k.2 c569)
      · refine Run.st (T501.setTop (mkF m 15 #[vA a1, vI 1, vI 2, vI c2] [])) (fun _ k => XS.icmpYes A501.here hx rfl (pc0 := 42) (pc' := 78) rfl (hb hby d30_42) rfl (flt c569).2.2.2 (by decide) (by decide) (XS.iconst A501.here hx rfl (hb hby d30_78) (XS.goto A501.here hx rfl (pc0 := 79) (pc' := 83) rfl (hb hby d30_79) (by decide) (by decide) (XS.istoreN A501.here hx rfl (hb hby d30_83) rfl (l' := #[vA a1, vI 1, vI 1, vI c2]) rfl (XS.iinc A501.here hx rfl (hb hby d30_84) rfl (l' := #[vA a1, vI 1, vI 2, vI c2]) rfl (XS.goto A501.here hx rfl (pc0 := 87) (pc' := 15) rfl (hb hby d30_87) (by decide) (by decide) k)))))) ?_
        exact jn503 T501 h496 (A501.mono (by decide) (by decide)) (extR h496) (Or.inl ⟨c568, c569⟩)
  refine Run.st (T494.setTop (mkF m 36 #[vA a1, vI 1, vI 0, vI c1] [.int 97, .int c1])) (fun _ k => XS.iloadN A494.here hx rfl (hb hby d30_33) rfl (XS.bipush A494.here hx rfl (hb hby d30_34) k)) ?_
  have jn571 : ∀ (T571 : State), Wk true Z a0 EL n0 h0 [] "com/example/gate_to_handlers/gatetohandlers/MediaType" p l e rm_tok4 s m #[(.ref a1)] below meth c [] T571 h0 0 0 → (¬ (¬ c1 < (97 : Int32) ∧ ¬ (122 : Int32) < c1)) → Run p.tables e below (EndW Z EL s h0 [] n0 rm_tok4 (Q_tok4 Z a1 c1 c2 c3 c4 h0)) (T571.setTop (mkF m 45 #[vA a1, vI 1, vI 0, vI c1] [])) := by
    intro T571 A571 nr570
    refine Run.st (T571.setTop (mkF m 48 #[vA a1, vI 1, vI 0, vI c1] [.int 65, .int c1])) (fun _ k => XS.iloadN A571.here hx rfl (hb hby d30_45) rfl (XS.bipush A571.here hx rfl (hb hby d30_46) k)) ?_
    have jn573 : ∀ (T573 : State), Wk true Z a0 EL n0 h0 [] "com/example/gate_to_handlers/gatetohandlers/MediaType" p l e rm_tok4 s m #[(.ref a1)] below meth c [] T573 h0 0 0 → (¬ (¬ c1 < (65 : Int32) ∧ ¬ (90 : Int32) < c1)) → Run p.tables e below (EndW Z EL s h0 [] n0 rm_tok4 (Q_tok4 Z a1 c1 c2 c3 c4 h0)) (T573.setTop (mkF m 57 #[vA a1, vI 1, vI 0, vI c1] [])) := by
      intro T573 A573 nr572
      refine Run.st (T573.setTop (mkF m 60 #[vA a1, vI 1, vI 0, vI c1] [.int 48, .int c1])) (fun _ k => XS.iloadN A573.here hx rfl (hb hby d30_57) rfl (XS.bipush A573.here hx rfl (hb hby d30_58) k)) ?_
      have jn575 : ∀ (T575 : State), Wk true Z a0 EL n0 h0 [] "com/example/gate_to_handlers/gatetohandlers/MediaType" p l e rm_tok4 s m #[(.ref a1)] below meth c [] T575 h0 0 0 → (¬ (¬ c1 < (48 : Int32) ∧ ¬ (57 : Int32) < c1)) → Run p.tables e below (EndW Z EL s h0 [] n0 rm_tok4 (Q_tok4 Z a1 c1 c2 c3 c4 h0)) (T575.setTop (mkF m 69 #[vA a1, vI 1, vI 0, vI c1] [])) := by
        intro T575 A575 nr574
        obtain ⟨a576, b576, kA576, T576, h576, A576, E576, Ex576, Fc576, Fv576, Va576, ne576, st576⟩ := A575.ldc hx (tw83 H.1) (strsA H) (List.mem_of_getElem? (i := 0) rfl) (vs := (([(33 : Int32), (35 : Int32), (36 : Int32), (37 : Int32), (38 : Int32), (39 : Int32), (42 : Int32), (43 : Int32), (45 : Int32), (46 : Int32), (94 : Int32), (95 : Int32), (96 : Int32), (124 : Int32), (126 : Int32)] : List Int32).map fun c => c.toInt8.toInt32).map Value.int) (z := (15 : Int32)) ⟨by decide, by decide +kernel⟩ (by decide) (by decide +kernel) (g := (mkF m 69 #[vA a1, vI 1, vI 0, vI c1] [])) rfl (hb hby d30_69) (q := 60) (by decide) (by decide) (by decide) (by decide)
        have S576 : StrA Z h576 a576 [(33 : Int32), (35 : Int32), (36 : Int32), (37 : Int32), (38 : Int32), (39 : Int32), (42 : Int32), (43 : Int32), (45 : Int32), (46 : Int32), (94 : Int32), (95 : Int32), (96 : Int32), (124 : Int32), (126 : Int32)] := ⟨Ex576, Fc576, ⟨b576, kA576, Fv576, Va576⟩, by decide, by decide⟩
        refine Run.st (T576.setTop (mkF m 71 #[vA a1, vI 1, vI 0, vI c1] [(.ref a576)])) st576 ?_
        refine Run.st (T576.setTop (mkF m 72 #[vA a1, vI 1, vI 0, vI c1] [.int c1, (.ref a576)])) (fun _ k => XS.iloadN A576.here hx rfl (hb hby d30_71) rfl k) ?_
        obtain ⟨v577, T577, h577, AA577, K577, ⟨L577, Q577⟩, st577⟩ := A576.callV hx (y := (⟨"java/lang/String", "indexOf", "(I)I"⟩ : MethodName)) (z := (⟨"java/lang/String", "indexOf", "(I)I"⟩ : MethodName)) (tw84 H.1) (tw85 H.1) (tw87 H.1) (tw86 H.1) (nfSel (tw87 H.1)) (by decide) Ex576 (g := (mkF m 72 #[vA a1, vI 1, vI 0, vI c1] [.int c1, (.ref a576)])) rfl (by rw [hml]; rfl) [(.int c1)] [] (lenOf pd_11 rfl) rfl (Wd := 0) (Nat.le_refl _) (hb hby d30_72) (by decide) (by decide) [] (fun _ _ _ q => q.2) all0 (fun vm0 hZ => payN (ct_ix1 H a576 b576 _ c1 A576.old Ex576 Fc576 Fv576 Va576 r1) (tw88 H.1) (tw8 H.1) (by decide) (by decide) hZ)
        obtain ⟨Q577, N577, -⟩ := Q577
        obtain ⟨z577, rfl, q577, D577⟩ := Q577
        have q577 := q577.symm
        subst q577
        have A577 := AA577 [] all0
        refine Run.st (T577.setTop (mkF m 75 #[vA a1, vI 1, vI 0, vI c1] [.int z577])) st577 ?_
        by_cases c578 : z577 < (0 : Int32)
        · refine Run.st (T577.setTop (mkF m 91 #[vA a1, vI 0, vI 1, vI c1] [.int 0])) (fun _ k => XS.ifYes A577.here hx rfl (pc0 := 75) (pc' := 82) rfl (hb hby d30_75) rfl (by rw [if0]; exact (tlt c578).1) (by decide) (by decide) (XS.iconst A577.here hx rfl (hb hby d30_82) (XS.istoreN A577.here hx rfl (hb hby d30_83) rfl (l' := #[vA a1, vI 0, vI 0, vI c1]) rfl (XS.iinc A577.here hx rfl (hb hby d30_84) rfl (l' := #[vA a1, vI 0, vI 1, vI c1]) rfl (XS.goto A577.here hx rfl (pc0 := 87) (pc' := 15) rfl (hb hby d30_87) (by decide) (by decide) (XS.iloadN A577.here hx rfl (hb hby d30_15) rfl (XS.ifYes A577.here hx rfl (pc0 := 16) (pc' := 90) rfl (hb hby d30_16) rfl (by decide) (by decide) (by decide) (XS.iloadN A577.here hx rfl (hb hby d30_90) rfl k)))))))) ?_
          exact A577.leaveW hlk hh0 (some (.int (0 : Int32))) (fun q => by rw [hrt] at q; cases q) (by decide) (by decide) ⟨_, rfl, keepE A577.keep, Or.inr ⟨fun q => (D577.elim (fun d => absurd c578 d.2) (fun d => d.1)) ((q.1 c1 (List.mem_of_getElem? (i := 0) rfl)).elim (fun k => absurd k nr570) fun k => k.elim (fun k => absurd k nr572) fun k => k.elim (fun k => absurd k nr574) id), rfl⟩⟩ (fun X hr => retN X hx (t := .boolean) hrt (by simp) (hb hby d30_91) hr)
        · refine Run.st (T577.setTop (mkF m 15 #[vA a1, vI 1, vI 1, vI c1] [])) (fun _ k => XS.ifNo A577.here hx rfl (hb hby d30_75) rfl (by rw [if0]; exact (flt c578).1) (XS.iconst A577.here hx rfl (hb hby d30_78) (XS.goto A577.here hx rfl (pc0 := 79) (pc' := 83) rfl (hb hby d30_79) (by decide) (by decide) (XS.istoreN A577.here hx rfl (hb hby d30_83) rfl (l' := #[vA a1, vI 1, vI 0, vI c1]) rfl (XS.iinc A577.here hx rfl (hb hby d30_84) rfl (l' := #[vA a1, vI 1, vI 1, vI c1]) rfl (XS.goto A577.here hx rfl (pc0 := 87) (pc' := 15) rfl (hb hby d30_87) (by decide) (by decide) k)))))) ?_
          have X579 : Ext h0 h576 := E576
          exact jn496 T577 h576 (A577.mono (by decide) (by decide)) X579 (Or.inr (Or.inr (Or.inr (D577.elim (fun d => d.1) (fun d => absurd d.2 c578)))))
      by_cases c580 : c1 < (48 : Int32)
      · refine Run.st (T573.setTop (mkF m 69 #[vA a1, vI 1, vI 0, vI c1] [])) (fun _ k => XS.icmpYes A573.here hx rfl (pc0 := 60) (pc' := 69) rfl (hb hby d30_60) rfl (tlt c580).1 (by decide) (by decide) k) ?_
        exact jn575 T573 (A573.mono (by decide) (by decide)) (fun k => k.1 c580)
      · refine Run.st (T573.setTop (mkF m 66 #[vA a1, vI 1, vI 0, vI c1] [.int 57, .int c1])) (fun _ k => XS.icmpNo A573.here hx rfl (hb hby d30_60) rfl (flt c580).1 (XS.iloadN A573.here hx rfl (hb hby d30_63) rfl (XS.bipush A573.here hx rfl (hb hby d30_64) k))) ?_
        by_cases c581 : (57 : Int32) < c1
        · refine Run.st (T573.setTop (mkF m 69 #[vA a1, vI 1, vI 0, vI c1] [])) (fun _ k => XS.icmpNo A573.here hx rfl (hb hby d30_66) rfl (tlt c581).2.2.2 k) ?_
          exact jn575 T573 (A573.mono (by decide) (by decide)) (fun k => k.2 c581)
        · refine Run.st (T573.setTop (mkF m 15 #[vA a1, vI 1, vI 1, vI c1] [])) (fun _ k => XS.icmpYes A573.here hx rfl (pc0 := 66) (pc' := 78) rfl (hb hby d30_66) rfl (flt c581).2.2.2 (by decide) (by decide) (XS.iconst A573.here hx rfl (hb hby d30_78) (XS.goto A573.here hx rfl (pc0 := 79) (pc' := 83) rfl (hb hby d30_79) (by decide) (by decide) (XS.istoreN A573.here hx rfl (hb hby d30_83) rfl (l' := #[vA a1, vI 1, vI 0, vI c1]) rfl (XS.iinc A573.here hx rfl (hb hby d30_84) rfl (l' := #[vA a1, vI 1, vI 1, vI c1]) rfl (XS.goto A573.here hx rfl (pc0 := 87) (pc' := 15) rfl (hb hby d30_87) (by decide) (by decide) k)))))) ?_
          exact jn496 T573 h0 (A573.mono (by decide) (by decide)) (extR h0) ((Or.inr ((Or.inr (Or.inl ⟨c580, c581⟩)))))
    by_cases c582 : c1 < (65 : Int32)
    · refine Run.st (T571.setTop (mkF m 57 #[vA a1, vI 1, vI 0, vI c1] [])) (fun _ k => XS.icmpYes A571.here hx rfl (pc0 := 48) (pc' := 57) rfl (hb hby d30_48) rfl (tlt c582).1 (by decide) (by decide) k) ?_
      exact jn573 T571 (A571.mono (by decide) (by decide)) (fun k => k.1 c582)
    · refine Run.st (T571.setTop (mkF m 54 #[vA a1, vI 1, vI 0, vI c1] [.int 90, .int c1])) (fun _ k => XS.icmpNo A571.here hx rfl (hb hby d30_48) rfl (flt c582).1 (XS.iloadN A571.here hx rfl (hb hby d30_51) rfl (XS.bipush A571.here hx rfl (hb hby d30_52) k))) ?_
      by_cases c583 : (90 : Int32) < c1
      · refine Run.st (T571.setTop (mkF m 57 #[vA a1, vI 1, vI 0, vI c1] [])) (fun _ k => XS.icmpNo A571.here hx rfl (hb hby d30_54) rfl (tlt c583).2.2.2 k) ?_
        exact jn573 T571 (A571.mono (by decide) (by decide)) (fun k => k.2 c583)
      · refine Run.st (T571.setTop (mkF m 15 #[vA a1, vI 1, vI 1, vI c1] [])) (fun _ k => XS.icmpYes A571.here hx rfl (pc0 := 54) (pc' := 78) rfl (hb hby d30_54) rfl (flt c583).2.2.2 (by decide) (by decide) (XS.iconst A571.here hx rfl (hb hby d30_78) (XS.goto A571.here hx rfl (pc0 := 79) (pc' := 83) rfl (hb hby d30_79) (by decide) (by decide) (XS.istoreN A571.here hx rfl (hb hby d30_83) rfl (l' := #[vA a1, vI 1, vI 0, vI c1]) rfl (XS.iinc A571.here hx rfl (hb hby d30_84) rfl (l' := #[vA a1, vI 1, vI 1, vI c1]) rfl (XS.goto A571.here hx rfl (pc0 := 87) (pc' := 15) rfl (hb hby d30_87) (by decide) (by decide) k)))))) ?_
        exact jn496 T571 h0 (A571.mono (by decide) (by decide)) (extR h0) ((Or.inr (Or.inl ⟨c582, c583⟩)))
  by_cases c584 : c1 < (97 : Int32)
  · refine Run.st (T494.setTop (mkF m 45 #[vA a1, vI 1, vI 0, vI c1] [])) (fun _ k => XS.icmpYes A494.here hx rfl (pc0 := 36) (pc' := 45) rfl (hb hby d30_36) rfl (tlt c584).1 (by decide) (by decide) k) ?_
    exact jn571 T494 (A494.mono (by decide) (by decide)) (fun k => k.1 c584)
  · refine Run.st (T494.setTop (mkF m 42 #[vA a1, vI 1, vI 0, vI c1] [.int 122, .int c1])) (fun _ k => XS.icmpNo A494.here hx rfl (hb hby d30_36) rfl (flt c584).1 (XS.iloadN A494.here hx rfl (hb hby d30_39) rfl (XS.bipush A494.here hx rfl (hb hby d30_40) k))) ?_
    by_cases c585 : (122 : Int32) < c1
    · refine Run.st (T494.setTop (mkF m 45 #[vA a1, vI 1, vI 0, vI c1] [])) (fun _ k => XS.icmpNo A494.here hx rfl (hb hby d30_42) rfl (tlt c585).2.2.2 k) ?_
      exact jn571 T494 (A494.mono (by decide) (by decide)) (fun k => k.2 c585)
    · refine Run.st (T494.setTop (mkF m 15 #[vA a1, vI 1, vI 1, vI c1] [])) (fun _ k => XS.icmpYes A494.here hx rfl (pc0 := 42) (pc' := 78) rfl (hb hby d30_42) rfl (flt c585).2.2.2 (by decide) (by decide) (XS.iconst A494.here hx rfl (hb hby d30_78) (XS.goto A494.here hx rfl (pc0 := 79) (pc' := 83) rfl (hb hby d30_79) (by decide) (by decide) (XS.istoreN A494.here hx rfl (hb hby d30_83) rfl (l' := #[vA a1, vI 1, vI 0, vI c1]) rfl (XS.iinc A494.here hx rfl (hb hby d30_84) rfl (l' := #[vA a1, vI 1, vI 1, vI c1]) rfl (XS.goto A494.here hx rfl (pc0 := 87) (pc' := 15) rfl (hb hby d30_87) (by decide) (by decide) k)))))) ?_
      exact jn496 T494 h0 (A494.mono (by decide) (by decide)) (extR h0) (Or.inl ⟨c584, c585⟩)
theorem ef_law (m : MethodId) (y0 : Int32) (y1 : Int32) (y2 : Int32) (y3 : Int32) (y4 : Int32) : entryFrame m #[(.int y0), (.int y1), (.int y2), (.int y3), (.int y4)] maxLocals = mkF m 0 #[vI y0, vI y1, vI y2, vI y3, vI y4, .unset, .unset, .unset, .unset, .unset, .unset, .unset] [] := by first | (simp [entryFrame, mkF, argsToLocals, vI, vA, Value.category, maxLocals]; done) | rfl
def Q_law (Z : State) (i0 : Int32) (i1 : Int32) (i2 : Int32) (i3 : Int32) (i4 : Int32) (h0 : Heap) (v : Option Value) (h : Heap) : Prop := v = some (.int 1)
set_option maxRecDepth 65536 in
set_option maxHeartbeats 40000000 in
theorem ct_law {l : Launch} {Z : State} {a0 : Array Value} (H : Ev Z a0) (i0 : Int32) (i1 : Int32) (i2 : Int32) (i3 : Int32) (i4 : Int32) {h0 : Heap} {n0 : Nat} (O0 : Old Z n0 h0) : CtrW l Z EL x code maxLocals ret tables_1 room_1 #[(.int i0), (.int i1), (.int i2), (.int i3), (.int i4)] h0 [] n0 (Q_law Z i0 i1 i2 i3 i4 h0) := by
  refine enterW (a0 := a0) (plainFor_of_name pn_0) (elA H) O0 all0 ?_
  intro p e s m below meth c T0 hx hby hml hrt hnm hlk hh0 A0
  replace A0 : Wk true Z a0 EL n0 h0 [] "com/example/gate_to_handlers/gatetohandlers/MediaTypeIsTokenPinLaw" p l e room_1 s m #[(.int i0), (.int i1), (.int i2), (.int i3), (.int i4)] below meth c [] T0 h0 0 0 := A0
  refine Run.st (T0.setTop (mkF m 0 #[vI i0, vI i1, vI i2, vI i3, vI i4, .unset, .unset, .unset, .unset, .unset, .unset, .unset] [])) (fun _ k => castTop (ef_law m i0 i1 i2 i3 i4) k) ?_
  refine Run.st (T0.setTop (mkF m 1 #[vI i0, vI i1, vI i2, vI i3, vI i4, .unset, .unset, .unset, .unset, .unset, .unset, .unset] [.int i0])) (fun _ k => XS.iloadN A0.here hx rfl (hb hby at_0) rfl k) ?_
  refine Run.st (T0.setTop (mkF m 3 #[vI i0, vI i1, vI i2, vI i3, vI i4, .unset, .unset, .unset, .unset, .unset, .unset, .unset] [.int 2147483647, .int i0])) (A0.ldcI hx (tw0 H.1) (g := (mkF m 1 #[vI i0, vI i1, vI i2, vI i3, vI i4, .unset, .unset, .unset, .unset, .unset, .unset, .unset] [.int i0])) rfl (hb hby at_1)) ?_
  refine Run.st (T0.setTop (mkF m 9 #[vI i0, vI i1, vI i2, vI i3, vI i4, vI ((i0 &&& (2147483647 : Int32)) - ((i0 &&& (2147483647 : Int32)) / (5 : Int32)) * (5 : Int32)), .unset, .unset, .unset, .unset, .unset, .unset] [.int i1])) (fun _ k => XS.iand A0.here hx rfl (hb hby at_3) rfl (XS.iconst A0.here hx rfl (hb hby at_4) (XS.irem A0.here hx rfl (hb hby at_5) rfl (by decide) (XS.istore A0.here hx rfl (hb hby at_6) rfl (l' := #[vI i0, vI i1, vI i2, vI i3, vI i4, vI ((i0 &&& (2147483647 : Int32)) - ((i0 &&& (2147483647 : Int32)) / (5 : Int32)) * (5 : Int32)), .unset, .unset, .unset, .unset, .unset, .unset]) rfl (XS.iloadN A0.here hx rfl (hb hby at_8) rfl k))))) ?_
  obtain ⟨v586, T586, h586, AA586, K586, ⟨L586, Q586⟩, st586⟩ := A0.callS hx (tw1 H.1) (tw2 H.1) (tw3 H.1) (tw4 H.1) (by decide) (g := (mkF m 9 #[vI i0, vI i1, vI i2, vI i3, vI i4, vI ((i0 &&& (2147483647 : Int32)) - ((i0 &&& (2147483647 : Int32)) / (5 : Int32)) * (5 : Int32)), .unset, .unset, .unset, .unset, .unset, .unset] [.int i1])) rfl (by rw [hml]; rfl) [(.int i1)] [] (lenOf pd_18 rfl) rfl (Wd := 0) (Nat.le_refl _) (hb hby at_9) (by decide) (by decide) [] (fun _ _ _ q => q.2) all0 (fun vm0 hZ => payN (ct_draw H i1 A0.old) (tw4 H.1) (tw3 H.1) (by decide) (by decide) hZ)
  obtain ⟨Q586, N586, -⟩ := Q586
  obtain ⟨z586, rfl, q586, D586⟩ := Q586
  have q586 := q586.symm
  subst q586
  have A586 := AA586 [] all0
  refine Run.st (T586.setTop (mkF m 12 #[vI i0, vI i1, vI i2, vI i3, vI i4, vI ((i0 &&& (2147483647 : Int32)) - ((i0 &&& (2147483647 : Int32)) / (5 : Int32)) * (5 : Int32)), .unset, .unset, .unset, .unset, .unset, .unset] [.int z586])) st586 ?_
  refine Run.st (T586.setTop (mkF m 15 #[vI i0, vI i1, vI i2, vI i3, vI i4, vI ((i0 &&& (2147483647 : Int32)) - ((i0 &&& (2147483647 : Int32)) / (5 : Int32)) * (5 : Int32)), vI z586, .unset, .unset, .unset, .unset, .unset] [.int i2])) (fun _ k => XS.istore A586.here hx rfl (hb hby at_12) rfl (l' := #[vI i0, vI i1, vI i2, vI i3, vI i4, vI ((i0 &&& (2147483647 : Int32)) - ((i0 &&& (2147483647 : Int32)) / (5 : Int32)) * (5 : Int32)), vI z586, .unset, .unset, .unset, .unset, .unset]) rfl (XS.iloadN A586.here hx rfl (hb hby at_14) rfl k)) ?_
  obtain ⟨v587, T587, h587, AA587, K587, ⟨L587, Q587⟩, st587⟩ := A586.callS hx (tw1 H.1) (tw2 H.1) (tw3 H.1) (tw4 H.1) (by decide) (g := (mkF m 15 #[vI i0, vI i1, vI i2, vI i3, vI i4, vI ((i0 &&& (2147483647 : Int32)) - ((i0 &&& (2147483647 : Int32)) / (5 : Int32)) * (5 : Int32)), vI z586, .unset, .unset, .unset, .unset, .unset] [.int i2])) rfl (by rw [hml]; rfl) [(.int i2)] [] (lenOf pd_18 rfl) rfl (Wd := 0) (Nat.le_refl _) (hb hby at_15) (by decide) (by decide) [] (fun _ _ _ q => q.2) all0 (fun vm0 hZ => payN (ct_draw H i2 A586.old) (tw4 H.1) (tw3 H.1) (by decide) (by decide) hZ)
  obtain ⟨Q587, N587, -⟩ := Q587
  obtain ⟨z587, rfl, q587, D587⟩ := Q587
  have q587 := q587.symm
  subst q587
  have A587 := AA587 [] all0
  refine Run.st (T587.setTop (mkF m 18 #[vI i0, vI i1, vI i2, vI i3, vI i4, vI ((i0 &&& (2147483647 : Int32)) - ((i0 &&& (2147483647 : Int32)) / (5 : Int32)) * (5 : Int32)), vI z586, .unset, .unset, .unset, .unset, .unset] [.int z587])) st587 ?_
  refine Run.st (T587.setTop (mkF m 21 #[vI i0, vI i1, vI i2, vI i3, vI i4, vI ((i0 &&& (2147483647 : Int32)) - ((i0 &&& (2147483647 : Int32)) / (5 : Int32)) * (5 : Int32)), vI z586, vI z587, .unset, .unset, .unset, .unset] [.int i3])) (fun _ k => XS.istore A587.here hx rfl (hb hby at_18) rfl (l' := #[vI i0, vI i1, vI i2, vI i3, vI i4, vI ((i0 &&& (2147483647 : Int32)) - ((i0 &&& (2147483647 : Int32)) / (5 : Int32)) * (5 : Int32)), vI z586, vI z587, .unset, .unset, .unset, .unset]) rfl (XS.iloadN A587.here hx rfl (hb hby at_20) rfl k)) ?_
  obtain ⟨v588, T588, h588, AA588, K588, ⟨L588, Q588⟩, st588⟩ := A587.callS hx (tw1 H.1) (tw2 H.1) (tw3 H.1) (tw4 H.1) (by decide) (g := (mkF m 21 #[vI i0, vI i1, vI i2, vI i3, vI i4, vI ((i0 &&& (2147483647 : Int32)) - ((i0 &&& (2147483647 : Int32)) / (5 : Int32)) * (5 : Int32)), vI z586, vI z587, .unset, .unset, .unset, .unset] [.int i3])) rfl (by rw [hml]; rfl) [(.int i3)] [] (lenOf pd_18 rfl) rfl (Wd := 0) (Nat.le_refl _) (hb hby at_21) (by decide) (by decide) [] (fun _ _ _ q => q.2) all0 (fun vm0 hZ => payN (ct_draw H i3 A587.old) (tw4 H.1) (tw3 H.1) (by decide) (by decide) hZ)
  obtain ⟨Q588, N588, -⟩ := Q588
  obtain ⟨z588, rfl, q588, D588⟩ := Q588
  have q588 := q588.symm
  subst q588
  have A588 := AA588 [] all0
  refine Run.st (T588.setTop (mkF m 24 #[vI i0, vI i1, vI i2, vI i3, vI i4, vI ((i0 &&& (2147483647 : Int32)) - ((i0 &&& (2147483647 : Int32)) / (5 : Int32)) * (5 : Int32)), vI z586, vI z587, .unset, .unset, .unset, .unset] [.int z588])) st588 ?_
  refine Run.st (T588.setTop (mkF m 28 #[vI i0, vI i1, vI i2, vI i3, vI i4, vI ((i0 &&& (2147483647 : Int32)) - ((i0 &&& (2147483647 : Int32)) / (5 : Int32)) * (5 : Int32)), vI z586, vI z587, vI z588, .unset, .unset, .unset] [.int i4])) (fun _ k => XS.istore A588.here hx rfl (hb hby at_24) rfl (l' := #[vI i0, vI i1, vI i2, vI i3, vI i4, vI ((i0 &&& (2147483647 : Int32)) - ((i0 &&& (2147483647 : Int32)) / (5 : Int32)) * (5 : Int32)), vI z586, vI z587, vI z588, .unset, .unset, .unset]) rfl (XS.iload A588.here hx rfl (hb hby at_26) rfl k)) ?_
  obtain ⟨v589, T589, h589, AA589, K589, ⟨L589, Q589⟩, st589⟩ := A588.callS hx (tw1 H.1) (tw2 H.1) (tw3 H.1) (tw4 H.1) (by decide) (g := (mkF m 28 #[vI i0, vI i1, vI i2, vI i3, vI i4, vI ((i0 &&& (2147483647 : Int32)) - ((i0 &&& (2147483647 : Int32)) / (5 : Int32)) * (5 : Int32)), vI z586, vI z587, vI z588, .unset, .unset, .unset] [.int i4])) rfl (by rw [hml]; rfl) [(.int i4)] [] (lenOf pd_18 rfl) rfl (Wd := 0) (Nat.le_refl _) (hb hby at_28) (by decide) (by decide) [] (fun _ _ _ q => q.2) all0 (fun vm0 hZ => payN (ct_draw H i4 A588.old) (tw4 H.1) (tw3 H.1) (by decide) (by decide) hZ)
  obtain ⟨Q589, N589, -⟩ := Q589
  obtain ⟨z589, rfl, q589, D589⟩ := Q589
  have q589 := q589.symm
  subst q589
  have A589 := AA589 [] all0
  refine Run.st (T589.setTop (mkF m 31 #[vI i0, vI i1, vI i2, vI i3, vI i4, vI ((i0 &&& (2147483647 : Int32)) - ((i0 &&& (2147483647 : Int32)) / (5 : Int32)) * (5 : Int32)), vI z586, vI z587, vI z588, .unset, .unset, .unset] [.int z589])) st589 ?_
  refine Run.st (T589.setTop (mkF m 35 #[vI i0, vI i1, vI i2, vI i3, vI i4, vI ((i0 &&& (2147483647 : Int32)) - ((i0 &&& (2147483647 : Int32)) / (5 : Int32)) * (5 : Int32)), vI z586, vI z587, vI z588, vI z589, .unset, .unset] [.int ((i0 &&& (2147483647 : Int32)) - ((i0 &&& (2147483647 : Int32)) / (5 : Int32)) * (5 : Int32))])) (fun _ k => XS.istore A589.here hx rfl (hb hby at_31) rfl (l' := #[vI i0, vI i1, vI i2, vI i3, vI i4, vI ((i0 &&& (2147483647 : Int32)) - ((i0 &&& (2147483647 : Int32)) / (5 : Int32)) * (5 : Int32)), vI z586, vI z587, vI z588, vI z589, .unset, .unset]) rfl (XS.iload A589.here hx rfl (hb hby at_33) rfl k)) ?_
  rcases rem5 i0 with hn | hn | hn | hn | hn
  · rw [hn]
    refine Run.st (T589.setTop (mkF m 38 #[vI i0, vI i1, vI i2, vI i3, vI i4, vI 0, vI z586, vI z587, vI z588, vI z589, .unset, .unset] [])) (fun _ k => XS.ifNo A589.here hx rfl (hb hby at_35) rfl (by decide) k) ?_
    obtain ⟨a590, T590, h590, A590, E590, g590, Ex590, D590, st590⟩ := A589.newO hx (tw6 H.1) (tw7 H.1) (tw8 H.1) (g := (mkF m 38 #[vI i0, vI i1, vI i2, vI i3, vI i4, vI 0, vI z586, vI z587, vI z588, vI z589, .unset, .unset] [])) rfl (hb hby at_38) (by decide) (by decide)
    refine Run.st (T590.setTop (mkF m 41 #[vI i0, vI i1, vI i2, vI i3, vI i4, vI 0, vI z586, vI z587, vI z588, vI z589, .unset, .unset] [(.ref a590)])) st590 ?_
    refine Run.st (T590.setTop (mkF m 43 #[vI i0, vI i1, vI i2, vI i3, vI i4, vI 0, vI z586, vI z587, vI z588, vI z589, .unset, .unset] [.int 0, (.ref a590), (.ref a590)])) (fun _ k => XS.dup A590.here hx rfl (hb hby at_41) rfl rfl (XS.iconst A590.here hx rfl (hb hby at_42) k)) ?_
    obtain ⟨a591, T591, h591, kA591, A591, E591, g591, V591, st591⟩ := A590.newP hx (aty := .char) (N := (0 : Int32)) (tw9 H.1) (g := (mkF m 43 #[vI i0, vI i1, vI i2, vI i3, vI i4, vI 0, vI z586, vI z587, vI z588, vI z589, .unset, .unset] [.int 0, (.ref a590), (.ref a590)])) rfl (hb hby at_43) rfl (by decide) (cap := 0) (by decide) (by decide) (by decide) (by decide)
    refine Run.st (T591.setTop (mkF m 45 #[vI i0, vI i1, vI i2, vI i3, vI i4, vI 0, vI z586, vI z587, vI z588, vI z589, .unset, .unset] [(.ref a591), (.ref a590), (.ref a590)])) st591 ?_
    have F593 : Fld Z h590 a590 "java/lang/String" "value" "[B" .null := D590 (Or.inr (tw22 H.1)) (ty := (.array .byte)) (by decide)
    have F594 : Fld Z h590 a590 "java/lang/String" "coder" "B" (.int 0) := D590 (Or.inr (tw23 H.1)) (ty := .byte) (by decide)
    have X595 : Ext h590 h591 := E591
    have f596 := Ex590.ext X595
    have f597 := F593.ext X595
    have f598 := F594.ext X595
    obtain ⟨v592, T592, h592, A592, K592, ⟨L592, Q592⟩, st592⟩ := A591.callIW hx (y := (⟨"java/lang/String", "<init>", "([C)V"⟩ : MethodName)) rfl (tw10 H.1) (tw11 H.1) (tw12 H.1) (by decide) (g := (mkF m 45 #[vI i0, vI i1, vI i2, vI i3, vI i4, vI 0, vI z586, vI z587, vI z588, vI z589, .unset, .unset] [(.ref a591), (.ref a590), (.ref a590)])) rfl (by rw [hml]; rfl) a590 [(.ref a591)] [(.ref a590)] (lenOf pd_19 rfl) rfl (Wd := 1) (Nat.le_refl _) (hb hby at_45) (by decide) (by decide) [a590] (fun _ _ _ q => q.2) (allS (List.mem_of_getElem? (i := 1) rfl) all0) (fun vm0 hZ hE hC hS => payW (ct_ini1 H a590 a591 .null (.int 0) _ _ A591.old f596 (A591.nle (List.mem_of_getElem? (i := 1) rfl)) f596.lt f597 f598 V591) (tw12 H.1) (tw8 H.1) (by decide) (by decide) hZ hE hC hS)
    obtain ⟨Q592, N592, -⟩ := Q592
    obtain ⟨rfl, S592⟩ := Q592
    refine Run.st (T592.setTop (mkF m 48 #[vI i0, vI i1, vI i2, vI i3, vI i4, vI 0, vI z586, vI z587, vI z588, vI z589, .unset, .unset] [(.ref a590)])) st592 ?_
    refine Run.st (T592.setTop (mkF m 178 #[vI i0, vI i1, vI i2, vI i3, vI i4, vI 0, vI z586, vI z587, vI z588, vI z589, vA a590, .unset] [])) (fun _ k => XS.astore A592.here hx rfl (hb hby at_48) rfl rfl (l' := #[vI i0, vI i1, vI i2, vI i3, vI i4, vI 0, vI z586, vI z587, vI z588, vI z589, vA a590, .unset]) rfl (XS.goto A592.here hx rfl (pc0 := 50) (pc' := 178) rfl (hb hby at_50) (by decide) (by decide) k)) ?_
    have SU599 : StrU Z h592 a590 [] := by
      obtain ⟨s1, s2, ⟨t, kb, s3, s4⟩, s5, -⟩ := S592
      exact ⟨s1, t, kb, s3, Or.inl ⟨s2, s4, chs0⟩⟩
    refine Run.st (T592.setTop (mkF m 242 #[vI i0, vI i1, vI i2, vI i3, vI i4, vI 0, vI z586, vI z587, vI z588, vI z589, vA a590, vI 0] [(.ref a590)])) (fun _ k => XS.iload A592.here hx rfl (hb hby at_178) rfl (XS.ifYes A592.here hx rfl (pc0 := 180) (pc' := 237) rfl (hb hby at_180) rfl (by decide) (by decide) (by decide) (XS.iconst A592.here hx rfl (hb hby at_237) (XS.istore A592.here hx rfl (hb hby at_238) rfl (l' := #[vI i0, vI i1, vI i2, vI i3, vI i4, vI 0, vI z586, vI z587, vI z588, vI z589, vA a590, vI 0]) rfl (XS.aload A592.here hx rfl (hb hby at_240) rfl rfl k))))) ?_
    obtain ⟨v600, T600, h600, A600, K600, ⟨L600, Q600⟩, st600⟩ := A592.callSW hx (tw28 H.1) (tw29 H.1) (tw30 H.1) (tw31 H.1) (by decide) (g := (mkF m 242 #[vI i0, vI i1, vI i2, vI i3, vI i4, vI 0, vI z586, vI z587, vI z588, vI z589, vA a590, vI 0] [(.ref a590)])) rfl (by rw [hml]; rfl) [(.ref a590)] [] (lenOf pd_20 rfl) rfl (Wd := 0) (Nat.le_refl _) (hb hby at_242) (by decide) (by decide) [] (fun _ _ _ q => q.2) all0 (fun vm0 hZ hE hC hS => payW (ct_tok0 H a590 A592.old SU599) (tw31 H.1) (tw30 H.1) (by decide) (by decide) hZ hE hC hS)
    obtain ⟨Q600, N600, -⟩ := Q600
    obtain ⟨z600, rfl, X600, D600⟩ := Q600
    refine Run.st (T600.setTop (mkF m 245 #[vI i0, vI i1, vI i2, vI i3, vI i4, vI 0, vI z586, vI z587, vI z588, vI z589, vA a590, vI 0] [.int z600])) st600 ?_
    rcases D600 with ⟨l600, e600⟩ | ⟨l600, e600⟩
    · subst e600
      exact absurd rfl l600.2
    · subst e600
      refine Run.st (T600.setTop (mkF m 255 #[vI i0, vI i1, vI i2, vI i3, vI i4, vI 0, vI z586, vI z587, vI z588, vI z589, vA a590, vI 0] [.int 1])) (fun _ k => XS.iload A600.here hx rfl (hb hby at_245) rfl (XS.icmpNo A600.here hx rfl (hb hby at_247) rfl (by decide) (XS.iconst A600.here hx rfl (hb hby at_250) (XS.goto A600.here hx rfl (pc0 := 251) (pc' := 255) rfl (hb hby at_251) (by decide) (by decide) k)))) ?_
      exact A600.leaveW hlk hh0 (some (.int (1 : Int32))) (fun q => by rw [hrt] at q; cases q) (by decide) (by decide) rfl (fun X hr => retN X hx (t := .boolean) hrt (by simp) (hb hby at_255) hr)
  · rw [hn]
    refine Run.st (T589.setTop (mkF m 59 #[vI i0, vI i1, vI i2, vI i3, vI i4, vI 1, vI z586, vI z587, vI z588, vI z589, .unset, .unset] [])) (fun _ k => XS.ifYes A589.here hx rfl (pc0 := 35) (pc' := 53) rfl (hb hby at_35) rfl (by decide) (by decide) (by decide) (XS.iload A589.here hx rfl (hb hby at_53) rfl (XS.iconst A589.here hx rfl (hb hby at_55) (XS.icmpNo A589.here hx rfl (hb hby at_56) rfl (by decide) k)))) ?_
    obtain ⟨a601, T601, h601, A601, E601, g601, Ex601, D601, st601⟩ := A589.newO hx (tw6 H.1) (tw7 H.1) (tw8 H.1) (g := (mkF m 59 #[vI i0, vI i1, vI i2, vI i3, vI i4, vI 1, vI z586, vI z587, vI z588, vI z589, .unset, .unset] [])) rfl (hb hby at_59) (by decide) (by decide)
    refine Run.st (T601.setTop (mkF m 62 #[vI i0, vI i1, vI i2, vI i3, vI i4, vI 1, vI z586, vI z587, vI z588, vI z589, .unset, .unset] [(.ref a601)])) st601 ?_
    refine Run.st (T601.setTop (mkF m 64 #[vI i0, vI i1, vI i2, vI i3, vI i4, vI 1, vI z586, vI z587, vI z588, vI z589, .unset, .unset] [.int 1, (.ref a601), (.ref a601)])) (fun _ k => XS.dup A601.here hx rfl (hb hby at_62) rfl rfl (XS.iconst A601.here hx rfl (hb hby at_63) k)) ?_
    obtain ⟨a602, T602, h602, kA602, A602, E602, g602, V602, st602⟩ := A601.newP hx (aty := .char) (N := (1 : Int32)) (tw9 H.1) (g := (mkF m 64 #[vI i0, vI i1, vI i2, vI i3, vI i4, vI 1, vI z586, vI z587, vI z588, vI z589, .unset, .unset] [.int 1, (.ref a601), (.ref a601)])) rfl (hb hby at_64) rfl (by decide) (cap := 1) (by decide) (by decide) (by decide) (by decide)
    refine Run.st (T602.setTop (mkF m 66 #[vI i0, vI i1, vI i2, vI i3, vI i4, vI 1, vI z586, vI z587, vI z588, vI z589, .unset, .unset] [(.ref a602), (.ref a601), (.ref a601)])) st602 ?_
    refine Run.st (T602.setTop (mkF m 70 #[vI i0, vI i1, vI i2, vI i3, vI i4, vI 1, vI z586, vI z587, vI z588, vI z589, .unset, .unset] [.int z586, .int 0, (.ref a602), (.ref a602), (.ref a601), (.ref a601)])) (fun _ k => XS.dup A602.here hx rfl (hb hby at_66) rfl rfl (XS.iconst A602.here hx rfl (hb hby at_67) (XS.iload A602.here hx rfl (hb hby at_68) rfl k))) ?_
    obtain ⟨T603, h603, A603, K603, V603, st603⟩ := A602.stC hx V602 (List.mem_of_getElem? (i := 0) rfl) (j := (0 : Int32)) 0 rfl ⟨by decide, by decide⟩ (Nat.le_of_ble_eq_true rfl) (g := (mkF m 70 #[vI i0, vI i1, vI i2, vI i3, vI i4, vI 1, vI z586, vI z587, vI z588, vI z589, .unset, .unset] [.int z586, .int 0, (.ref a602), (.ref a602), (.ref a601), (.ref a601)])) rfl rfl (hb hby at_70)
    refine Run.st (T603.setTop (mkF m 71 #[vI i0, vI i1, vI i2, vI i3, vI i4, vI 1, vI z586, vI z587, vI z588, vI z589, .unset, .unset] [(.ref a602), (.ref a601), (.ref a601)])) st603 ?_
    have F605 : Fld Z h601 a601 "java/lang/String" "value" "[B" .null := D601 (Or.inr (tw22 H.1)) (ty := (.array .byte)) (by decide)
    have F606 : Fld Z h601 a601 "java/lang/String" "coder" "B" (.int 0) := D601 (Or.inr (tw23 H.1)) (ty := .byte) (by decide)
    have X607 : Ext h601 h602 := E602
    have X608 : Ext h601 h603 := extK X607 K603 (allS (Nat.le_of_eq g602) all0)
    have f609 := Ex601.ext X608
    have f610 := F605.ext X608
    have f611 := F606.ext X608
    have Vc612 : Arv Z h603 a602 kA602 .char (1 : Int32) [(.int z586)] (.int 0) := by
      have k := V603
      rw [D586.nar] at k
      exact k
    obtain ⟨v604, T604, h604, AA604, K604, ⟨L604, Q604⟩, st604⟩ := A603.callI hx (y := (⟨"java/lang/String", "<init>", "([C)V"⟩ : MethodName)) rfl (tw10 H.1) (tw11 H.1) (tw12 H.1) (by decide) (g := (mkF m 71 #[vI i0, vI i1, vI i2, vI i3, vI i4, vI 1, vI z586, vI z587, vI z588, vI z589, .unset, .unset] [(.ref a602), (.ref a601), (.ref a601)])) rfl (by rw [hml]; rfl) a601 [(.ref a602)] [(.ref a601)] (lenOf pd_19 rfl) rfl (Wd := 1) (Nat.le_refl _) (hb hby at_71) (by decide) (by decide) [a601] (fun _ _ _ q => q.2) (allS (List.mem_of_getElem? (i := 1) rfl) all0) (fun vm0 hZ => payN (ct_nw1_1 H a601 .null (.int 0) a602 _ z586 A603.old f609 (A603.nle (List.mem_of_getElem? (i := 1) rfl)) f609.lt f610 f611 Vc612 D586) (tw12 H.1) (tw8 H.1) (by decide) (by decide) hZ)
    obtain ⟨Q604, N604, -⟩ := Q604
    obtain ⟨rfl, S604⟩ := Q604
    have A604 := AA604 [] all0
    refine Run.st (T604.setTop (mkF m 74 #[vI i0, vI i1, vI i2, vI i3, vI i4, vI 1, vI z586, vI z587, vI z588, vI z589, .unset, .unset] [(.ref a601)])) st604 ?_
    refine Run.st (T604.setTop (mkF m 185 #[vI i0, vI i1, vI i2, vI i3, vI i4, vI 1, vI z586, vI z587, vI z588, vI z589, vA a601, .unset] [.int z586])) (fun _ k => XS.astore A604.here hx rfl (hb hby at_74) rfl rfl (l' := #[vI i0, vI i1, vI i2, vI i3, vI i4, vI 1, vI z586, vI z587, vI z588, vI z589, vA a601, .unset]) rfl (XS.goto A604.here hx rfl (pc0 := 76) (pc' := 178) rfl (hb hby at_76) (by decide) (by decide) (XS.iload A604.here hx rfl (hb hby at_178) rfl (XS.ifNo A604.here hx rfl (hb hby at_180) rfl (by decide) (XS.iload A604.here hx rfl (hb hby at_183) rfl k))))) ?_
    obtain ⟨v613, T613, h613, AA613, K613, ⟨L613, Q613⟩, st613⟩ := A604.callS hx (tw48 H.1) (tw49 H.1) (tw3 H.1) (tw50 H.1) (by decide) (g := (mkF m 185 #[vI i0, vI i1, vI i2, vI i3, vI i4, vI 1, vI z586, vI z587, vI z588, vI z589, vA a601, .unset] [.int z586])) rfl (by rw [hml]; rfl) [(.int z586)] [] (lenOf pd_21 rfl) rfl (Wd := 0) (Nat.le_refl _) (hb hby at_185) (by decide) (by decide) [] (fun _ _ _ q => q.2) all0 (fun vm0 hZ => payN (ct_tokc H z586 A604.old) (tw50 H.1) (tw3 H.1) (by decide) (by decide) hZ)
    obtain ⟨Q613, N613, -⟩ := Q613
    obtain ⟨z613, rfl, q613, D613⟩ := Q613
    have q613 := q613.symm
    subst q613
    have A613 := AA613 [] all0
    refine Run.st (T613.setTop (mkF m 188 #[vI i0, vI i1, vI i2, vI i3, vI i4, vI 1, vI z586, vI z587, vI z588, vI z589, vA a601, .unset] [.int z613])) st613 ?_
    rcases D613 with ⟨l613, e613⟩ | ⟨l613, e613⟩
    · subst e613
      refine Run.st (T613.setTop (mkF m 222 #[vI i0, vI i1, vI i2, vI i3, vI i4, vI 1, vI z586, vI z587, vI z588, vI z589, vA a601, .unset] [.int 4, .int 1])) (fun _ k => XS.ifNo A613.here hx rfl (hb hby at_188) rfl (by decide) (XS.iload A613.here hx rfl (hb hby at_191) rfl (XS.iconst A613.here hx rfl (hb hby at_193) (XS.icmpYes A613.here hx rfl (pc0 := 194) (pc' := 205) rfl (hb hby at_194) rfl (by decide) (by decide) (by decide) (XS.iload A613.here hx rfl (hb hby at_205) rfl (XS.iconst A613.here hx rfl (hb hby at_207) (XS.icmpYes A613.here hx rfl (pc0 := 208) (pc' := 219) rfl (hb hby at_208) rfl (by decide) (by decide) (by decide) (XS.iload A613.here hx rfl (hb hby at_219) rfl (XS.iconst A613.here hx rfl (hb hby at_221) k))))))))) ?_
      refine Run.st (T613.setTop (mkF m 242 #[vI i0, vI i1, vI i2, vI i3, vI i4, vI 1, vI z586, vI z587, vI z588, vI z589, vA a601, vI 1] [(.ref a601)])) (fun _ k => XS.icmpYes A613.here hx rfl (pc0 := 222) (pc' := 233) rfl (hb hby at_222) rfl (by decide) (by decide) (by decide) (XS.iconst A613.here hx rfl (hb hby at_233) (XS.goto A613.here hx rfl (pc0 := 234) (pc' := 238) rfl (hb hby at_234) (by decide) (by decide) (XS.istore A613.here hx rfl (hb hby at_238) rfl (l' := #[vI i0, vI i1, vI i2, vI i3, vI i4, vI 1, vI z586, vI z587, vI z588, vI z589, vA a601, vI 1]) rfl (XS.aload A613.here hx rfl (hb hby at_240) rfl rfl k))))) ?_
      obtain ⟨v614, T614, h614, A614, K614, ⟨L614, Q614⟩, st614⟩ := A613.callSW hx (tw28 H.1) (tw29 H.1) (tw30 H.1) (tw31 H.1) (by decide) (g := (mkF m 242 #[vI i0, vI i1, vI i2, vI i3, vI i4, vI 1, vI z586, vI z587, vI z588, vI z589, vA a601, vI 1] [(.ref a601)])) rfl (by rw [hml]; rfl) [(.ref a601)] [] (lenOf pd_20 rfl) rfl (Wd := 0) (Nat.le_refl _) (hb hby at_242) (by decide) (by decide) [] (fun _ _ _ q => q.2) all0 (fun vm0 hZ hE hC hS => payW (ct_tok1 H a601 z586 A613.old S604 D586) (tw31 H.1) (tw30 H.1) (by decide) (by decide) hZ hE hC hS)
      obtain ⟨Q614, N614, -⟩ := Q614
      obtain ⟨z614, rfl, X614, D614⟩ := Q614
      refine Run.st (T614.setTop (mkF m 245 #[vI i0, vI i1, vI i2, vI i3, vI i4, vI 1, vI z586, vI z587, vI z588, vI z589, vA a601, vI 1] [.int z614])) st614 ?_
      rcases D614 with ⟨l614, e614⟩ | ⟨l614, e614⟩
      · subst e614
        refine Run.st (T614.setTop (mkF m 255 #[vI i0, vI i1, vI i2, vI i3, vI i4, vI 1, vI z586, vI z587, vI z588, vI z589, vA a601, vI 1] [.int 1])) (fun _ k => XS.iload A614.here hx rfl (hb hby at_245) rfl (XS.icmpNo A614.here hx rfl (hb hby at_247) rfl (by decide) (XS.iconst A614.here hx rfl (hb hby at_250) (XS.goto A614.here hx rfl (pc0 := 251) (pc' := 255) rfl (hb hby at_251) (by decide) (by decide) k)))) ?_
        exact A614.leaveW hlk hh0 (some (.int (1 : Int32))) (fun q => by rw [hrt] at q; cases q) (by decide) (by decide) rfl (fun X hr => retN X hx (t := .boolean) hrt (by simp) (hb hby at_255) hr)
      · subst e614
        exact absurd ⟨(chsS l613 chs0), List.cons_ne_nil _ _⟩ l614
    · subst e613
      refine Run.st (T613.setTop (mkF m 242 #[vI i0, vI i1, vI i2, vI i3, vI i4, vI 1, vI z586, vI z587, vI z588, vI z589, vA a601, vI 0] [(.ref a601)])) (fun _ k => XS.ifYes A613.here hx rfl (pc0 := 188) (pc' := 237) rfl (hb hby at_188) rfl (by decide) (by decide) (by decide) (XS.iconst A613.here hx rfl (hb hby at_237) (XS.istore A613.here hx rfl (hb hby at_238) rfl (l' := #[vI i0, vI i1, vI i2, vI i3, vI i4, vI 1, vI z586, vI z587, vI z588, vI z589, vA a601, vI 0]) rfl (XS.aload A613.here hx rfl (hb hby at_240) rfl rfl k)))) ?_
      obtain ⟨v615, T615, h615, A615, K615, ⟨L615, Q615⟩, st615⟩ := A613.callSW hx (tw28 H.1) (tw29 H.1) (tw30 H.1) (tw31 H.1) (by decide) (g := (mkF m 242 #[vI i0, vI i1, vI i2, vI i3, vI i4, vI 1, vI z586, vI z587, vI z588, vI z589, vA a601, vI 0] [(.ref a601)])) rfl (by rw [hml]; rfl) [(.ref a601)] [] (lenOf pd_20 rfl) rfl (Wd := 0) (Nat.le_refl _) (hb hby at_242) (by decide) (by decide) [] (fun _ _ _ q => q.2) all0 (fun vm0 hZ hE hC hS => payW (ct_tok1 H a601 z586 A613.old S604 D586) (tw31 H.1) (tw30 H.1) (by decide) (by decide) hZ hE hC hS)
      obtain ⟨Q615, N615, -⟩ := Q615
      obtain ⟨z615, rfl, X615, D615⟩ := Q615
      refine Run.st (T615.setTop (mkF m 245 #[vI i0, vI i1, vI i2, vI i3, vI i4, vI 1, vI z586, vI z587, vI z588, vI z589, vA a601, vI 0] [.int z615])) st615 ?_
      rcases D615 with ⟨l615, e615⟩ | ⟨l615, e615⟩
      · subst e615
        exact absurd (l615.1 z586 (List.mem_of_getElem? (i := 0) rfl)) l613
      · subst e615
        refine Run.st (T615.setTop (mkF m 255 #[vI i0, vI i1, vI i2, vI i3, vI i4, vI 1, vI z586, vI z587, vI z588, vI z589, vA a601, vI 0] [.int 1])) (fun _ k => XS.iload A615.here hx rfl (hb hby at_245) rfl (XS.icmpNo A615.here hx rfl (hb hby at_247) rfl (by decide) (XS.iconst A615.here hx rfl (hb hby at_250) (XS.goto A615.here hx rfl (pc0 := 251) (pc' := 255) rfl (hb hby at_251) (by decide) (by decide) k)))) ?_
        exact A615.leaveW hlk hh0 (some (.int (1 : Int32))) (fun q => by rw [hrt] at q; cases q) (by decide) (by decide) rfl (fun X hr => retN X hx (t := .boolean) hrt (by simp) (hb hby at_255) hr)
  · rw [hn]
    refine Run.st (T589.setTop (mkF m 85 #[vI i0, vI i1, vI i2, vI i3, vI i4, vI 2, vI z586, vI z587, vI z588, vI z589, .unset, .unset] [])) (fun _ k => XS.ifYes A589.here hx rfl (pc0 := 35) (pc' := 53) rfl (hb hby at_35) rfl (by decide) (by decide) (by decide) (XS.iload A589.here hx rfl (hb hby at_53) rfl (XS.iconst A589.here hx rfl (hb hby at_55) (XS.icmpYes A589.here hx rfl (pc0 := 56) (pc' := 79) rfl (hb hby at_56) rfl (by decide) (by decide) (by decide) (XS.iload A589.here hx rfl (hb hby at_79) rfl (XS.iconst A589.here hx rfl (hb hby at_81) (XS.icmpNo A589.here hx rfl (hb hby at_82) rfl (by decide) k))))))) ?_
    obtain ⟨a616, T616, h616, A616, E616, g616, Ex616, D616, st616⟩ := A589.newO hx (tw6 H.1) (tw7 H.1) (tw8 H.1) (g := (mkF m 85 #[vI i0, vI i1, vI i2, vI i3, vI i4, vI 2, vI z586, vI z587, vI z588, vI z589, .unset, .unset] [])) rfl (hb hby at_85) (by decide) (by decide)
    refine Run.st (T616.setTop (mkF m 88 #[vI i0, vI i1, vI i2, vI i3, vI i4, vI 2, vI z586, vI z587, vI z588, vI z589, .unset, .unset] [(.ref a616)])) st616 ?_
    refine Run.st (T616.setTop (mkF m 90 #[vI i0, vI i1, vI i2, vI i3, vI i4, vI 2, vI z586, vI z587, vI z588, vI z589, .unset, .unset] [.int 2, (.ref a616), (.ref a616)])) (fun _ k => XS.dup A616.here hx rfl (hb hby at_88) rfl rfl (XS.iconst A616.here hx rfl (hb hby at_89) k)) ?_
    obtain ⟨a617, T617, h617, kA617, A617, E617, g617, V617, st617⟩ := A616.newP hx (aty := .char) (N := (2 : Int32)) (tw9 H.1) (g := (mkF m 90 #[vI i0, vI i1, vI i2, vI i3, vI i4, vI 2, vI z586, vI z587, vI z588, vI z589, .unset, .unset] [.int 2, (.ref a616), (.ref a616)])) rfl (hb hby at_90) rfl (by decide) (cap := 2) (by decide) (by decide) (by decide) (by decide)
    refine Run.st (T617.setTop (mkF m 92 #[vI i0, vI i1, vI i2, vI i3, vI i4, vI 2, vI z586, vI z587, vI z588, vI z589, .unset, .unset] [(.ref a617), (.ref a616), (.ref a616)])) st617 ?_
    refine Run.st (T617.setTop (mkF m 96 #[vI i0, vI i1, vI i2, vI i3, vI i4, vI 2, vI z586, vI z587, vI z588, vI z589, .unset, .unset] [.int z586, .int 0, (.ref a617), (.ref a617), (.ref a616), (.ref a616)])) (fun _ k => XS.dup A617.here hx rfl (hb hby at_92) rfl rfl (XS.iconst A617.here hx rfl (hb hby at_93) (XS.iload A617.here hx rfl (hb hby at_94) rfl k))) ?_
    obtain ⟨T618, h618, A618, K618, V618, st618⟩ := A617.stC hx V617 (List.mem_of_getElem? (i := 0) rfl) (j := (0 : Int32)) 0 rfl ⟨by decide, by decide⟩ (Nat.le_of_ble_eq_true rfl) (g := (mkF m 96 #[vI i0, vI i1, vI i2, vI i3, vI i4, vI 2, vI z586, vI z587, vI z588, vI z589, .unset, .unset] [.int z586, .int 0, (.ref a617), (.ref a617), (.ref a616), (.ref a616)])) rfl rfl (hb hby at_96)
    refine Run.st (T618.setTop (mkF m 97 #[vI i0, vI i1, vI i2, vI i3, vI i4, vI 2, vI z586, vI z587, vI z588, vI z589, .unset, .unset] [(.ref a617), (.ref a616), (.ref a616)])) st618 ?_
    refine Run.st (T618.setTop (mkF m 101 #[vI i0, vI i1, vI i2, vI i3, vI i4, vI 2, vI z586, vI z587, vI z588, vI z589, .unset, .unset] [.int z587, .int 1, (.ref a617), (.ref a617), (.ref a616), (.ref a616)])) (fun _ k => XS.dup A618.here hx rfl (hb hby at_97) rfl rfl (XS.iconst A618.here hx rfl (hb hby at_98) (XS.iload A618.here hx rfl (hb hby at_99) rfl k))) ?_
    obtain ⟨T619, h619, A619, K619, V619, st619⟩ := A618.stC hx V618 (List.mem_of_getElem? (i := 0) rfl) (j := (1 : Int32)) 1 rfl ⟨by decide, by decide⟩ (Nat.le_of_ble_eq_true rfl) (g := (mkF m 101 #[vI i0, vI i1, vI i2, vI i3, vI i4, vI 2, vI z586, vI z587, vI z588, vI z589, .unset, .unset] [.int z587, .int 1, (.ref a617), (.ref a617), (.ref a616), (.ref a616)])) rfl rfl (hb hby at_101)
    refine Run.st (T619.setTop (mkF m 102 #[vI i0, vI i1, vI i2, vI i3, vI i4, vI 2, vI z586, vI z587, vI z588, vI z589, .unset, .unset] [(.ref a617), (.ref a616), (.ref a616)])) st619 ?_
    have F621 : Fld Z h616 a616 "java/lang/String" "value" "[B" .null := D616 (Or.inr (tw22 H.1)) (ty := (.array .byte)) (by decide)
    have F622 : Fld Z h616 a616 "java/lang/String" "coder" "B" (.int 0) := D616 (Or.inr (tw23 H.1)) (ty := .byte) (by decide)
    have X623 : Ext h616 h617 := E617
    have X624 : Ext h616 h618 := extK X623 K618 (allS (Nat.le_of_eq g617) all0)
    have X625 : Ext h616 h619 := extK X624 K619 (allS (Nat.le_of_eq g617) all0)
    have f626 := Ex616.ext X625
    have f627 := F621.ext X625
    have f628 := F622.ext X625
    have Vc629 : Arv Z h619 a617 kA617 .char (2 : Int32) [(.int z586), (.int z587)] (.int 0) := by
      have k := V619
      rw [D586.nar, D587.nar] at k
      exact k
    obtain ⟨v620, T620, h620, AA620, K620, ⟨L620, Q620⟩, st620⟩ := A619.callI hx (y := (⟨"java/lang/String", "<init>", "([C)V"⟩ : MethodName)) rfl (tw10 H.1) (tw11 H.1) (tw12 H.1) (by decide) (g := (mkF m 102 #[vI i0, vI i1, vI i2, vI i3, vI i4, vI 2, vI z586, vI z587, vI z588, vI z589, .unset, .unset] [(.ref a617), (.ref a616), (.ref a616)])) rfl (by rw [hml]; rfl) a616 [(.ref a617)] [(.ref a616)] (lenOf pd_19 rfl) rfl (Wd := 1) (Nat.le_refl _) (hb hby at_102) (by decide) (by decide) [a616] (fun _ _ _ q => q.2) (allS (List.mem_of_getElem? (i := 1) rfl) all0) (fun vm0 hZ => payN (ct_nw1_2 H a616 .null (.int 0) a617 _ z586 z587 A619.old f626 (A619.nle (List.mem_of_getElem? (i := 1) rfl)) f626.lt f627 f628 Vc629 D586 D587) (tw12 H.1) (tw8 H.1) (by decide) (by decide) hZ)
    obtain ⟨Q620, N620, -⟩ := Q620
    obtain ⟨rfl, S620⟩ := Q620
    have A620 := AA620 [] all0
    refine Run.st (T620.setTop (mkF m 105 #[vI i0, vI i1, vI i2, vI i3, vI i4, vI 2, vI z586, vI z587, vI z588, vI z589, .unset, .unset] [(.ref a616)])) st620 ?_
    refine Run.st (T620.setTop (mkF m 185 #[vI i0, vI i1, vI i2, vI i3, vI i4, vI 2, vI z586, vI z587, vI z588, vI z589, vA a616, .unset] [.int z586])) (fun _ k => XS.astore A620.here hx rfl (hb hby at_105) rfl rfl (l' := #[vI i0, vI i1, vI i2, vI i3, vI i4, vI 2, vI z586, vI z587, vI z588, vI z589, vA a616, .unset]) rfl (XS.goto A620.here hx rfl (pc0 := 107) (pc' := 178) rfl (hb hby at_107) (by decide) (by decide) (XS.iload A620.here hx rfl (hb hby at_178) rfl (XS.ifNo A620.here hx rfl (hb hby at_180) rfl (by decide) (XS.iload A620.here hx rfl (hb hby at_183) rfl k))))) ?_
    obtain ⟨v630, T630, h630, AA630, K630, ⟨L630, Q630⟩, st630⟩ := A620.callS hx (tw48 H.1) (tw49 H.1) (tw3 H.1) (tw50 H.1) (by decide) (g := (mkF m 185 #[vI i0, vI i1, vI i2, vI i3, vI i4, vI 2, vI z586, vI z587, vI z588, vI z589, vA a616, .unset] [.int z586])) rfl (by rw [hml]; rfl) [(.int z586)] [] (lenOf pd_21 rfl) rfl (Wd := 0) (Nat.le_refl _) (hb hby at_185) (by decide) (by decide) [] (fun _ _ _ q => q.2) all0 (fun vm0 hZ => payN (ct_tokc H z586 A620.old) (tw50 H.1) (tw3 H.1) (by decide) (by decide) hZ)
    obtain ⟨Q630, N630, -⟩ := Q630
    obtain ⟨z630, rfl, q630, D630⟩ := Q630
    have q630 := q630.symm
    subst q630
    have A630 := AA630 [] all0
    refine Run.st (T630.setTop (mkF m 188 #[vI i0, vI i1, vI i2, vI i3, vI i4, vI 2, vI z586, vI z587, vI z588, vI z589, vA a616, .unset] [.int z630])) st630 ?_
    rcases D630 with ⟨l630, e630⟩ | ⟨l630, e630⟩
    · subst e630
      refine Run.st (T630.setTop (mkF m 199 #[vI i0, vI i1, vI i2, vI i3, vI i4, vI 2, vI z586, vI z587, vI z588, vI z589, vA a616, .unset] [.int z587])) (fun _ k => XS.ifNo A630.here hx rfl (hb hby at_188) rfl (by decide) (XS.iload A630.here hx rfl (hb hby at_191) rfl (XS.iconst A630.here hx rfl (hb hby at_193) (XS.icmpNo A630.here hx rfl (hb hby at_194) rfl (by decide) (XS.iload A630.here hx rfl (hb hby at_197) rfl k))))) ?_
      obtain ⟨v631, T631, h631, AA631, K631, ⟨L631, Q631⟩, st631⟩ := A630.callS hx (tw48 H.1) (tw49 H.1) (tw3 H.1) (tw50 H.1) (by decide) (g := (mkF m 199 #[vI i0, vI i1, vI i2, vI i3, vI i4, vI 2, vI z586, vI z587, vI z588, vI z589, vA a616, .unset] [.int z587])) rfl (by rw [hml]; rfl) [(.int z587)] [] (lenOf pd_21 rfl) rfl (Wd := 0) (Nat.le_refl _) (hb hby at_199) (by decide) (by decide) [] (fun _ _ _ q => q.2) all0 (fun vm0 hZ => payN (ct_tokc H z587 A630.old) (tw50 H.1) (tw3 H.1) (by decide) (by decide) hZ)
      obtain ⟨Q631, N631, -⟩ := Q631
      obtain ⟨z631, rfl, q631, D631⟩ := Q631
      have q631 := q631.symm
      subst q631
      have A631 := AA631 [] all0
      refine Run.st (T631.setTop (mkF m 202 #[vI i0, vI i1, vI i2, vI i3, vI i4, vI 2, vI z586, vI z587, vI z588, vI z589, vA a616, .unset] [.int z631])) st631 ?_
      rcases D631 with ⟨l631, e631⟩ | ⟨l631, e631⟩
      · subst e631
        refine Run.st (T631.setTop (mkF m 238 #[vI i0, vI i1, vI i2, vI i3, vI i4, vI 2, vI z586, vI z587, vI z588, vI z589, vA a616, .unset] [.int 1])) (fun _ k => XS.ifNo A631.here hx rfl (hb hby at_202) rfl (by decide) (XS.iload A631.here hx rfl (hb hby at_205) rfl (XS.iconst A631.here hx rfl (hb hby at_207) (XS.icmpYes A631.here hx rfl (pc0 := 208) (pc' := 219) rfl (hb hby at_208) rfl (by decide) (by decide) (by decide) (XS.iload A631.here hx rfl (hb hby at_219) rfl (XS.iconst A631.here hx rfl (hb hby at_221) (XS.icmpYes A631.here hx rfl (pc0 := 222) (pc' := 233) rfl (hb hby at_222) rfl (by decide) (by decide) (by decide) (XS.iconst A631.here hx rfl (hb hby at_233) (XS.goto A631.here hx rfl (pc0 := 234) (pc' := 238) rfl (hb hby at_234) (by decide) (by decide) k))))))))) ?_
        refine Run.st (T631.setTop (mkF m 242 #[vI i0, vI i1, vI i2, vI i3, vI i4, vI 2, vI z586, vI z587, vI z588, vI z589, vA a616, vI 1] [(.ref a616)])) (fun _ k => XS.istore A631.here hx rfl (hb hby at_238) rfl (l' := #[vI i0, vI i1, vI i2, vI i3, vI i4, vI 2, vI z586, vI z587, vI z588, vI z589, vA a616, vI 1]) rfl (XS.aload A631.here hx rfl (hb hby at_240) rfl rfl k)) ?_
        obtain ⟨v632, T632, h632, A632, K632, ⟨L632, Q632⟩, st632⟩ := A631.callSW hx (tw28 H.1) (tw29 H.1) (tw30 H.1) (tw31 H.1) (by decide) (g := (mkF m 242 #[vI i0, vI i1, vI i2, vI i3, vI i4, vI 2, vI z586, vI z587, vI z588, vI z589, vA a616, vI 1] [(.ref a616)])) rfl (by rw [hml]; rfl) [(.ref a616)] [] (lenOf pd_20 rfl) rfl (Wd := 0) (Nat.le_refl _) (hb hby at_242) (by decide) (by decide) [] (fun _ _ _ q => q.2) all0 (fun vm0 hZ hE hC hS => payW (ct_tok2 H a616 z586 z587 A631.old S620 D586 D587) (tw31 H.1) (tw30 H.1) (by decide) (by decide) hZ hE hC hS)
        obtain ⟨Q632, N632, -⟩ := Q632
        obtain ⟨z632, rfl, X632, D632⟩ := Q632
        refine Run.st (T632.setTop (mkF m 245 #[vI i0, vI i1, vI i2, vI i3, vI i4, vI 2, vI z586, vI z587, vI z588, vI z589, vA a616, vI 1] [.int z632])) st632 ?_
        rcases D632 with ⟨l632, e632⟩ | ⟨l632, e632⟩
        · subst e632
          refine Run.st (T632.setTop (mkF m 255 #[vI i0, vI i1, vI i2, vI i3, vI i4, vI 2, vI z586, vI z587, vI z588, vI z589, vA a616, vI 1] [.int 1])) (fun _ k => XS.iload A632.here hx rfl (hb hby at_245) rfl (XS.icmpNo A632.here hx rfl (hb hby at_247) rfl (by decide) (XS.iconst A632.here hx rfl (hb hby at_250) (XS.goto A632.here hx rfl (pc0 := 251) (pc' := 255) rfl (hb hby at_251) (by decide) (by decide) k)))) ?_
          exact A632.leaveW hlk hh0 (some (.int (1 : Int32))) (fun q => by rw [hrt] at q; cases q) (by decide) (by decide) rfl (fun X hr => retN X hx (t := .boolean) hrt (by simp) (hb hby at_255) hr)
        · subst e632
          exact absurd ⟨(chsS l630 (chsS l631 chs0)), List.cons_ne_nil _ _⟩ l632
      · subst e631
        refine Run.st (T631.setTop (mkF m 242 #[vI i0, vI i1, vI i2, vI i3, vI i4, vI 2, vI z586, vI z587, vI z588, vI z589, vA a616, vI 0] [(.ref a616)])) (fun _ k => XS.ifYes A631.here hx rfl (pc0 := 202) (pc' := 237) rfl (hb hby at_202) rfl (by decide) (by decide) (by decide) (XS.iconst A631.here hx rfl (hb hby at_237) (XS.istore A631.here hx rfl (hb hby at_238) rfl (l' := #[vI i0, vI i1, vI i2, vI i3, vI i4, vI 2, vI z586, vI z587, vI z588, vI z589, vA a616, vI 0]) rfl (XS.aload A631.here hx rfl (hb hby at_240) rfl rfl k)))) ?_
        obtain ⟨v633, T633, h633, A633, K633, ⟨L633, Q633⟩, st633⟩ := A631.callSW hx (tw28 H.1) (tw29 H.1) (tw30 H.1) (tw31 H.1) (by decide) (g := (mkF m 242 #[vI i0, vI i1, vI i2, vI i3, vI i4, vI 2, vI z586, vI z587, vI z588, vI z589, vA a616, vI 0] [(.ref a616)])) rfl (by rw [hml]; rfl) [(.ref a616)] [] (lenOf pd_20 rfl) rfl (Wd := 0) (Nat.le_refl _) (hb hby at_242) (by decide) (by decide) [] (fun _ _ _ q => q.2) all0 (fun vm0 hZ hE hC hS => payW (ct_tok2 H a616 z586 z587 A631.old S620 D586 D587) (tw31 H.1) (tw30 H.1) (by decide) (by decide) hZ hE hC hS)
        obtain ⟨Q633, N633, -⟩ := Q633
        obtain ⟨z633, rfl, X633, D633⟩ := Q633
        refine Run.st (T633.setTop (mkF m 245 #[vI i0, vI i1, vI i2, vI i3, vI i4, vI 2, vI z586, vI z587, vI z588, vI z589, vA a616, vI 0] [.int z633])) st633 ?_
        rcases D633 with ⟨l633, e633⟩ | ⟨l633, e633⟩
        · subst e633
          exact absurd (l633.1 z587 (List.mem_of_getElem? (i := 1) rfl)) l631
        · subst e633
          refine Run.st (T633.setTop (mkF m 255 #[vI i0, vI i1, vI i2, vI i3, vI i4, vI 2, vI z586, vI z587, vI z588, vI z589, vA a616, vI 0] [.int 1])) (fun _ k => XS.iload A633.here hx rfl (hb hby at_245) rfl (XS.icmpNo A633.here hx rfl (hb hby at_247) rfl (by decide) (XS.iconst A633.here hx rfl (hb hby at_250) (XS.goto A633.here hx rfl (pc0 := 251) (pc' := 255) rfl (hb hby at_251) (by decide) (by decide) k)))) ?_
          exact A633.leaveW hlk hh0 (some (.int (1 : Int32))) (fun q => by rw [hrt] at q; cases q) (by decide) (by decide) rfl (fun X hr => retN X hx (t := .boolean) hrt (by simp) (hb hby at_255) hr)
    · subst e630
      refine Run.st (T630.setTop (mkF m 242 #[vI i0, vI i1, vI i2, vI i3, vI i4, vI 2, vI z586, vI z587, vI z588, vI z589, vA a616, vI 0] [(.ref a616)])) (fun _ k => XS.ifYes A630.here hx rfl (pc0 := 188) (pc' := 237) rfl (hb hby at_188) rfl (by decide) (by decide) (by decide) (XS.iconst A630.here hx rfl (hb hby at_237) (XS.istore A630.here hx rfl (hb hby at_238) rfl (l' := #[vI i0, vI i1, vI i2, vI i3, vI i4, vI 2, vI z586, vI z587, vI z588, vI z589, vA a616, vI 0]) rfl (XS.aload A630.here hx rfl (hb hby at_240) rfl rfl k)))) ?_
      obtain ⟨v634, T634, h634, A634, K634, ⟨L634, Q634⟩, st634⟩ := A630.callSW hx (tw28 H.1) (tw29 H.1) (tw30 H.1) (tw31 H.1) (by decide) (g := (mkF m 242 #[vI i0, vI i1, vI i2, vI i3, vI i4, vI 2, vI z586, vI z587, vI z588, vI z589, vA a616, vI 0] [(.ref a616)])) rfl (by rw [hml]; rfl) [(.ref a616)] [] (lenOf pd_20 rfl) rfl (Wd := 0) (Nat.le_refl _) (hb hby at_242) (by decide) (by decide) [] (fun _ _ _ q => q.2) all0 (fun vm0 hZ hE hC hS => payW (ct_tok2 H a616 z586 z587 A630.old S620 D586 D587) (tw31 H.1) (tw30 H.1) (by decide) (by decide) hZ hE hC hS)
      obtain ⟨Q634, N634, -⟩ := Q634
      obtain ⟨z634, rfl, X634, D634⟩ := Q634
      refine Run.st (T634.setTop (mkF m 245 #[vI i0, vI i1, vI i2, vI i3, vI i4, vI 2, vI z586, vI z587, vI z588, vI z589, vA a616, vI 0] [.int z634])) st634 ?_
      rcases D634 with ⟨l634, e634⟩ | ⟨l634, e634⟩
      · subst e634
        exact absurd (l634.1 z586 (List.mem_of_getElem? (i := 0) rfl)) l630
      · subst e634
        refine Run.st (T634.setTop (mkF m 255 #[vI i0, vI i1, vI i2, vI i3, vI i4, vI 2, vI z586, vI z587, vI z588, vI z589, vA a616, vI 0] [.int 1])) (fun _ k => XS.iload A634.here hx rfl (hb hby at_245) rfl (XS.icmpNo A634.here hx rfl (hb hby at_247) rfl (by decide) (XS.iconst A634.here hx rfl (hb hby at_250) (XS.goto A634.here hx rfl (pc0 := 251) (pc' := 255) rfl (hb hby at_251) (by decide) (by decide) k)))) ?_
        exact A634.leaveW hlk hh0 (some (.int (1 : Int32))) (fun q => by rw [hrt] at q; cases q) (by decide) (by decide) rfl (fun X hr => retN X hx (t := .boolean) hrt (by simp) (hb hby at_255) hr)
  · rw [hn]
    refine Run.st (T589.setTop (mkF m 113 #[vI i0, vI i1, vI i2, vI i3, vI i4, vI 3, vI z586, vI z587, vI z588, vI z589, .unset, .unset] [.int 3, .int 3])) (fun _ k => XS.ifYes A589.here hx rfl (pc0 := 35) (pc' := 53) rfl (hb hby at_35) rfl (by decide) (by decide) (by decide) (XS.iload A589.here hx rfl (hb hby at_53) rfl (XS.iconst A589.here hx rfl (hb hby at_55) (XS.icmpYes A589.here hx rfl (pc0 := 56) (pc' := 79) rfl (hb hby at_56) rfl (by decide) (by decide) (by decide) (XS.iload A589.here hx rfl (hb hby at_79) rfl (XS.iconst A589.here hx rfl (hb hby at_81) (XS.icmpYes A589.here hx rfl (pc0 := 82) (pc' := 110) rfl (hb hby at_82) rfl (by decide) (by decide) (by decide) (XS.iload A589.here hx rfl (hb hby at_110) rfl (XS.iconst A589.here hx rfl (hb hby at_112) k))))))))) ?_
    refine Run.st (T589.setTop (mkF m 116 #[vI i0, vI i1, vI i2, vI i3, vI i4, vI 3, vI z586, vI z587, vI z588, vI z589, .unset, .unset] [])) (fun _ k => XS.icmpNo A589.here hx rfl (hb hby at_113) rfl (by decide) k) ?_
    obtain ⟨a635, T635, h635, A635, E635, g635, Ex635, D635, st635⟩ := A589.newO hx (tw6 H.1) (tw7 H.1) (tw8 H.1) (g := (mkF m 116 #[vI i0, vI i1, vI i2, vI i3, vI i4, vI 3, vI z586, vI z587, vI z588, vI z589, .unset, .unset] [])) rfl (hb hby at_116) (by decide) (by decide)
    refine Run.st (T635.setTop (mkF m 119 #[vI i0, vI i1, vI i2, vI i3, vI i4, vI 3, vI z586, vI z587, vI z588, vI z589, .unset, .unset] [(.ref a635)])) st635 ?_
    refine Run.st (T635.setTop (mkF m 121 #[vI i0, vI i1, vI i2, vI i3, vI i4, vI 3, vI z586, vI z587, vI z588, vI z589, .unset, .unset] [.int 3, (.ref a635), (.ref a635)])) (fun _ k => XS.dup A635.here hx rfl (hb hby at_119) rfl rfl (XS.iconst A635.here hx rfl (hb hby at_120) k)) ?_
    obtain ⟨a636, T636, h636, kA636, A636, E636, g636, V636, st636⟩ := A635.newP hx (aty := .char) (N := (3 : Int32)) (tw9 H.1) (g := (mkF m 121 #[vI i0, vI i1, vI i2, vI i3, vI i4, vI 3, vI z586, vI z587, vI z588, vI z589, .unset, .unset] [.int 3, (.ref a635), (.ref a635)])) rfl (hb hby at_121) rfl (by decide) (cap := 3) (by decide) (by decide) (by decide) (by decide)
    refine Run.st (T636.setTop (mkF m 123 #[vI i0, vI i1, vI i2, vI i3, vI i4, vI 3, vI z586, vI z587, vI z588, vI z589, .unset, .unset] [(.ref a636), (.ref a635), (.ref a635)])) st636 ?_
    refine Run.st (T636.setTop (mkF m 127 #[vI i0, vI i1, vI i2, vI i3, vI i4, vI 3, vI z586, vI z587, vI z588, vI z589, .unset, .unset] [.int z586, .int 0, (.ref a636), (.ref a636), (.ref a635), (.ref a635)])) (fun _ k => XS.dup A636.here hx rfl (hb hby at_123) rfl rfl (XS.iconst A636.here hx rfl (hb hby at_124) (XS.iload A636.here hx rfl (hb hby at_125) rfl k))) ?_
    obtain ⟨T637, h637, A637, K637, V637, st637⟩ := A636.stC hx V636 (List.mem_of_getElem? (i := 0) rfl) (j := (0 : Int32)) 0 rfl ⟨by decide, by decide⟩ (Nat.le_of_ble_eq_true rfl) (g := (mkF m 127 #[vI i0, vI i1, vI i2, vI i3, vI i4, vI 3, vI z586, vI z587, vI z588, vI z589, .unset, .unset] [.int z586, .int 0, (.ref a636), (.ref a636), (.ref a635), (.ref a635)])) rfl rfl (hb hby at_127)
    refine Run.st (T637.setTop (mkF m 128 #[vI i0, vI i1, vI i2, vI i3, vI i4, vI 3, vI z586, vI z587, vI z588, vI z589, .unset, .unset] [(.ref a636), (.ref a635), (.ref a635)])) st637 ?_
    refine Run.st (T637.setTop (mkF m 132 #[vI i0, vI i1, vI i2, vI i3, vI i4, vI 3, vI z586, vI z587, vI z588, vI z589, .unset, .unset] [.int z587, .int 1, (.ref a636), (.ref a636), (.ref a635), (.ref a635)])) (fun _ k => XS.dup A637.here hx rfl (hb hby at_128) rfl rfl (XS.iconst A637.here hx rfl (hb hby at_129) (XS.iload A637.here hx rfl (hb hby at_130) rfl k))) ?_
    obtain ⟨T638, h638, A638, K638, V638, st638⟩ := A637.stC hx V637 (List.mem_of_getElem? (i := 0) rfl) (j := (1 : Int32)) 1 rfl ⟨by decide, by decide⟩ (Nat.le_of_ble_eq_true rfl) (g := (mkF m 132 #[vI i0, vI i1, vI i2, vI i3, vI i4, vI 3, vI z586, vI z587, vI z588, vI z589, .unset, .unset] [.int z587, .int 1, (.ref a636), (.ref a636), (.ref a635), (.ref a635)])) rfl rfl (hb hby at_132)
    refine Run.st (T638.setTop (mkF m 133 #[vI i0, vI i1, vI i2, vI i3, vI i4, vI 3, vI z586, vI z587, vI z588, vI z589, .unset, .unset] [(.ref a636), (.ref a635), (.ref a635)])) st638 ?_
    refine Run.st (T638.setTop (mkF m 137 #[vI i0, vI i1, vI i2, vI i3, vI i4, vI 3, vI z586, vI z587, vI z588, vI z589, .unset, .unset] [.int z588, .int 2, (.ref a636), (.ref a636), (.ref a635), (.ref a635)])) (fun _ k => XS.dup A638.here hx rfl (hb hby at_133) rfl rfl (XS.iconst A638.here hx rfl (hb hby at_134) (XS.iload A638.here hx rfl (hb hby at_135) rfl k))) ?_
    obtain ⟨T639, h639, A639, K639, V639, st639⟩ := A638.stC hx V638 (List.mem_of_getElem? (i := 0) rfl) (j := (2 : Int32)) 2 rfl ⟨by decide, by decide⟩ (Nat.le_of_ble_eq_true rfl) (g := (mkF m 137 #[vI i0, vI i1, vI i2, vI i3, vI i4, vI 3, vI z586, vI z587, vI z588, vI z589, .unset, .unset] [.int z588, .int 2, (.ref a636), (.ref a636), (.ref a635), (.ref a635)])) rfl rfl (hb hby at_137)
    refine Run.st (T639.setTop (mkF m 138 #[vI i0, vI i1, vI i2, vI i3, vI i4, vI 3, vI z586, vI z587, vI z588, vI z589, .unset, .unset] [(.ref a636), (.ref a635), (.ref a635)])) st639 ?_
    have F641 : Fld Z h635 a635 "java/lang/String" "value" "[B" .null := D635 (Or.inr (tw22 H.1)) (ty := (.array .byte)) (by decide)
    have F642 : Fld Z h635 a635 "java/lang/String" "coder" "B" (.int 0) := D635 (Or.inr (tw23 H.1)) (ty := .byte) (by decide)
    have X643 : Ext h635 h636 := E636
    have X644 : Ext h635 h637 := extK X643 K637 (allS (Nat.le_of_eq g636) all0)
    have X645 : Ext h635 h638 := extK X644 K638 (allS (Nat.le_of_eq g636) all0)
    have X646 : Ext h635 h639 := extK X645 K639 (allS (Nat.le_of_eq g636) all0)
    have f647 := Ex635.ext X646
    have f648 := F641.ext X646
    have f649 := F642.ext X646
    have Vc650 : Arv Z h639 a636 kA636 .char (3 : Int32) [(.int z586), (.int z587), (.int z588)] (.int 0) := by
      have k := V639
      rw [D586.nar, D587.nar, D588.nar] at k
      exact k
    obtain ⟨v640, T640, h640, AA640, K640, ⟨L640, Q640⟩, st640⟩ := A639.callI hx (y := (⟨"java/lang/String", "<init>", "([C)V"⟩ : MethodName)) rfl (tw10 H.1) (tw11 H.1) (tw12 H.1) (by decide) (g := (mkF m 138 #[vI i0, vI i1, vI i2, vI i3, vI i4, vI 3, vI z586, vI z587, vI z588, vI z589, .unset, .unset] [(.ref a636), (.ref a635), (.ref a635)])) rfl (by rw [hml]; rfl) a635 [(.ref a636)] [(.ref a635)] (lenOf pd_19 rfl) rfl (Wd := 1) (Nat.le_refl _) (hb hby at_138) (by decide) (by decide) [a635] (fun _ _ _ q => q.2) (allS (List.mem_of_getElem? (i := 1) rfl) all0) (fun vm0 hZ => payN (ct_nw1_3 H a635 .null (.int 0) a636 _ z586 z587 z588 A639.old f647 (A639.nle (List.mem_of_getElem? (i := 1) rfl)) f647.lt f648 f649 Vc650 D586 D587 D588) (tw12 H.1) (tw8 H.1) (by decide) (by decide) hZ)
    obtain ⟨Q640, N640, -⟩ := Q640
    obtain ⟨rfl, S640⟩ := Q640
    have A640 := AA640 [] all0
    refine Run.st (T640.setTop (mkF m 141 #[vI i0, vI i1, vI i2, vI i3, vI i4, vI 3, vI z586, vI z587, vI z588, vI z589, .unset, .unset] [(.ref a635)])) st640 ?_
    refine Run.st (T640.setTop (mkF m 185 #[vI i0, vI i1, vI i2, vI i3, vI i4, vI 3, vI z586, vI z587, vI z588, vI z589, vA a635, .unset] [.int z586])) (fun _ k => XS.astore A640.here hx rfl (hb hby at_141) rfl rfl (l' := #[vI i0, vI i1, vI i2, vI i3, vI i4, vI 3, vI z586, vI z587, vI z588, vI z589, vA a635, .unset]) rfl (XS.goto A640.here hx rfl (pc0 := 143) (pc' := 178) rfl (hb hby at_143) (by decide) (by decide) (XS.iload A640.here hx rfl (hb hby at_178) rfl (XS.ifNo A640.here hx rfl (hb hby at_180) rfl (by decide) (XS.iload A640.here hx rfl (hb hby at_183) rfl k))))) ?_
    obtain ⟨v651, T651, h651, AA651, K651, ⟨L651, Q651⟩, st651⟩ := A640.callS hx (tw48 H.1) (tw49 H.1) (tw3 H.1) (tw50 H.1) (by decide) (g := (mkF m 185 #[vI i0, vI i1, vI i2, vI i3, vI i4, vI 3, vI z586, vI z587, vI z588, vI z589, vA a635, .unset] [.int z586])) rfl (by rw [hml]; rfl) [(.int z586)] [] (lenOf pd_21 rfl) rfl (Wd := 0) (Nat.le_refl _) (hb hby at_185) (by decide) (by decide) [] (fun _ _ _ q => q.2) all0 (fun vm0 hZ => payN (ct_tokc H z586 A640.old) (tw50 H.1) (tw3 H.1) (by decide) (by decide) hZ)
    obtain ⟨Q651, N651, -⟩ := Q651
    obtain ⟨z651, rfl, q651, D651⟩ := Q651
    have q651 := q651.symm
    subst q651
    have A651 := AA651 [] all0
    refine Run.st (T651.setTop (mkF m 188 #[vI i0, vI i1, vI i2, vI i3, vI i4, vI 3, vI z586, vI z587, vI z588, vI z589, vA a635, .unset] [.int z651])) st651 ?_
    rcases D651 with ⟨l651, e651⟩ | ⟨l651, e651⟩
    · subst e651
      refine Run.st (T651.setTop (mkF m 199 #[vI i0, vI i1, vI i2, vI i3, vI i4, vI 3, vI z586, vI z587, vI z588, vI z589, vA a635, .unset] [.int z587])) (fun _ k => XS.ifNo A651.here hx rfl (hb hby at_188) rfl (by decide) (XS.iload A651.here hx rfl (hb hby at_191) rfl (XS.iconst A651.here hx rfl (hb hby at_193) (XS.icmpNo A651.here hx rfl (hb hby at_194) rfl (by decide) (XS.iload A651.here hx rfl (hb hby at_197) rfl k))))) ?_
      obtain ⟨v652, T652, h652, AA652, K652, ⟨L652, Q652⟩, st652⟩ := A651.callS hx (tw48 H.1) (tw49 H.1) (tw3 H.1) (tw50 H.1) (by decide) (g := (mkF m 199 #[vI i0, vI i1, vI i2, vI i3, vI i4, vI 3, vI z586, vI z587, vI z588, vI z589, vA a635, .unset] [.int z587])) rfl (by rw [hml]; rfl) [(.int z587)] [] (lenOf pd_21 rfl) rfl (Wd := 0) (Nat.le_refl _) (hb hby at_199) (by decide) (by decide) [] (fun _ _ _ q => q.2) all0 (fun vm0 hZ => payN (ct_tokc H z587 A651.old) (tw50 H.1) (tw3 H.1) (by decide) (by decide) hZ)
      obtain ⟨Q652, N652, -⟩ := Q652
      obtain ⟨z652, rfl, q652, D652⟩ := Q652
      have q652 := q652.symm
      subst q652
      have A652 := AA652 [] all0
      refine Run.st (T652.setTop (mkF m 202 #[vI i0, vI i1, vI i2, vI i3, vI i4, vI 3, vI z586, vI z587, vI z588, vI z589, vA a635, .unset] [.int z652])) st652 ?_
      rcases D652 with ⟨l652, e652⟩ | ⟨l652, e652⟩
      · subst e652
        refine Run.st (T652.setTop (mkF m 213 #[vI i0, vI i1, vI i2, vI i3, vI i4, vI 3, vI z586, vI z587, vI z588, vI z589, vA a635, .unset] [.int z588])) (fun _ k => XS.ifNo A652.here hx rfl (hb hby at_202) rfl (by decide) (XS.iload A652.here hx rfl (hb hby at_205) rfl (XS.iconst A652.here hx rfl (hb hby at_207) (XS.icmpNo A652.here hx rfl (hb hby at_208) rfl (by decide) (XS.iload A652.here hx rfl (hb hby at_211) rfl k))))) ?_
        obtain ⟨v653, T653, h653, AA653, K653, ⟨L653, Q653⟩, st653⟩ := A652.callS hx (tw48 H.1) (tw49 H.1) (tw3 H.1) (tw50 H.1) (by decide) (g := (mkF m 213 #[vI i0, vI i1, vI i2, vI i3, vI i4, vI 3, vI z586, vI z587, vI z588, vI z589, vA a635, .unset] [.int z588])) rfl (by rw [hml]; rfl) [(.int z588)] [] (lenOf pd_21 rfl) rfl (Wd := 0) (Nat.le_refl _) (hb hby at_213) (by decide) (by decide) [] (fun _ _ _ q => q.2) all0 (fun vm0 hZ => payN (ct_tokc H z588 A652.old) (tw50 H.1) (tw3 H.1) (by decide) (by decide) hZ)
        obtain ⟨Q653, N653, -⟩ := Q653
        obtain ⟨z653, rfl, q653, D653⟩ := Q653
        have q653 := q653.symm
        subst q653
        have A653 := AA653 [] all0
        refine Run.st (T653.setTop (mkF m 216 #[vI i0, vI i1, vI i2, vI i3, vI i4, vI 3, vI z586, vI z587, vI z588, vI z589, vA a635, .unset] [.int z653])) st653 ?_
        rcases D653 with ⟨l653, e653⟩ | ⟨l653, e653⟩
        · subst e653
          refine Run.st (T653.setTop (mkF m 242 #[vI i0, vI i1, vI i2, vI i3, vI i4, vI 3, vI z586, vI z587, vI z588, vI z589, vA a635, vI 1] [(.ref a635)])) (fun _ k => XS.ifNo A653.here hx rfl (hb hby at_216) rfl (by decide) (XS.iload A653.here hx rfl (hb hby at_219) rfl (XS.iconst A653.here hx rfl (hb hby at_221) (XS.icmpYes A653.here hx rfl (pc0 := 222) (pc' := 233) rfl (hb hby at_222) rfl (by decide) (by decide) (by decide) (XS.iconst A653.here hx rfl (hb hby at_233) (XS.goto A653.here hx rfl (pc0 := 234) (pc' := 238) rfl (hb hby at_234) (by decide) (by decide) (XS.istore A653.here hx rfl (hb hby at_238) rfl (l' := #[vI i0, vI i1, vI i2, vI i3, vI i4, vI 3, vI z586, vI z587, vI z588, vI z589, vA a635, vI 1]) rfl (XS.aload A653.here hx rfl (hb hby at_240) rfl rfl k)))))))) ?_
          obtain ⟨v654, T654, h654, A654, K654, ⟨L654, Q654⟩, st654⟩ := A653.callSW hx (tw28 H.1) (tw29 H.1) (tw30 H.1) (tw31 H.1) (by decide) (g := (mkF m 242 #[vI i0, vI i1, vI i2, vI i3, vI i4, vI 3, vI z586, vI z587, vI z588, vI z589, vA a635, vI 1] [(.ref a635)])) rfl (by rw [hml]; rfl) [(.ref a635)] [] (lenOf pd_20 rfl) rfl (Wd := 0) (Nat.le_refl _) (hb hby at_242) (by decide) (by decide) [] (fun _ _ _ q => q.2) all0 (fun vm0 hZ hE hC hS => payW (ct_tok3 H a635 z586 z587 z588 A653.old S640 D586 D587 D588) (tw31 H.1) (tw30 H.1) (by decide) (by decide) hZ hE hC hS)
          obtain ⟨Q654, N654, -⟩ := Q654
          obtain ⟨z654, rfl, X654, D654⟩ := Q654
          refine Run.st (T654.setTop (mkF m 245 #[vI i0, vI i1, vI i2, vI i3, vI i4, vI 3, vI z586, vI z587, vI z588, vI z589, vA a635, vI 1] [.int z654])) st654 ?_
          rcases D654 with ⟨l654, e654⟩ | ⟨l654, e654⟩
          · subst e654
            refine Run.st (T654.setTop (mkF m 255 #[vI i0, vI i1, vI i2, vI i3, vI i4, vI 3, vI z586, vI z587, vI z588, vI z589, vA a635, vI 1] [.int 1])) (fun _ k => XS.iload A654.here hx rfl (hb hby at_245) rfl (XS.icmpNo A654.here hx rfl (hb hby at_247) rfl (by decide) (XS.iconst A654.here hx rfl (hb hby at_250) (XS.goto A654.here hx rfl (pc0 := 251) (pc' := 255) rfl (hb hby at_251) (by decide) (by decide) k)))) ?_
            exact A654.leaveW hlk hh0 (some (.int (1 : Int32))) (fun q => by rw [hrt] at q; cases q) (by decide) (by decide) rfl (fun X hr => retN X hx (t := .boolean) hrt (by simp) (hb hby at_255) hr)
          · subst e654
            exact absurd ⟨(chsS l651 (chsS l652 (chsS l653 chs0))), List.cons_ne_nil _ _⟩ l654
        · subst e653
          refine Run.st (T653.setTop (mkF m 242 #[vI i0, vI i1, vI i2, vI i3, vI i4, vI 3, vI z586, vI z587, vI z588, vI z589, vA a635, vI 0] [(.ref a635)])) (fun _ k => XS.ifYes A653.here hx rfl (pc0 := 216) (pc' := 237) rfl (hb hby at_216) rfl (by decide) (by decide) (by decide) (XS.iconst A653.here hx rfl (hb hby at_237) (XS.istore A653.here hx rfl (hb hby at_238) rfl (l' := #[vI i0, vI i1, vI i2, vI i3, vI i4, vI 3, vI z586, vI z587, vI z588, vI z589, vA a635, vI 0]) rfl (XS.aload A653.here hx rfl (hb hby at_240) rfl rfl k)))) ?_
          obtain ⟨v655, T655, h655, A655, K655, ⟨L655, Q655⟩, st655⟩ := A653.callSW hx (tw28 H.1) (tw29 H.1) (tw30 H.1) (tw31 H.1) (by decide) (g := (mkF m 242 #[vI i0, vI i1, vI i2, vI i3, vI i4, vI 3, vI z586, vI z587, vI z588, vI z589, vA a635, vI 0] [(.ref a635)])) rfl (by rw [hml]; rfl) [(.ref a635)] [] (lenOf pd_20 rfl) rfl (Wd := 0) (Nat.le_refl _) (hb hby at_242) (by decide) (by decide) [] (fun _ _ _ q => q.2) all0 (fun vm0 hZ hE hC hS => payW (ct_tok3 H a635 z586 z587 z588 A653.old S640 D586 D587 D588) (tw31 H.1) (tw30 H.1) (by decide) (by decide) hZ hE hC hS)
          obtain ⟨Q655, N655, -⟩ := Q655
          obtain ⟨z655, rfl, X655, D655⟩ := Q655
          refine Run.st (T655.setTop (mkF m 245 #[vI i0, vI i1, vI i2, vI i3, vI i4, vI 3, vI z586, vI z587, vI z588, vI z589, vA a635, vI 0] [.int z655])) st655 ?_
          rcases D655 with ⟨l655, e655⟩ | ⟨l655, e655⟩
          · subst e655
            exact absurd (l655.1 z588 (List.mem_of_getElem? (i := 2) rfl)) l653
          · subst e655
            refine Run.st (T655.setTop (mkF m 255 #[vI i0, vI i1, vI i2, vI i3, vI i4, vI 3, vI z586, vI z587, vI z588, vI z589, vA a635, vI 0] [.int 1])) (fun _ k => XS.iload A655.here hx rfl (hb hby at_245) rfl (XS.icmpNo A655.here hx rfl (hb hby at_247) rfl (by decide) (XS.iconst A655.here hx rfl (hb hby at_250) (XS.goto A655.here hx rfl (pc0 := 251) (pc' := 255) rfl (hb hby at_251) (by decide) (by decide) k)))) ?_
            exact A655.leaveW hlk hh0 (some (.int (1 : Int32))) (fun q => by rw [hrt] at q; cases q) (by decide) (by decide) rfl (fun X hr => retN X hx (t := .boolean) hrt (by simp) (hb hby at_255) hr)
      · subst e652
        refine Run.st (T652.setTop (mkF m 242 #[vI i0, vI i1, vI i2, vI i3, vI i4, vI 3, vI z586, vI z587, vI z588, vI z589, vA a635, vI 0] [(.ref a635)])) (fun _ k => XS.ifYes A652.here hx rfl (pc0 := 202) (pc' := 237) rfl (hb hby at_202) rfl (by decide) (by decide) (by decide) (XS.iconst A652.here hx rfl (hb hby at_237) (XS.istore A652.here hx rfl (hb hby at_238) rfl (l' := #[vI i0, vI i1, vI i2, vI i3, vI i4, vI 3, vI z586, vI z587, vI z588, vI z589, vA a635, vI 0]) rfl (XS.aload A652.here hx rfl (hb hby at_240) rfl rfl k)))) ?_
        obtain ⟨v656, T656, h656, A656, K656, ⟨L656, Q656⟩, st656⟩ := A652.callSW hx (tw28 H.1) (tw29 H.1) (tw30 H.1) (tw31 H.1) (by decide) (g := (mkF m 242 #[vI i0, vI i1, vI i2, vI i3, vI i4, vI 3, vI z586, vI z587, vI z588, vI z589, vA a635, vI 0] [(.ref a635)])) rfl (by rw [hml]; rfl) [(.ref a635)] [] (lenOf pd_20 rfl) rfl (Wd := 0) (Nat.le_refl _) (hb hby at_242) (by decide) (by decide) [] (fun _ _ _ q => q.2) all0 (fun vm0 hZ hE hC hS => payW (ct_tok3 H a635 z586 z587 z588 A652.old S640 D586 D587 D588) (tw31 H.1) (tw30 H.1) (by decide) (by decide) hZ hE hC hS)
        obtain ⟨Q656, N656, -⟩ := Q656
        obtain ⟨z656, rfl, X656, D656⟩ := Q656
        refine Run.st (T656.setTop (mkF m 245 #[vI i0, vI i1, vI i2, vI i3, vI i4, vI 3, vI z586, vI z587, vI z588, vI z589, vA a635, vI 0] [.int z656])) st656 ?_
        rcases D656 with ⟨l656, e656⟩ | ⟨l656, e656⟩
        · subst e656
          exact absurd (l656.1 z587 (List.mem_of_getElem? (i := 1) rfl)) l652
        · subst e656
          refine Run.st (T656.setTop (mkF m 255 #[vI i0, vI i1, vI i2, vI i3, vI i4, vI 3, vI z586, vI z587, vI z588, vI z589, vA a635, vI 0] [.int 1])) (fun _ k => XS.iload A656.here hx rfl (hb hby at_245) rfl (XS.icmpNo A656.here hx rfl (hb hby at_247) rfl (by decide) (XS.iconst A656.here hx rfl (hb hby at_250) (XS.goto A656.here hx rfl (pc0 := 251) (pc' := 255) rfl (hb hby at_251) (by decide) (by decide) k)))) ?_
          exact A656.leaveW hlk hh0 (some (.int (1 : Int32))) (fun q => by rw [hrt] at q; cases q) (by decide) (by decide) rfl (fun X hr => retN X hx (t := .boolean) hrt (by simp) (hb hby at_255) hr)
    · subst e651
      refine Run.st (T651.setTop (mkF m 242 #[vI i0, vI i1, vI i2, vI i3, vI i4, vI 3, vI z586, vI z587, vI z588, vI z589, vA a635, vI 0] [(.ref a635)])) (fun _ k => XS.ifYes A651.here hx rfl (pc0 := 188) (pc' := 237) rfl (hb hby at_188) rfl (by decide) (by decide) (by decide) (XS.iconst A651.here hx rfl (hb hby at_237) (XS.istore A651.here hx rfl (hb hby at_238) rfl (l' := #[vI i0, vI i1, vI i2, vI i3, vI i4, vI 3, vI z586, vI z587, vI z588, vI z589, vA a635, vI 0]) rfl (XS.aload A651.here hx rfl (hb hby at_240) rfl rfl k)))) ?_
      obtain ⟨v657, T657, h657, A657, K657, ⟨L657, Q657⟩, st657⟩ := A651.callSW hx (tw28 H.1) (tw29 H.1) (tw30 H.1) (tw31 H.1) (by decide) (g := (mkF m 242 #[vI i0, vI i1, vI i2, vI i3, vI i4, vI 3, vI z586, vI z587, vI z588, vI z589, vA a635, vI 0] [(.ref a635)])) rfl (by rw [hml]; rfl) [(.ref a635)] [] (lenOf pd_20 rfl) rfl (Wd := 0) (Nat.le_refl _) (hb hby at_242) (by decide) (by decide) [] (fun _ _ _ q => q.2) all0 (fun vm0 hZ hE hC hS => payW (ct_tok3 H a635 z586 z587 z588 A651.old S640 D586 D587 D588) (tw31 H.1) (tw30 H.1) (by decide) (by decide) hZ hE hC hS)
      obtain ⟨Q657, N657, -⟩ := Q657
      obtain ⟨z657, rfl, X657, D657⟩ := Q657
      refine Run.st (T657.setTop (mkF m 245 #[vI i0, vI i1, vI i2, vI i3, vI i4, vI 3, vI z586, vI z587, vI z588, vI z589, vA a635, vI 0] [.int z657])) st657 ?_
      rcases D657 with ⟨l657, e657⟩ | ⟨l657, e657⟩
      · subst e657
        exact absurd (l657.1 z586 (List.mem_of_getElem? (i := 0) rfl)) l651
      · subst e657
        refine Run.st (T657.setTop (mkF m 255 #[vI i0, vI i1, vI i2, vI i3, vI i4, vI 3, vI z586, vI z587, vI z588, vI z589, vA a635, vI 0] [.int 1])) (fun _ k => XS.iload A657.here hx rfl (hb hby at_245) rfl (XS.icmpNo A657.here hx rfl (hb hby at_247) rfl (by decide) (XS.iconst A657.here hx rfl (hb hby at_250) (XS.goto A657.here hx rfl (pc0 := 251) (pc' := 255) rfl (hb hby at_251) (by decide) (by decide) k)))) ?_
        exact A657.leaveW hlk hh0 (some (.int (1 : Int32))) (fun q => by rw [hrt] at q; cases q) (by decide) (by decide) rfl (fun X hr => retN X hx (t := .boolean) hrt (by simp) (hb hby at_255) hr)
  · rw [hn]
    refine Run.st (T589.setTop (mkF m 113 #[vI i0, vI i1, vI i2, vI i3, vI i4, vI 4, vI z586, vI z587, vI z588, vI z589, .unset, .unset] [.int 3, .int 4])) (fun _ k => XS.ifYes A589.here hx rfl (pc0 := 35) (pc' := 53) rfl (hb hby at_35) rfl (by decide) (by decide) (by decide) (XS.iload A589.here hx rfl (hb hby at_53) rfl (XS.iconst A589.here hx rfl (hb hby at_55) (XS.icmpYes A589.here hx rfl (pc0 := 56) (pc' := 79) rfl (hb hby at_56) rfl (by decide) (by decide) (by decide) (XS.iload A589.here hx rfl (hb hby at_79) rfl (XS.iconst A589.here hx rfl (hb hby at_81) (XS.icmpYes A589.here hx rfl (pc0 := 82) (pc' := 110) rfl (hb hby at_82) rfl (by decide) (by decide) (by decide) (XS.iload A589.here hx rfl (hb hby at_110) rfl (XS.iconst A589.here hx rfl (hb hby at_112) k))))))))) ?_
    refine Run.st (T589.setTop (mkF m 146 #[vI i0, vI i1, vI i2, vI i3, vI i4, vI 4, vI z586, vI z587, vI z588, vI z589, .unset, .unset] [])) (fun _ k => XS.icmpYes A589.here hx rfl (pc0 := 113) (pc' := 146) rfl (hb hby at_113) rfl (by decide) (by decide) (by decide) k) ?_
    obtain ⟨a658, T658, h658, A658, E658, g658, Ex658, D658, st658⟩ := A589.newO hx (tw6 H.1) (tw7 H.1) (tw8 H.1) (g := (mkF m 146 #[vI i0, vI i1, vI i2, vI i3, vI i4, vI 4, vI z586, vI z587, vI z588, vI z589, .unset, .unset] [])) rfl (hb hby at_146) (by decide) (by decide)
    refine Run.st (T658.setTop (mkF m 149 #[vI i0, vI i1, vI i2, vI i3, vI i4, vI 4, vI z586, vI z587, vI z588, vI z589, .unset, .unset] [(.ref a658)])) st658 ?_
    refine Run.st (T658.setTop (mkF m 151 #[vI i0, vI i1, vI i2, vI i3, vI i4, vI 4, vI z586, vI z587, vI z588, vI z589, .unset, .unset] [.int 4, (.ref a658), (.ref a658)])) (fun _ k => XS.dup A658.here hx rfl (hb hby at_149) rfl rfl (XS.iconst A658.here hx rfl (hb hby at_150) k)) ?_
    obtain ⟨a659, T659, h659, kA659, A659, E659, g659, V659, st659⟩ := A658.newP hx (aty := .char) (N := (4 : Int32)) (tw9 H.1) (g := (mkF m 151 #[vI i0, vI i1, vI i2, vI i3, vI i4, vI 4, vI z586, vI z587, vI z588, vI z589, .unset, .unset] [.int 4, (.ref a658), (.ref a658)])) rfl (hb hby at_151) rfl (by decide) (cap := 4) (by decide) (by decide) (by decide) (by decide)
    refine Run.st (T659.setTop (mkF m 153 #[vI i0, vI i1, vI i2, vI i3, vI i4, vI 4, vI z586, vI z587, vI z588, vI z589, .unset, .unset] [(.ref a659), (.ref a658), (.ref a658)])) st659 ?_
    refine Run.st (T659.setTop (mkF m 157 #[vI i0, vI i1, vI i2, vI i3, vI i4, vI 4, vI z586, vI z587, vI z588, vI z589, .unset, .unset] [.int z586, .int 0, (.ref a659), (.ref a659), (.ref a658), (.ref a658)])) (fun _ k => XS.dup A659.here hx rfl (hb hby at_153) rfl rfl (XS.iconst A659.here hx rfl (hb hby at_154) (XS.iload A659.here hx rfl (hb hby at_155) rfl k))) ?_
    obtain ⟨T660, h660, A660, K660, V660, st660⟩ := A659.stC hx V659 (List.mem_of_getElem? (i := 0) rfl) (j := (0 : Int32)) 0 rfl ⟨by decide, by decide⟩ (Nat.le_of_ble_eq_true rfl) (g := (mkF m 157 #[vI i0, vI i1, vI i2, vI i3, vI i4, vI 4, vI z586, vI z587, vI z588, vI z589, .unset, .unset] [.int z586, .int 0, (.ref a659), (.ref a659), (.ref a658), (.ref a658)])) rfl rfl (hb hby at_157)
    refine Run.st (T660.setTop (mkF m 158 #[vI i0, vI i1, vI i2, vI i3, vI i4, vI 4, vI z586, vI z587, vI z588, vI z589, .unset, .unset] [(.ref a659), (.ref a658), (.ref a658)])) st660 ?_
    refine Run.st (T660.setTop (mkF m 162 #[vI i0, vI i1, vI i2, vI i3, vI i4, vI 4, vI z586, vI z587, vI z588, vI z589, .unset, .unset] [.int z587, .int 1, (.ref a659), (.ref a659), (.ref a658), (.ref a658)])) (fun _ k => XS.dup A660.here hx rfl (hb hby at_158) rfl rfl (XS.iconst A660.here hx rfl (hb hby at_159) (XS.iload A660.here hx rfl (hb hby at_160) rfl k))) ?_
    obtain ⟨T661, h661, A661, K661, V661, st661⟩ := A660.stC hx V660 (List.mem_of_getElem? (i := 0) rfl) (j := (1 : Int32)) 1 rfl ⟨by decide, by decide⟩ (Nat.le_of_ble_eq_true rfl) (g := (mkF m 162 #[vI i0, vI i1, vI i2, vI i3, vI i4, vI 4, vI z586, vI z587, vI z588, vI z589, .unset, .unset] [.int z587, .int 1, (.ref a659), (.ref a659), (.ref a658), (.ref a658)])) rfl rfl (hb hby at_162)
    refine Run.st (T661.setTop (mkF m 163 #[vI i0, vI i1, vI i2, vI i3, vI i4, vI 4, vI z586, vI z587, vI z588, vI z589, .unset, .unset] [(.ref a659), (.ref a658), (.ref a658)])) st661 ?_
    refine Run.st (T661.setTop (mkF m 167 #[vI i0, vI i1, vI i2, vI i3, vI i4, vI 4, vI z586, vI z587, vI z588, vI z589, .unset, .unset] [.int z588, .int 2, (.ref a659), (.ref a659), (.ref a658), (.ref a658)])) (fun _ k => XS.dup A661.here hx rfl (hb hby at_163) rfl rfl (XS.iconst A661.here hx rfl (hb hby at_164) (XS.iload A661.here hx rfl (hb hby at_165) rfl k))) ?_
    obtain ⟨T662, h662, A662, K662, V662, st662⟩ := A661.stC hx V661 (List.mem_of_getElem? (i := 0) rfl) (j := (2 : Int32)) 2 rfl ⟨by decide, by decide⟩ (Nat.le_of_ble_eq_true rfl) (g := (mkF m 167 #[vI i0, vI i1, vI i2, vI i3, vI i4, vI 4, vI z586, vI z587, vI z588, vI z589, .unset, .unset] [.int z588, .int 2, (.ref a659), (.ref a659), (.ref a658), (.ref a658)])) rfl rfl (hb hby at_167)
    refine Run.st (T662.setTop (mkF m 168 #[vI i0, vI i1, vI i2, vI i3, vI i4, vI 4, vI z586, vI z587, vI z588, vI z589, .unset, .unset] [(.ref a659), (.ref a658), (.ref a658)])) st662 ?_
    refine Run.st (T662.setTop (mkF m 172 #[vI i0, vI i1, vI i2, vI i3, vI i4, vI 4, vI z586, vI z587, vI z588, vI z589, .unset, .unset] [.int z589, .int 3, (.ref a659), (.ref a659), (.ref a658), (.ref a658)])) (fun _ k => XS.dup A662.here hx rfl (hb hby at_168) rfl rfl (XS.iconst A662.here hx rfl (hb hby at_169) (XS.iload A662.here hx rfl (hb hby at_170) rfl k))) ?_
    obtain ⟨T663, h663, A663, K663, V663, st663⟩ := A662.stC hx V662 (List.mem_of_getElem? (i := 0) rfl) (j := (3 : Int32)) 3 rfl ⟨by decide, by decide⟩ (Nat.le_of_ble_eq_true rfl) (g := (mkF m 172 #[vI i0, vI i1, vI i2, vI i3, vI i4, vI 4, vI z586, vI z587, vI z588, vI z589, .unset, .unset] [.int z589, .int 3, (.ref a659), (.ref a659), (.ref a658), (.ref a658)])) rfl rfl (hb hby at_172)
    refine Run.st (T663.setTop (mkF m 173 #[vI i0, vI i1, vI i2, vI i3, vI i4, vI 4, vI z586, vI z587, vI z588, vI z589, .unset, .unset] [(.ref a659), (.ref a658), (.ref a658)])) st663 ?_
    have F665 : Fld Z h658 a658 "java/lang/String" "value" "[B" .null := D658 (Or.inr (tw22 H.1)) (ty := (.array .byte)) (by decide)
    have F666 : Fld Z h658 a658 "java/lang/String" "coder" "B" (.int 0) := D658 (Or.inr (tw23 H.1)) (ty := .byte) (by decide)
    have X667 : Ext h658 h659 := E659
    have X668 : Ext h658 h660 := extK X667 K660 (allS (Nat.le_of_eq g659) all0)
    have X669 : Ext h658 h661 := extK X668 K661 (allS (Nat.le_of_eq g659) all0)
    have X670 : Ext h658 h662 := extK X669 K662 (allS (Nat.le_of_eq g659) all0)
    have X671 : Ext h658 h663 := extK X670 K663 (allS (Nat.le_of_eq g659) all0)
    have f672 := Ex658.ext X671
    have f673 := F665.ext X671
    have f674 := F666.ext X671
    have Vc675 : Arv Z h663 a659 kA659 .char (4 : Int32) [(.int z586), (.int z587), (.int z588), (.int z589)] (.int 0) := by
      have k := V663
      rw [D586.nar, D587.nar, D588.nar, D589.nar] at k
      exact k
    obtain ⟨v664, T664, h664, AA664, K664, ⟨L664, Q664⟩, st664⟩ := A663.callI hx (y := (⟨"java/lang/String", "<init>", "([C)V"⟩ : MethodName)) rfl (tw10 H.1) (tw11 H.1) (tw12 H.1) (by decide) (g := (mkF m 173 #[vI i0, vI i1, vI i2, vI i3, vI i4, vI 4, vI z586, vI z587, vI z588, vI z589, .unset, .unset] [(.ref a659), (.ref a658), (.ref a658)])) rfl (by rw [hml]; rfl) a658 [(.ref a659)] [(.ref a658)] (lenOf pd_19 rfl) rfl (Wd := 1) (Nat.le_refl _) (hb hby at_173) (by decide) (by decide) [a658] (fun _ _ _ q => q.2) (allS (List.mem_of_getElem? (i := 1) rfl) all0) (fun vm0 hZ => payN (ct_nw1_4 H a658 .null (.int 0) a659 _ z586 z587 z588 z589 A663.old f672 (A663.nle (List.mem_of_getElem? (i := 1) rfl)) f672.lt f673 f674 Vc675 D586 D587 D588 D589) (tw12 H.1) (tw8 H.1) (by decide) (by decide) hZ)
    obtain ⟨Q664, N664, -⟩ := Q664
    obtain ⟨rfl, S664⟩ := Q664
    have A664 := AA664 [] all0
    refine Run.st (T664.setTop (mkF m 176 #[vI i0, vI i1, vI i2, vI i3, vI i4, vI 4, vI z586, vI z587, vI z588, vI z589, .unset, .unset] [(.ref a658)])) st664 ?_
    refine Run.st (T664.setTop (mkF m 185 #[vI i0, vI i1, vI i2, vI i3, vI i4, vI 4, vI z586, vI z587, vI z588, vI z589, vA a658, .unset] [.int z586])) (fun _ k => XS.astore A664.here hx rfl (hb hby at_176) rfl rfl (l' := #[vI i0, vI i1, vI i2, vI i3, vI i4, vI 4, vI z586, vI z587, vI z588, vI z589, vA a658, .unset]) rfl (XS.iload A664.here hx rfl (hb hby at_178) rfl (XS.ifNo A664.here hx rfl (hb hby at_180) rfl (by decide) (XS.iload A664.here hx rfl (hb hby at_183) rfl k)))) ?_
    obtain ⟨v676, T676, h676, AA676, K676, ⟨L676, Q676⟩, st676⟩ := A664.callS hx (tw48 H.1) (tw49 H.1) (tw3 H.1) (tw50 H.1) (by decide) (g := (mkF m 185 #[vI i0, vI i1, vI i2, vI i3, vI i4, vI 4, vI z586, vI z587, vI z588, vI z589, vA a658, .unset] [.int z586])) rfl (by rw [hml]; rfl) [(.int z586)] [] (lenOf pd_21 rfl) rfl (Wd := 0) (Nat.le_refl _) (hb hby at_185) (by decide) (by decide) [] (fun _ _ _ q => q.2) all0 (fun vm0 hZ => payN (ct_tokc H z586 A664.old) (tw50 H.1) (tw3 H.1) (by decide) (by decide) hZ)
    obtain ⟨Q676, N676, -⟩ := Q676
    obtain ⟨z676, rfl, q676, D676⟩ := Q676
    have q676 := q676.symm
    subst q676
    have A676 := AA676 [] all0
    refine Run.st (T676.setTop (mkF m 188 #[vI i0, vI i1, vI i2, vI i3, vI i4, vI 4, vI z586, vI z587, vI z588, vI z589, vA a658, .unset] [.int z676])) st676 ?_
    rcases D676 with ⟨l676, e676⟩ | ⟨l676, e676⟩
    · subst e676
      refine Run.st (T676.setTop (mkF m 199 #[vI i0, vI i1, vI i2, vI i3, vI i4, vI 4, vI z586, vI z587, vI z588, vI z589, vA a658, .unset] [.int z587])) (fun _ k => XS.ifNo A676.here hx rfl (hb hby at_188) rfl (by decide) (XS.iload A676.here hx rfl (hb hby at_191) rfl (XS.iconst A676.here hx rfl (hb hby at_193) (XS.icmpNo A676.here hx rfl (hb hby at_194) rfl (by decide) (XS.iload A676.here hx rfl (hb hby at_197) rfl k))))) ?_
      obtain ⟨v677, T677, h677, AA677, K677, ⟨L677, Q677⟩, st677⟩ := A676.callS hx (tw48 H.1) (tw49 H.1) (tw3 H.1) (tw50 H.1) (by decide) (g := (mkF m 199 #[vI i0, vI i1, vI i2, vI i3, vI i4, vI 4, vI z586, vI z587, vI z588, vI z589, vA a658, .unset] [.int z587])) rfl (by rw [hml]; rfl) [(.int z587)] [] (lenOf pd_21 rfl) rfl (Wd := 0) (Nat.le_refl _) (hb hby at_199) (by decide) (by decide) [] (fun _ _ _ q => q.2) all0 (fun vm0 hZ => payN (ct_tokc H z587 A676.old) (tw50 H.1) (tw3 H.1) (by decide) (by decide) hZ)
      obtain ⟨Q677, N677, -⟩ := Q677
      obtain ⟨z677, rfl, q677, D677⟩ := Q677
      have q677 := q677.symm
      subst q677
      have A677 := AA677 [] all0
      refine Run.st (T677.setTop (mkF m 202 #[vI i0, vI i1, vI i2, vI i3, vI i4, vI 4, vI z586, vI z587, vI z588, vI z589, vA a658, .unset] [.int z677])) st677 ?_
      rcases D677 with ⟨l677, e677⟩ | ⟨l677, e677⟩
      · subst e677
        refine Run.st (T677.setTop (mkF m 213 #[vI i0, vI i1, vI i2, vI i3, vI i4, vI 4, vI z586, vI z587, vI z588, vI z589, vA a658, .unset] [.int z588])) (fun _ k => XS.ifNo A677.here hx rfl (hb hby at_202) rfl (by decide) (XS.iload A677.here hx rfl (hb hby at_205) rfl (XS.iconst A677.here hx rfl (hb hby at_207) (XS.icmpNo A677.here hx rfl (hb hby at_208) rfl (by decide) (XS.iload A677.here hx rfl (hb hby at_211) rfl k))))) ?_
        obtain ⟨v678, T678, h678, AA678, K678, ⟨L678, Q678⟩, st678⟩ := A677.callS hx (tw48 H.1) (tw49 H.1) (tw3 H.1) (tw50 H.1) (by decide) (g := (mkF m 213 #[vI i0, vI i1, vI i2, vI i3, vI i4, vI 4, vI z586, vI z587, vI z588, vI z589, vA a658, .unset] [.int z588])) rfl (by rw [hml]; rfl) [(.int z588)] [] (lenOf pd_21 rfl) rfl (Wd := 0) (Nat.le_refl _) (hb hby at_213) (by decide) (by decide) [] (fun _ _ _ q => q.2) all0 (fun vm0 hZ => payN (ct_tokc H z588 A677.old) (tw50 H.1) (tw3 H.1) (by decide) (by decide) hZ)
        obtain ⟨Q678, N678, -⟩ := Q678
        obtain ⟨z678, rfl, q678, D678⟩ := Q678
        have q678 := q678.symm
        subst q678
        have A678 := AA678 [] all0
        refine Run.st (T678.setTop (mkF m 216 #[vI i0, vI i1, vI i2, vI i3, vI i4, vI 4, vI z586, vI z587, vI z588, vI z589, vA a658, .unset] [.int z678])) st678 ?_
        rcases D678 with ⟨l678, e678⟩ | ⟨l678, e678⟩
        · subst e678
          refine Run.st (T678.setTop (mkF m 227 #[vI i0, vI i1, vI i2, vI i3, vI i4, vI 4, vI z586, vI z587, vI z588, vI z589, vA a658, .unset] [.int z589])) (fun _ k => XS.ifNo A678.here hx rfl (hb hby at_216) rfl (by decide) (XS.iload A678.here hx rfl (hb hby at_219) rfl (XS.iconst A678.here hx rfl (hb hby at_221) (XS.icmpNo A678.here hx rfl (hb hby at_222) rfl (by decide) (XS.iload A678.here hx rfl (hb hby at_225) rfl k))))) ?_
          obtain ⟨v679, T679, h679, AA679, K679, ⟨L679, Q679⟩, st679⟩ := A678.callS hx (tw48 H.1) (tw49 H.1) (tw3 H.1) (tw50 H.1) (by decide) (g := (mkF m 227 #[vI i0, vI i1, vI i2, vI i3, vI i4, vI 4, vI z586, vI z587, vI z588, vI z589, vA a658, .unset] [.int z589])) rfl (by rw [hml]; rfl) [(.int z589)] [] (lenOf pd_21 rfl) rfl (Wd := 0) (Nat.le_refl _) (hb hby at_227) (by decide) (by decide) [] (fun _ _ _ q => q.2) all0 (fun vm0 hZ => payN (ct_tokc H z589 A678.old) (tw50 H.1) (tw3 H.1) (by decide) (by decide) hZ)
          obtain ⟨Q679, N679, -⟩ := Q679
          obtain ⟨z679, rfl, q679, D679⟩ := Q679
          have q679 := q679.symm
          subst q679
          have A679 := AA679 [] all0
          refine Run.st (T679.setTop (mkF m 230 #[vI i0, vI i1, vI i2, vI i3, vI i4, vI 4, vI z586, vI z587, vI z588, vI z589, vA a658, .unset] [.int z679])) st679 ?_
          rcases D679 with ⟨l679, e679⟩ | ⟨l679, e679⟩
          · subst e679
            refine Run.st (T679.setTop (mkF m 242 #[vI i0, vI i1, vI i2, vI i3, vI i4, vI 4, vI z586, vI z587, vI z588, vI z589, vA a658, vI 1] [(.ref a658)])) (fun _ k => XS.ifNo A679.here hx rfl (hb hby at_230) rfl (by decide) (XS.iconst A679.here hx rfl (hb hby at_233) (XS.goto A679.here hx rfl (pc0 := 234) (pc' := 238) rfl (hb hby at_234) (by decide) (by decide) (XS.istore A679.here hx rfl (hb hby at_238) rfl (l' := #[vI i0, vI i1, vI i2, vI i3, vI i4, vI 4, vI z586, vI z587, vI z588, vI z589, vA a658, vI 1]) rfl (XS.aload A679.here hx rfl (hb hby at_240) rfl rfl k))))) ?_
            obtain ⟨v680, T680, h680, A680, K680, ⟨L680, Q680⟩, st680⟩ := A679.callSW hx (tw28 H.1) (tw29 H.1) (tw30 H.1) (tw31 H.1) (by decide) (g := (mkF m 242 #[vI i0, vI i1, vI i2, vI i3, vI i4, vI 4, vI z586, vI z587, vI z588, vI z589, vA a658, vI 1] [(.ref a658)])) rfl (by rw [hml]; rfl) [(.ref a658)] [] (lenOf pd_20 rfl) rfl (Wd := 0) (Nat.le_refl _) (hb hby at_242) (by decide) (by decide) [] (fun _ _ _ q => q.2) all0 (fun vm0 hZ hE hC hS => payW (ct_tok4 H a658 z586 z587 z588 z589 A679.old S664 D586 D587 D588 D589) (tw31 H.1) (tw30 H.1) (by decide) (by decide) hZ hE hC hS)
            obtain ⟨Q680, N680, -⟩ := Q680
            obtain ⟨z680, rfl, X680, D680⟩ := Q680
            refine Run.st (T680.setTop (mkF m 245 #[vI i0, vI i1, vI i2, vI i3, vI i4, vI 4, vI z586, vI z587, vI z588, vI z589, vA a658, vI 1] [.int z680])) st680 ?_
            rcases D680 with ⟨l680, e680⟩ | ⟨l680, e680⟩
            · subst e680
              refine Run.st (T680.setTop (mkF m 255 #[vI i0, vI i1, vI i2, vI i3, vI i4, vI 4, vI z586, vI z587, vI z588, vI z589, vA a658, vI 1] [.int 1])) (fun _ k => XS.iload A680.here hx rfl (hb hby at_245) rfl (XS.icmpNo A680.here hx rfl (hb hby at_247) rfl (by decide) (XS.iconst A680.here hx rfl (hb hby at_250) (XS.goto A680.here hx rfl (pc0 := 251) (pc' := 255) rfl (hb hby at_251) (by decide) (by decide) k)))) ?_
              exact A680.leaveW hlk hh0 (some (.int (1 : Int32))) (fun q => by rw [hrt] at q; cases q) (by decide) (by decide) rfl (fun X hr => retN X hx (t := .boolean) hrt (by simp) (hb hby at_255) hr)
            · subst e680
              exact absurd ⟨(chsS l676 (chsS l677 (chsS l678 (chsS l679 chs0)))), List.cons_ne_nil _ _⟩ l680
          · subst e679
            refine Run.st (T679.setTop (mkF m 242 #[vI i0, vI i1, vI i2, vI i3, vI i4, vI 4, vI z586, vI z587, vI z588, vI z589, vA a658, vI 0] [(.ref a658)])) (fun _ k => XS.ifYes A679.here hx rfl (pc0 := 230) (pc' := 237) rfl (hb hby at_230) rfl (by decide) (by decide) (by decide) (XS.iconst A679.here hx rfl (hb hby at_237) (XS.istore A679.here hx rfl (hb hby at_238) rfl (l' := #[vI i0, vI i1, vI i2, vI i3, vI i4, vI 4, vI z586, vI z587, vI z588, vI z589, vA a658, vI 0]) rfl (XS.aload A679.here hx rfl (hb hby at_240) rfl rfl k)))) ?_
            obtain ⟨v681, T681, h681, A681, K681, ⟨L681, Q681⟩, st681⟩ := A679.callSW hx (tw28 H.1) (tw29 H.1) (tw30 H.1) (tw31 H.1) (by decide) (g := (mkF m 242 #[vI i0, vI i1, vI i2, vI i3, vI i4, vI 4, vI z586, vI z587, vI z588, vI z589, vA a658, vI 0] [(.ref a658)])) rfl (by rw [hml]; rfl) [(.ref a658)] [] (lenOf pd_20 rfl) rfl (Wd := 0) (Nat.le_refl _) (hb hby at_242) (by decide) (by decide) [] (fun _ _ _ q => q.2) all0 (fun vm0 hZ hE hC hS => payW (ct_tok4 H a658 z586 z587 z588 z589 A679.old S664 D586 D587 D588 D589) (tw31 H.1) (tw30 H.1) (by decide) (by decide) hZ hE hC hS)
            obtain ⟨Q681, N681, -⟩ := Q681
            obtain ⟨z681, rfl, X681, D681⟩ := Q681
            refine Run.st (T681.setTop (mkF m 245 #[vI i0, vI i1, vI i2, vI i3, vI i4, vI 4, vI z586, vI z587, vI z588, vI z589, vA a658, vI 0] [.int z681])) st681 ?_
            rcases D681 with ⟨l681, e681⟩ | ⟨l681, e681⟩
            · subst e681
              exact absurd (l681.1 z589 (List.mem_of_getElem? (i := 3) rfl)) l679
            · subst e681
              refine Run.st (T681.setTop (mkF m 255 #[vI i0, vI i1, vI i2, vI i3, vI i4, vI 4, vI z586, vI z587, vI z588, vI z589, vA a658, vI 0] [.int 1])) (fun _ k => XS.iload A681.here hx rfl (hb hby at_245) rfl (XS.icmpNo A681.here hx rfl (hb hby at_247) rfl (by decide) (XS.iconst A681.here hx rfl (hb hby at_250) (XS.goto A681.here hx rfl (pc0 := 251) (pc' := 255) rfl (hb hby at_251) (by decide) (by decide) k)))) ?_
              exact A681.leaveW hlk hh0 (some (.int (1 : Int32))) (fun q => by rw [hrt] at q; cases q) (by decide) (by decide) rfl (fun X hr => retN X hx (t := .boolean) hrt (by simp) (hb hby at_255) hr)
        · subst e678
          refine Run.st (T678.setTop (mkF m 242 #[vI i0, vI i1, vI i2, vI i3, vI i4, vI 4, vI z586, vI z587, vI z588, vI z589, vA a658, vI 0] [(.ref a658)])) (fun _ k => XS.ifYes A678.here hx rfl (pc0 := 216) (pc' := 237) rfl (hb hby at_216) rfl (by decide) (by decide) (by decide) (XS.iconst A678.here hx rfl (hb hby at_237) (XS.istore A678.here hx rfl (hb hby at_238) rfl (l' := #[vI i0, vI i1, vI i2, vI i3, vI i4, vI 4, vI z586, vI z587, vI z588, vI z589, vA a658, vI 0]) rfl (XS.aload A678.here hx rfl (hb hby at_240) rfl rfl k)))) ?_
          obtain ⟨v682, T682, h682, A682, K682, ⟨L682, Q682⟩, st682⟩ := A678.callSW hx (tw28 H.1) (tw29 H.1) (tw30 H.1) (tw31 H.1) (by decide) (g := (mkF m 242 #[vI i0, vI i1, vI i2, vI i3, vI i4, vI 4, vI z586, vI z587, vI z588, vI z589, vA a658, vI 0] [(.ref a658)])) rfl (by rw [hml]; rfl) [(.ref a658)] [] (lenOf pd_20 rfl) rfl (Wd := 0) (Nat.le_refl _) (hb hby at_242) (by decide) (by decide) [] (fun _ _ _ q => q.2) all0 (fun vm0 hZ hE hC hS => payW (ct_tok4 H a658 z586 z587 z588 z589 A678.old S664 D586 D587 D588 D589) (tw31 H.1) (tw30 H.1) (by decide) (by decide) hZ hE hC hS)
          obtain ⟨Q682, N682, -⟩ := Q682
          obtain ⟨z682, rfl, X682, D682⟩ := Q682
          refine Run.st (T682.setTop (mkF m 245 #[vI i0, vI i1, vI i2, vI i3, vI i4, vI 4, vI z586, vI z587, vI z588, vI z589, vA a658, vI 0] [.int z682])) st682 ?_
          rcases D682 with ⟨l682, e682⟩ | ⟨l682, e682⟩
          · subst e682
            exact absurd (l682.1 z588 (List.mem_of_getElem? (i := 2) rfl)) l678
          · subst e682
            refine Run.st (T682.setTop (mkF m 255 #[vI i0, vI i1, vI i2, vI i3, vI i4, vI 4, vI z586, vI z587, vI z588, vI z589, vA a658, vI 0] [.int 1])) (fun _ k => XS.iload A682.here hx rfl (hb hby at_245) rfl (XS.icmpNo A682.here hx rfl (hb hby at_247) rfl (by decide) (XS.iconst A682.here hx rfl (hb hby at_250) (XS.goto A682.here hx rfl (pc0 := 251) (pc' := 255) rfl (hb hby at_251) (by decide) (by decide) k)))) ?_
            exact A682.leaveW hlk hh0 (some (.int (1 : Int32))) (fun q => by rw [hrt] at q; cases q) (by decide) (by decide) rfl (fun X hr => retN X hx (t := .boolean) hrt (by simp) (hb hby at_255) hr)
      · subst e677
        refine Run.st (T677.setTop (mkF m 242 #[vI i0, vI i1, vI i2, vI i3, vI i4, vI 4, vI z586, vI z587, vI z588, vI z589, vA a658, vI 0] [(.ref a658)])) (fun _ k => XS.ifYes A677.here hx rfl (pc0 := 202) (pc' := 237) rfl (hb hby at_202) rfl (by decide) (by decide) (by decide) (XS.iconst A677.here hx rfl (hb hby at_237) (XS.istore A677.here hx rfl (hb hby at_238) rfl (l' := #[vI i0, vI i1, vI i2, vI i3, vI i4, vI 4, vI z586, vI z587, vI z588, vI z589, vA a658, vI 0]) rfl (XS.aload A677.here hx rfl (hb hby at_240) rfl rfl k)))) ?_
        obtain ⟨v683, T683, h683, A683, K683, ⟨L683, Q683⟩, st683⟩ := A677.callSW hx (tw28 H.1) (tw29 H.1) (tw30 H.1) (tw31 H.1) (by decide) (g := (mkF m 242 #[vI i0, vI i1, vI i2, vI i3, vI i4, vI 4, vI z586, vI z587, vI z588, vI z589, vA a658, vI 0] [(.ref a658)])) rfl (by rw [hml]; rfl) [(.ref a658)] [] (lenOf pd_20 rfl) rfl (Wd := 0) (Nat.le_refl _) (hb hby at_242) (by decide) (by decide) [] (fun _ _ _ q => q.2) all0 (fun vm0 hZ hE hC hS => payW (ct_tok4 H a658 z586 z587 z588 z589 A677.old S664 D586 D587 D588 D589) (tw31 H.1) (tw30 H.1) (by decide) (by decide) hZ hE hC hS)
        obtain ⟨Q683, N683, -⟩ := Q683
        obtain ⟨z683, rfl, X683, D683⟩ := Q683
        refine Run.st (T683.setTop (mkF m 245 #[vI i0, vI i1, vI i2, vI i3, vI i4, vI 4, vI z586, vI z587, vI z588, vI z589, vA a658, vI 0] [.int z683])) st683 ?_
        rcases D683 with ⟨l683, e683⟩ | ⟨l683, e683⟩
        · subst e683
          exact absurd (l683.1 z587 (List.mem_of_getElem? (i := 1) rfl)) l677
        · subst e683
          refine Run.st (T683.setTop (mkF m 255 #[vI i0, vI i1, vI i2, vI i3, vI i4, vI 4, vI z586, vI z587, vI z588, vI z589, vA a658, vI 0] [.int 1])) (fun _ k => XS.iload A683.here hx rfl (hb hby at_245) rfl (XS.icmpNo A683.here hx rfl (hb hby at_247) rfl (by decide) (XS.iconst A683.here hx rfl (hb hby at_250) (XS.goto A683.here hx rfl (pc0 := 251) (pc' := 255) rfl (hb hby at_251) (by decide) (by decide) k)))) ?_
          exact A683.leaveW hlk hh0 (some (.int (1 : Int32))) (fun q => by rw [hrt] at q; cases q) (by decide) (by decide) rfl (fun X hr => retN X hx (t := .boolean) hrt (by simp) (hb hby at_255) hr)
    · subst e676
      refine Run.st (T676.setTop (mkF m 242 #[vI i0, vI i1, vI i2, vI i3, vI i4, vI 4, vI z586, vI z587, vI z588, vI z589, vA a658, vI 0] [(.ref a658)])) (fun _ k => XS.ifYes A676.here hx rfl (pc0 := 188) (pc' := 237) rfl (hb hby at_188) rfl (by decide) (by decide) (by decide) (XS.iconst A676.here hx rfl (hb hby at_237) (XS.istore A676.here hx rfl (hb hby at_238) rfl (l' := #[vI i0, vI i1, vI i2, vI i3, vI i4, vI 4, vI z586, vI z587, vI z588, vI z589, vA a658, vI 0]) rfl (XS.aload A676.here hx rfl (hb hby at_240) rfl rfl k)))) ?_
      obtain ⟨v684, T684, h684, A684, K684, ⟨L684, Q684⟩, st684⟩ := A676.callSW hx (tw28 H.1) (tw29 H.1) (tw30 H.1) (tw31 H.1) (by decide) (g := (mkF m 242 #[vI i0, vI i1, vI i2, vI i3, vI i4, vI 4, vI z586, vI z587, vI z588, vI z589, vA a658, vI 0] [(.ref a658)])) rfl (by rw [hml]; rfl) [(.ref a658)] [] (lenOf pd_20 rfl) rfl (Wd := 0) (Nat.le_refl _) (hb hby at_242) (by decide) (by decide) [] (fun _ _ _ q => q.2) all0 (fun vm0 hZ hE hC hS => payW (ct_tok4 H a658 z586 z587 z588 z589 A676.old S664 D586 D587 D588 D589) (tw31 H.1) (tw30 H.1) (by decide) (by decide) hZ hE hC hS)
      obtain ⟨Q684, N684, -⟩ := Q684
      obtain ⟨z684, rfl, X684, D684⟩ := Q684
      refine Run.st (T684.setTop (mkF m 245 #[vI i0, vI i1, vI i2, vI i3, vI i4, vI 4, vI z586, vI z587, vI z588, vI z589, vA a658, vI 0] [.int z684])) st684 ?_
      rcases D684 with ⟨l684, e684⟩ | ⟨l684, e684⟩
      · subst e684
        exact absurd (l684.1 z586 (List.mem_of_getElem? (i := 0) rfl)) l676
      · subst e684
        refine Run.st (T684.setTop (mkF m 255 #[vI i0, vI i1, vI i2, vI i3, vI i4, vI 4, vI z586, vI z587, vI z588, vI z589, vA a658, vI 0] [.int 1])) (fun _ k => XS.iload A684.here hx rfl (hb hby at_245) rfl (XS.icmpNo A684.here hx rfl (hb hby at_247) rfl (by decide) (XS.iconst A684.here hx rfl (hb hby at_250) (XS.goto A684.here hx rfl (pc0 := 251) (pc' := 255) rfl (hb hby at_251) (by decide) (by decide) k)))) ?_
        exact A684.leaveW hlk hh0 (some (.int (1 : Int32))) (fun q => by rw [hrt] at q; cases q) (by decide) (by decide) rfl (fun X hr => retN X hx (t := .boolean) hrt (by simp) (hb hby at_255) hr)
set_option maxRecDepth 65536 in
set_option maxHeartbeats 40000000 in
theorem comes_1 {Post : Tables → Env → Array Value → State → Outcome → State → Prop} (hpost : ∀ tb e args s v u, (limb_1_1.after args s (.returned v) u = true ∧ limb_1_2.after args s (.returned v) u = true ∧ True) → ReturnedEndW s (.returned v) u (Jvm.fieldLocs frame_1_writes args s ++ Jvm.arrayLocs frame_1_arrays args s ++ Jvm.staticLocs frame_1_statics s) 24 2176 → Post tb e args s (.returned v) u) :
    ArmFor flags0 classFile x code maxLocals ret World_1 tables_1 room_1 Calls_1 rest_1 Pre_1 Post := by
  intro l hfl _ _ p e ha hc hk s m args below hf hA hF happ hP
  obtain ⟨hcalls, hrest, hpre⟩ := hP
  obtain ⟨-, -, -, hnamed, -, -, -, hat⟩ := (Spec.applies_iff hf).mp happ
  obtain ⟨hg, hn⟩ := and_e (Cond.before_iff.mp (show (Jvm.Cond.and given_1 narrow_1).before args s = true from hpre))
  obtain ⟨h1, h2⟩ := and_e hg
  obtain ⟨w0, w1, w2, w3, w4, rfl⟩ : ∃ w0 w1 w2 w3 w4 : Value, args = #[w0, w1, w2, w3, w4] := by
    have hs : args.size = 5 := by simpa [Cond.value, given_1] using h1
    obtain ⟨L⟩ := args
    match L, hs with
    | [w0, w1, w2, w3, w4], _ => exact ⟨w0, w1, w2, w3, w4, rfl⟩
  obtain ⟨g0, r1⟩ := and_e h2
  obtain ⟨i0, e0⟩ := is_v g0
  obtain rfl : w0 = (.int i0) := Option.some.inj e0
  obtain ⟨g1, r2⟩ := and_e r1
  obtain ⟨i1, e1⟩ := is_v g1
  obtain rfl : w1 = (.int i1) := Option.some.inj e1
  obtain ⟨g2, r3⟩ := and_e r2
  obtain ⟨i2, e2⟩ := is_v g2
  obtain rfl : w2 = (.int i2) := Option.some.inj e2
  obtain ⟨g3, r4⟩ := and_e r3
  obtain ⟨i3, e3⟩ := is_v g3
  obtain rfl : w3 = (.int i3) := Option.some.inj e3
  obtain ⟨i4, e4⟩ := is_v r4
  obtain rfl : w4 = (.int i4) := Option.some.inj e4
  have hw := fun d (hd : d ∈ tables_1) => atoms_spec (ws := Jvm.Cond.code x code maxLocals ret :: tables_1) hat d (List.mem_cons_of_mem _ hd)
  obtain ⟨hsets, hown0⟩ := atoms_of _ (rest_1_c_eq ▸ (show rest_1_c.before _ s = true from hrest))
  have n3 := not_v (Cond.before_iff.mp (hsets _ (List.mem_of_getElem? (i := 2) rfl)))
  obtain ⟨iz, ez⟩ := is_v (Cond.before_iff.mp (hsets _ (List.mem_of_getElem? (i := 1) rfl)))
  have Sz : Sta s s.heap "java/lang/String" "COMPACT_STRINGS" "Z" (.int iz) := Sta.start ez (Or.inl (hsets _ (List.mem_of_getElem? (i := 0) rfl)))
  obtain ⟨vf, ef, rf⟩ := isR_v (Cond.before_iff.mp (hsets _ (List.mem_of_getElem? (i := 8) rfl)))
  have Sf : Sta s s.heap "jdk/internal/util/Preconditions" "SIOOBE_FORMATTER" "Ljava/util/function/BiFunction;" vf := Sta.start ef (Or.inl (hsets _ (List.mem_of_getElem? (i := 7) rfl)))
  have cz : ¬ (iz = (0 : Int32)) := gotF (Cond.eq_ints ez (Term.int_eval (0))) n3
  have sA : Sta s s.heap "java/lang/StringUTF16" "$assertionsDisabled" "Z" (.int 1) := Sta.start (eqv_i (Term.int_eval (1)) (Cond.before_iff.mp (hsets _ (List.mem_of_getElem? (i := 12) rfl)))) (Or.inl (hsets _ (List.mem_of_getElem? (i := 11) rfl)))
  have sH : Sta s s.heap "java/lang/StringUTF16" "HI_BYTE_SHIFT" "I" (.int 0) := Sta.start (eqv_i (Term.int_eval (0)) (Cond.before_iff.mp (hsets _ (List.mem_of_getElem? (i := 15) rfl)))) (Or.inl (hsets _ (List.mem_of_getElem? (i := 14) rfl)))
  have sL : Sta s s.heap "java/lang/StringUTF16" "LO_BYTE_SHIFT" "I" (.int 8) := Sta.start (eqv_i (Term.int_eval (8)) (Cond.before_iff.mp (hsets _ (List.mem_of_getElem? (i := 18) rfl)))) (Or.inl (hsets _ (List.mem_of_getElem? (i := 17) rfl)))
  have hEx := And.intro sA (And.intro sH sL)
  have H : Ev s _ := ⟨hw, ⟨iz, Sz, cz⟩, ⟨vf, Sf, rf⟩, hEx⟩
  have hCH : CHv s EL s.vm s.heap := CHv.start (elA H) (show ∀ p ∈ EL, Jvm.Lit.constHeld s p.1 p.2 from hcalls.1) (hcw := hsets _ (List.mem_of_getElem? (i := 2) rfl)) (H.1 _ (by decide +kernel : Jvm.Cond.arrayClass .byte ∈ tables_1)) (H.1 _ (by decide +kernel : Jvm.Cond.instantiable "java/lang/String" 4 ∈ tables_1))
  obtain ⟨n, o, h1, h2, h3, _, L, rfl, ⟨hQ, N, -⟩, -, hq⟩ := ct_law (l := l) H i0 i1 i2 i3 i4 (Old.start s) p e ha hc hk s m _ below hf ((Spec.applies_iff_loose hf).mp happ).1 ⟨rfl, State.Warmed39.refl s, rfl, hCH, all0⟩ trivial
  cases hQ
  refine ⟨n, _, h1, h2, h3, hpost _ _ _ _ _ _ ⟨Cond.after_iff.mpr rfl, Cond.after_iff.mpr (eq_i res_at (Term.int_eval (1)) rfl), trivial⟩ ⟨hq.1, hq.2.1, hq.2.2.1, (hq.2.2.2.sift fun y hy => Or.inr (N y hy)).mono (by decide) (by decide)⟩⟩
theorem main_1_1 : Claimed_1_1 := comes_1 fun _ _ _ _ _ _ h hF => ⟨h.1, hF⟩
theorem main_1_2 : Claimed_1_2 := comes_1 fun _ _ _ _ _ _ h hF => ⟨h.2.1, hF⟩
end Jvm.Pilot.@@N@@
namespace Jvm.Pilot.@@N@@
open Jvm Jvm.ClassFile Sem Op Lib Jvm.Free Jvm.Stand Jvm.Pilot.@@N@@.Jvm.D
/-! MADE BY PROGRAM (witnessworld.py) out of the Statement's table words and the real class files: 21 classes; the members and pool entries that the words name. The judged class is class 1, her method 1. -/
namespace start1
open Jvm.ClassFile
def u (s : String) : CpInfo := .utf8 (stringToUtf16 s)
/-- a pool by its gaps: so many unusable entries, then the entry; so many at the end -/
def gap : Nat → List CpInfo → List CpInfo
  | 0, r => r
  | n + 1, r => .unusable :: gap n r
def poolList (es : List (Nat × CpInfo)) (last : Nat) : List CpInfo := es.foldr (fun e r => gap e.1 (e.2 :: r)) (gap last [])
def pool (es : List (Nat × CpInfo)) (last : Nat) : Array CpInfo := ⟨poolList es last⟩
def fileOf (pool : Array CpInfo) (this : Nat) (attrs : Array Attribute := #[]) (ms : Array MethodInfo := #[]) (fl : Nat := 33) (sup : Nat := 0) (ifs : Array Nat := #[]) (fds : Array FieldInfo := #[]) : ClassFile where
  minorVersion := 0
  majorVersion := 65
  constantPool := pool
  accessFlags := fl
  thisClass := this
  superClass := sup
  interfaces := ifs
  fields := fds
  methods := ms
  attributes := attrs
def plain (name : String) (sup : Option ClassId) : Class where
  name := name
  kind := .ordinary
  loader := none
  accessFlags := 33
  super := sup
  interfaces := #[]
  cf := none
  fields := #[]
  methods := #[]
  instanceTypes := #[]
  staticTypes := #[]
  resolved := #[]
  callSites := []
  init := .initialized
  statics := none
  mirror := none

def pool0 : Array CpInfo := pool [(5, u "<init>"), (0, u "()V"), (1, .class_ 10), (1, u "java/lang/Object")] 113

def k0c0 : Code := { maxStack := 0, maxLocals := 1, code := object_method_1_code, exceptionTable := #[], attributes := #[] }
def k0m0 : Method := { name := "<init>", desc := "()V", sig := { parameters := [], returnType := none }, accessFlags := 1, code := some k0c0 }
/-- java/lang/Object -/
def k0 : Class := { plain "java/lang/Object" none with
  accessFlags := 33
  interfaces := #[]
  cf := some (fileOf pool0 8 #[] #[{ accessFlags := 1, nameIndex := 5, descriptorIndex := 6, attributes := #[] }] 33 0 #[] #[])
  fields := #[]
  methods := #[k0m0]
  instanceTypes := #[]
  staticTypes := #[]
  resolved := Array.replicate 124 none
  statics := none }

def pool1 : Array CpInfo := pool [(2, .class_ 4), (1, u "java/lang/Object"), (0, u "<init>"), (0, u "()V"), (0, .integer 2147483647), (0, .methodref 9 10), (0, .class_ 11), (0, .nameAndType 12 13), (0, u "com/example/gate_to_handlers/gatetohandlers/MediaTypeIsTokenPinLaw"), (0, u "draw"), (0, u "(I)C"), (0, .class_ 15), (0, u "java/lang/String"), (0, .methodref 14 17), (0, .nameAndType 5 18), (0, u "([C)V"), (0, .methodref 9 20), (0, .nameAndType 21 22), (0, u "tokenChar"), (0, u "(C)Z"), (0, .methodref 24 25), (0, .class_ 26), (0, .nameAndType 27 28), (0, u "com/example/gate_to_handlers/gatetohandlers/MediaType"), (0, u "isToken"), (0, u "(Ljava/lang/String;)Z"), (0, .integer 65536), (0, .integer 65535), (2, u "law"), (0, u "(IIIII)Z")] 3

def k1m0 : Method := { name := "<init>", desc := "()V", sig := { parameters := [], returnType := none }, accessFlags := 1, code := none }
def k1c1 : Code := { maxStack := 6, maxLocals := 12, code := code, exceptionTable := #[], attributes := #[] }
def k1m1 : Method := { name := "law", desc := "(IIIII)Z", sig := { parameters := [.int, .int, .int, .int, .int], returnType := some .boolean }, accessFlags := 9, code := some k1c1 }
def k1c2 : Code := { maxStack := 2, maxLocals := 1, code := method_3_code, exceptionTable := #[], attributes := #[] }
def k1m2 : Method := { name := "draw", desc := "(I)C", sig := { parameters := [.int], returnType := some .char }, accessFlags := 10, code := some k1c2 }
def k1c3 : Code := { maxStack := 2, maxLocals := 1, code := method_4_code, exceptionTable := #[], attributes := #[] }
def k1m3 : Method := { name := "tokenChar", desc := "(C)Z", sig := { parameters := [.char], returnType := some .boolean }, accessFlags := 10, code := some k1c3 }
/-- com/example/gate_to_handlers/gatetohandlers/MediaTypeIsTokenPinLaw -/
def k1 : Class := { plain "com/example/gate_to_handlers/gatetohandlers/MediaTypeIsTokenPinLaw" (some 0) with
  accessFlags := 49
  interfaces := #[]
  cf := some (fileOf pool1 9 #[] #[{ accessFlags := 1, nameIndex := 5, descriptorIndex := 6, attributes := #[] }, { accessFlags := 9, nameIndex := 33, descriptorIndex := 34, attributes := #[] }, { accessFlags := 10, nameIndex := 12, descriptorIndex := 13, attributes := #[] }, { accessFlags := 10, nameIndex := 21, descriptorIndex := 22, attributes := #[] }] 49 2 #[] #[])
  fields := #[]
  methods := #[k1m0, k1m1, k1m2, k1m3]
  instanceTypes := #[]
  staticTypes := #[]
  resolved := Array.replicate 38 none
  statics := none }

def pool2 : Array CpInfo := pool [(1, .class_ 2), (0, u "java/io/Serializable"), (0, .class_ 4), (0, u "java/lang/Object")] 2

/-- java/io/Serializable -/
def k2 : Class := { plain "java/io/Serializable" (some 0) with
  accessFlags := 1537
  interfaces := #[]
  cf := some (fileOf pool2 1 #[] #[] 1537 3 #[] #[])
  fields := #[]
  methods := #[]
  instanceTypes := #[]
  staticTypes := #[]
  resolved := Array.replicate 7 none
  statics := none }

def pool3 : Array CpInfo := pool [(1, .class_ 2), (0, u "java/lang/Comparable"), (0, .class_ 4), (0, u "java/lang/Object")] 7

/-- java/lang/Comparable -/
def k3 : Class := { plain "java/lang/Comparable" (some 0) with
  accessFlags := 1537
  interfaces := #[]
  cf := some (fileOf pool3 1 #[] #[] 1537 3 #[] #[])
  fields := #[]
  methods := #[]
  instanceTypes := #[]
  staticTypes := #[]
  resolved := Array.replicate 12 none
  statics := none }

def pool4 : Array CpInfo := pool [(2, .class_ 4), (1, u "java/lang/CharSequence"), (42, .class_ 48), (0, u "java/lang/CharSequence$1CodePointIterator"), (10, .class_ 60), (0, u "java/lang/CharSequence$1CharIterator"), (5, .class_ 67), (0, u "java/lang/Object")] 63

/-- java/lang/CharSequence -/
def k4 : Class := { plain "java/lang/CharSequence" (some 0) with
  accessFlags := 1537
  interfaces := #[]
  cf := some (fileOf pool4 2 #[.nestMembers #[47, 59]] #[] 1537 66 #[] #[])
  fields := #[]
  methods := #[]
  instanceTypes := #[]
  staticTypes := #[]
  resolved := Array.replicate 131 none
  statics := none }

def pool5 : Array CpInfo := pool [(1, .class_ 2), (0, u "java/lang/constant/Constable"), (0, .class_ 4), (0, u "java/lang/Object")] 6

/-- java/lang/constant/Constable -/
def k5 : Class := { plain "java/lang/constant/Constable" (some 0) with
  accessFlags := 1537
  interfaces := #[]
  cf := some (fileOf pool5 1 #[] #[] 1537 3 #[] #[])
  fields := #[]
  methods := #[]
  instanceTypes := #[]
  staticTypes := #[]
  resolved := Array.replicate 11 none
  statics := none }

def pool6 : Array CpInfo := pool [(1, .class_ 2), (0, u "java/lang/constant/ConstantDesc"), (0, .class_ 4), (0, u "java/lang/Object")] 32

/-- java/lang/constant/ConstantDesc -/
def k6 : Class := { plain "java/lang/constant/ConstantDesc" (some 0) with
  accessFlags := 1537
  interfaces := #[]
  cf := some (fileOf pool6 1 #[] #[] 1537 3 #[] #[])
  fields := #[]
  methods := #[]
  instanceTypes := #[]
  staticTypes := #[]
  resolved := Array.replicate 37 none
  statics := none }

def pool7 : Array CpInfo := pool [(1, .methodref 2 3), (0, .class_ 4), (0, .nameAndType 5 6), (0, u "java/lang/Object"), (0, u "<init>"), (0, u "()V"), (0, .string 8), (0, u ""), (0, .fieldref 10 11), (0, .class_ 12), (0, .nameAndType 13 14), (0, u "java/lang/String"), (0, u "value"), (0, u "[B"), (0, .fieldref 10 16), (0, .nameAndType 17 18), (0, u "coder"), (0, u "B"), (2, u "hash"), (0, u "I"), (2, u "hashIsZero"), (0, u "Z"), (0, .methodref 10 28), (0, .nameAndType 5 29), (0, u "([CIILjava/lang/Void;)V"), (8, .fieldref 10 39), (0, .nameAndType 40 26), (0, u "COMPACT_STRINGS"), (1, .class_ 44), (1, u "java/lang/StringUTF16"), (0, u "compress"), (1, .methodref 42 48), (0, .nameAndType 49 50), (0, u "coderFromArrayLen"), (0, u "([BI)B"), (56, .class_ 109), (1, u "java/lang/StringLatin1"), (32, u "()Z"), (34, .methodref 42 178), (0, .nameAndType 45 179), (0, u "([CII)[B"), (154, u "()I"), (0, .methodref 10 336), (0, .nameAndType 17 337), (0, u "()B"), (25, u "([BI)C"), (27, u "(II)V"), (35, u "(I)C"), (64, .methodref 10 493), (0, .nameAndType 494 142), (0, u "isLatin1"), (0, .methodref 107 496), (0, .nameAndType 497 363), (0, u "charAt"), (0, .methodref 42 496), (2, u "checkIndex"), (3, .methodref 10 506), (0, .nameAndType 507 334), (0, u "length"), (67, .class_ 576), (0, u "java/lang/CharSequence"), (22, u "CASE_INSENSITIVE_ORDER"), (0, u "Ljava/util/Comparator;"), (32, .methodref 10 634), (0, .nameAndType 635 636), (0, u "indexOf"), (0, u "(II)I"), (0, .methodref 107 638), (0, .nameAndType 635 639), (0, u "([BIII)I"), (52, u "isEmpty"), (72, u "(I)I"), (244, u "([C)V"), (42, .fieldref 1054 1055), (0, .class_ 1056), (0, .nameAndType 1057 1058), (0, u "jdk/internal/util/Preconditions"), (0, u "SIOOBE_FORMATTER"), (0, u "Ljava/util/function/BiFunction;"), (0, .methodref 1054 1060), (0, .nameAndType 501 1061), (0, u "(IILjava/util/function/BiFunction;)I"), (39, u "serialPersistentFields"), (0, u "[Ljava/io/ObjectStreamField;"), (0, .class_ 1104), (0, u "java/lang/String$CaseInsensitiveComparator"), (1, .class_ 1107), (0, u "java/io/Serializable"), (0, .class_ 1109), (0, u "java/lang/Comparable"), (0, .class_ 1111), (0, u "java/lang/constant/Constable"), (0, .class_ 1113), (0, u "java/lang/constant/ConstantDesc"), (2, u "serialVersionUID"), (0, u "J"), (3, u "REPL"), (0, u "C"), (2, u "LATIN1"), (1, u "UTF16")] 323

def k7m0 : Method := { name := "<init>", desc := "()V", sig := { parameters := [], returnType := none }, accessFlags := 1, code := none }
def k7c1 : Code := { maxStack := 5, maxLocals := 2, code := jdk_42_method_3_code, exceptionTable := #[], attributes := #[] }
def k7m1 : Method := { name := "<init>", desc := "([C)V", sig := { parameters := [(.array .char)], returnType := none }, accessFlags := 1, code := some k7c1 }
def k7c2 : Code := { maxStack := 2, maxLocals := 1, code := jdk_42_method_54_code, exceptionTable := #[], attributes := #[] }
def k7m2 : Method := { name := "length", desc := "()I", sig := { parameters := [], returnType := some .int }, accessFlags := 1, code := some k7c2 }
def k7c3 : Code := { maxStack := 1, maxLocals := 1, code := jdk_42_method_55_code, exceptionTable := #[], attributes := #[] }
def k7m3 : Method := { name := "isEmpty", desc := "()Z", sig := { parameters := [], returnType := some .boolean }, accessFlags := 1, code := some k7c3 }
def k7c4 : Code := { maxStack := 2, maxLocals := 2, code := jdk_42_method_56_code, exceptionTable := #[], attributes := #[] }
def k7m4 : Method := { name := "charAt", desc := "(I)C", sig := { parameters := [.int], returnType := some .char }, accessFlags := 1, code := some k7c4 }
def k7c5 : Code := { maxStack := 3, maxLocals := 2, code := jdk_42_method_79_code, exceptionTable := #[], attributes := #[] }
def k7m5 : Method := { name := "indexOf", desc := "(I)I", sig := { parameters := [.int], returnType := some .int }, accessFlags := 1, code := some k7c5 }
def k7c6 : Code := { maxStack := 4, maxLocals := 3, code := jdk_42_method_80_code, exceptionTable := #[], attributes := #[] }
def k7m6 : Method := { name := "indexOf", desc := "(II)I", sig := { parameters := [.int, .int], returnType := some .int }, accessFlags := 1, code := some k7c6 }
def k7c7 : Code := { maxStack := 4, maxLocals := 6, code := jdk_42_method_149_code, exceptionTable := #[], attributes := #[] }
def k7m7 : Method := { name := "<init>", desc := "([CIILjava/lang/Void;)V", sig := { parameters := [(.array .char), .int, .int, (.object "java/lang/Void")], returnType := none }, accessFlags := 2, code := some k7c7 }
def k7c8 : Code := { maxStack := 1, maxLocals := 1, code := jdk_42_method_152_code, exceptionTable := #[], attributes := #[] }
def k7m8 : Method := { name := "coder", desc := "()B", sig := { parameters := [], returnType := some .byte }, accessFlags := 0, code := some k7c8 }
def k7c9 : Code := { maxStack := 1, maxLocals := 1, code := jdk_42_method_154_code, exceptionTable := #[], attributes := #[] }
def k7m9 : Method := { name := "isLatin1", desc := "()Z", sig := { parameters := [], returnType := some .boolean }, accessFlags := 0, code := some k7c9 }
def k7c10 : Code := { maxStack := 3, maxLocals := 2, code := jdk_42_method_155_code, exceptionTable := #[], attributes := #[] }
def k7m10 : Method := { name := "checkIndex", desc := "(II)V", sig := { parameters := [.int, .int], returnType := none }, accessFlags := 8, code := some k7c10 }
/-- java/lang/String -/
def k7 : Class := { plain "java/lang/String" (some 0) with
  accessFlags := 49
  interfaces := #[2, 3, 4, 5, 6]
  cf := some (fileOf pool7 10 #[.nestMembers #[1103]] #[{ accessFlags := 1, nameIndex := 5, descriptorIndex := 6, attributes := #[] }, { accessFlags := 1, nameIndex := 5, descriptorIndex := 1010, attributes := #[] }, { accessFlags := 1, nameIndex := 507, descriptorIndex := 334, attributes := #[] }, { accessFlags := 1, nameIndex := 692, descriptorIndex := 142, attributes := #[] }, { accessFlags := 1, nameIndex := 497, descriptorIndex := 427, attributes := #[] }, { accessFlags := 1, nameIndex := 635, descriptorIndex := 765, attributes := #[] }, { accessFlags := 1, nameIndex := 635, descriptorIndex := 636, attributes := #[] }, { accessFlags := 2, nameIndex := 5, descriptorIndex := 29, attributes := #[] }, { accessFlags := 0, nameIndex := 17, descriptorIndex := 337, attributes := #[] }, { accessFlags := 0, nameIndex := 494, descriptorIndex := 142, attributes := #[] }, { accessFlags := 8, nameIndex := 501, descriptorIndex := 391, attributes := #[] }] 49 2 #[1106, 1108, 575, 1110, 1112] #[{ accessFlags := 18, nameIndex := 13, descriptorIndex := 14, attributes := #[] }, { accessFlags := 18, nameIndex := 17, descriptorIndex := 18, attributes := #[] }, { accessFlags := 2, nameIndex := 21, descriptorIndex := 22, attributes := #[] }, { accessFlags := 2, nameIndex := 25, descriptorIndex := 26, attributes := #[] }, { accessFlags := 26, nameIndex := 1116, descriptorIndex := 1117, attributes := #[] }, { accessFlags := 24, nameIndex := 40, descriptorIndex := 26, attributes := #[] }, { accessFlags := 26, nameIndex := 1101, descriptorIndex := 1102, attributes := #[] }, { accessFlags := 26, nameIndex := 1121, descriptorIndex := 1122, attributes := #[] }, { accessFlags := 25, nameIndex := 599, descriptorIndex := 600, attributes := #[] }, { accessFlags := 24, nameIndex := 1125, descriptorIndex := 18, attributes := #[] }, { accessFlags := 24, nameIndex := 1127, descriptorIndex := 18, attributes := #[] }])
  fields := #[{ name := "value", type := (.array .byte), accessFlags := 18, slot := 0, constantValue := 0 }, { name := "coder", type := .byte, accessFlags := 18, slot := 1, constantValue := 0 }, { name := "hash", type := .int, accessFlags := 2, slot := 2, constantValue := 0 }, { name := "hashIsZero", type := .boolean, accessFlags := 2, slot := 3, constantValue := 0 }, { name := "serialVersionUID", type := .long, accessFlags := 26, slot := 0, constantValue := 0 }, { name := "COMPACT_STRINGS", type := .boolean, accessFlags := 24, slot := 1, constantValue := 0 }, { name := "serialPersistentFields", type := (.array (.object "java/io/ObjectStreamField")), accessFlags := 26, slot := 2, constantValue := 0 }, { name := "REPL", type := .char, accessFlags := 26, slot := 3, constantValue := 0 }, { name := "CASE_INSENSITIVE_ORDER", type := (.object "java/util/Comparator"), accessFlags := 25, slot := 4, constantValue := 0 }, { name := "LATIN1", type := .byte, accessFlags := 24, slot := 5, constantValue := 0 }, { name := "UTF16", type := .byte, accessFlags := 24, slot := 6, constantValue := 0 }]
  methods := #[k7m0, k7m1, k7m2, k7m3, k7m4, k7m5, k7m6, k7m7, k7m8, k7m9, k7m10]
  instanceTypes := #[(.array .byte), .byte, .int, .boolean]
  staticTypes := #[.long, .boolean, (.array (.object "java/io/ObjectStreamField")), .char, (.object "java/util/Comparator"), .byte, .byte]
  resolved := Array.replicate 1451 none
  statics := some 0 }

def pool8 : Array CpInfo := pool [(8, .class_ 10), (1, u "com/example/gate_to_handlers/gatetohandlers/MediaType"), (14, .class_ 27), (1, u "java/lang/Object"), (2, u "type"), (10, u "Ljava/lang/String;"), (1, u "subtype"), (5, .class_ 51), (1, u "java/lang/String"), (29, u "parameters"), (0, u "Ljava/util/Map;"), (8, u "isToken"), (0, u "(Ljava/lang/String;)Z"), (43, .methodref 49 137), (0, .nameAndType 138 139), (0, u "indexOf"), (0, u "(I)I"), (5, u "()I"), (13, u "()Z"), (11, .methodref 49 172), (0, .nameAndType 173 159), (0, u "isEmpty"), (10, u "ACCEPTS_ALL"), (0, u "Ljava/util/List;"), (10, .methodref 49 197), (0, .nameAndType 198 145), (0, u "length"), (0, .methodref 49 200), (0, .nameAndType 201 202), (0, u "charAt"), (0, u "(I)C"), (12, .string 216), (0, u "!#$%&'*+-.^_`|~"), (112, u "ALL"), (0, u "Lcom/example/gate_to_handlers/gatetohandlers/MediaType;"), (4, u "APPLICATION_ATOM_XML"), (4, u "APPLICATION_CBOR"), (4, u "APPLICATION_FORM_URLENCODED"), (4, u "APPLICATION_JSON"), (4, u "APPLICATION_NDJSON"), (4, u "APPLICATION_OCTET_STREAM"), (4, u "APPLICATION_PDF"), (4, u "APPLICATION_PROBLEM_JSON"), (4, u "APPLICATION_PROBLEM_XML"), (4, u "APPLICATION_RSS_XML"), (4, u "APPLICATION_XHTML_XML"), (4, u "APPLICATION_XML"), (4, u "IMAGE_GIF"), (4, u "IMAGE_JPEG"), (4, u "IMAGE_PNG"), (4, u "MULTIPART_FORM_DATA"), (4, u "MULTIPART_MIXED"), (4, u "MULTIPART_RELATED"), (4, u "TEXT_EVENT_STREAM"), (4, u "TEXT_HTML"), (4, u "TEXT_MARKDOWN"), (4, u "TEXT_PLAIN"), (4, u "TEXT_XML"), (3, u "TOKEN_SYMBOLS"), (1, u "WEIGHT_DIGITS"), (0, u "I"), (1, u "FULL_QUALITY"), (1, u "ALL_VALUE"), (0, u "APPLICATION_ATOM_XML_VALUE"), (0, u "APPLICATION_CBOR_VALUE"), (0, u "APPLICATION_FORM_URLENCODED_VALUE"), (0, u "APPLICATION_JSON_VALUE"), (0, u "APPLICATION_NDJSON_VALUE"), (0, u "APPLICATION_OCTET_STREAM_VALUE"), (0, u "APPLICATION_PDF_VALUE"), (0, u "APPLICATION_PROBLEM_JSON_VALUE"), (0, u "APPLICATION_PROBLEM_XML_VALUE"), (0, u "APPLICATION_RSS_XML_VALUE"), (0, u "APPLICATION_XHTML_XML_VALUE"), (0, u "APPLICATION_XML_VALUE"), (0, u "IMAGE_GIF_VALUE"), (0, u "IMAGE_JPEG_VALUE"), (0, u "IMAGE_PNG_VALUE"), (0, u "MULTIPART_FORM_DATA_VALUE"), (0, u "MULTIPART_MIXED_VALUE"), (0, u "MULTIPART_RELATED_VALUE"), (0, u "TEXT_EVENT_STREAM_VALUE"), (0, u "TEXT_HTML_VALUE"), (0, u "TEXT_MARKDOWN_VALUE"), (0, u "TEXT_PLAIN_VALUE"), (0, u "TEXT_XML_VALUE")] 79

def k8c0 : Code := { maxStack := 2, maxLocals := 4, code := prog_69_method_11_code, exceptionTable := #[], attributes := #[] }
def k8m0 : Method := { name := "isToken", desc := "(Ljava/lang/String;)Z", sig := { parameters := [(.object "java/lang/String")], returnType := some .boolean }, accessFlags := 8, code := some k8c0 }
/-- com/example/gate_to_handlers/gatetohandlers/MediaType -/
def k8 : Class := { plain "com/example/gate_to_handlers/gatetohandlers/MediaType" (some 0) with
  accessFlags := 49
  interfaces := #[]
  cf := some (fileOf pool8 8 #[] #[{ accessFlags := 8, nameIndex := 91, descriptorIndex := 92, attributes := #[] }] 49 25 #[] #[{ accessFlags := 26, nameIndex := 449, descriptorIndex := 41, attributes := #[] }, { accessFlags := 26, nameIndex := 451, descriptorIndex := 452, attributes := #[] }, { accessFlags := 26, nameIndex := 454, descriptorIndex := 452, attributes := #[] }, { accessFlags := 25, nameIndex := 456, descriptorIndex := 41, attributes := #[] }, { accessFlags := 25, nameIndex := 329, descriptorIndex := 330, attributes := #[] }, { accessFlags := 25, nameIndex := 457, descriptorIndex := 41, attributes := #[] }, { accessFlags := 25, nameIndex := 335, descriptorIndex := 330, attributes := #[] }, { accessFlags := 25, nameIndex := 458, descriptorIndex := 41, attributes := #[] }, { accessFlags := 25, nameIndex := 340, descriptorIndex := 330, attributes := #[] }, { accessFlags := 25, nameIndex := 459, descriptorIndex := 41, attributes := #[] }, { accessFlags := 25, nameIndex := 345, descriptorIndex := 330, attributes := #[] }, { accessFlags := 25, nameIndex := 460, descriptorIndex := 41, attributes := #[] }, { accessFlags := 25, nameIndex := 350, descriptorIndex := 330, attributes := #[] }, { accessFlags := 25, nameIndex := 461, descriptorIndex := 41, attributes := #[] }, { accessFlags := 25, nameIndex := 355, descriptorIndex := 330, attributes := #[] }, { accessFlags := 25, nameIndex := 462, descriptorIndex := 41, attributes := #[] }, { accessFlags := 25, nameIndex := 360, descriptorIndex := 330, attributes := #[] }, { accessFlags := 25, nameIndex := 463, descriptorIndex := 41, attributes := #[] }, { accessFlags := 25, nameIndex := 365, descriptorIndex := 330, attributes := #[] }, { accessFlags := 25, nameIndex := 464, descriptorIndex := 41, attributes := #[] }, { accessFlags := 25, nameIndex := 370, descriptorIndex := 330, attributes := #[] }, { accessFlags := 25, nameIndex := 465, descriptorIndex := 41, attributes := #[] }, { accessFlags := 25, nameIndex := 375, descriptorIndex := 330, attributes := #[] }, { accessFlags := 25, nameIndex := 466, descriptorIndex := 41, attributes := #[] }, { accessFlags := 25, nameIndex := 380, descriptorIndex := 330, attributes := #[] }, { accessFlags := 25, nameIndex := 467, descriptorIndex := 41, attributes := #[] }, { accessFlags := 25, nameIndex := 385, descriptorIndex := 330, attributes := #[] }, { accessFlags := 25, nameIndex := 468, descriptorIndex := 41, attributes := #[] }, { accessFlags := 25, nameIndex := 390, descriptorIndex := 330, attributes := #[] }, { accessFlags := 25, nameIndex := 469, descriptorIndex := 41, attributes := #[] }, { accessFlags := 25, nameIndex := 395, descriptorIndex := 330, attributes := #[] }, { accessFlags := 25, nameIndex := 470, descriptorIndex := 41, attributes := #[] }, { accessFlags := 25, nameIndex := 400, descriptorIndex := 330, attributes := #[] }, { accessFlags := 25, nameIndex := 471, descriptorIndex := 41, attributes := #[] }, { accessFlags := 25, nameIndex := 405, descriptorIndex := 330, attributes := #[] }, { accessFlags := 25, nameIndex := 472, descriptorIndex := 41, attributes := #[] }, { accessFlags := 25, nameIndex := 410, descriptorIndex := 330, attributes := #[] }, { accessFlags := 25, nameIndex := 473, descriptorIndex := 41, attributes := #[] }, { accessFlags := 25, nameIndex := 415, descriptorIndex := 330, attributes := #[] }, { accessFlags := 25, nameIndex := 474, descriptorIndex := 41, attributes := #[] }, { accessFlags := 25, nameIndex := 420, descriptorIndex := 330, attributes := #[] }, { accessFlags := 25, nameIndex := 475, descriptorIndex := 41, attributes := #[] }, { accessFlags := 25, nameIndex := 425, descriptorIndex := 330, attributes := #[] }, { accessFlags := 25, nameIndex := 476, descriptorIndex := 41, attributes := #[] }, { accessFlags := 25, nameIndex := 430, descriptorIndex := 330, attributes := #[] }, { accessFlags := 25, nameIndex := 477, descriptorIndex := 41, attributes := #[] }, { accessFlags := 25, nameIndex := 435, descriptorIndex := 330, attributes := #[] }, { accessFlags := 25, nameIndex := 478, descriptorIndex := 41, attributes := #[] }, { accessFlags := 25, nameIndex := 440, descriptorIndex := 330, attributes := #[] }, { accessFlags := 25, nameIndex := 479, descriptorIndex := 41, attributes := #[] }, { accessFlags := 25, nameIndex := 445, descriptorIndex := 330, attributes := #[] }, { accessFlags := 24, nameIndex := 184, descriptorIndex := 185, attributes := #[] }, { accessFlags := 18, nameIndex := 30, descriptorIndex := 41, attributes := #[] }, { accessFlags := 18, nameIndex := 43, descriptorIndex := 41, attributes := #[] }, { accessFlags := 18, nameIndex := 81, descriptorIndex := 82, attributes := #[] }])
  fields := #[{ name := "TOKEN_SYMBOLS", type := (.object "java/lang/String"), accessFlags := 26, slot := 0, constantValue := 0 }, { name := "WEIGHT_DIGITS", type := .int, accessFlags := 26, slot := 1, constantValue := 0 }, { name := "FULL_QUALITY", type := .int, accessFlags := 26, slot := 2, constantValue := 0 }, { name := "ALL_VALUE", type := (.object "java/lang/String"), accessFlags := 25, slot := 3, constantValue := 0 }, { name := "ALL", type := (.object "com/example/gate_to_handlers/gatetohandlers/MediaType"), accessFlags := 25, slot := 4, constantValue := 0 }, { name := "APPLICATION_ATOM_XML_VALUE", type := (.object "java/lang/String"), accessFlags := 25, slot := 5, constantValue := 0 }, { name := "APPLICATION_ATOM_XML", type := (.object "com/example/gate_to_handlers/gatetohandlers/MediaType"), accessFlags := 25, slot := 6, constantValue := 0 }, { name := "APPLICATION_CBOR_VALUE", type := (.object "java/lang/String"), accessFlags := 25, slot := 7, constantValue := 0 }, { name := "APPLICATION_CBOR", type := (.object "com/example/gate_to_handlers/gatetohandlers/MediaType"), accessFlags := 25, slot := 8, constantValue := 0 }, { name := "APPLICATION_FORM_URLENCODED_VALUE", type := (.object "java/lang/String"), accessFlags := 25, slot := 9, constantValue := 0 }, { name := "APPLICATION_FORM_URLENCODED", type := (.object "com/example/gate_to_handlers/gatetohandlers/MediaType"), accessFlags := 25, slot := 10, constantValue := 0 }, { name := "APPLICATION_JSON_VALUE", type := (.object "java/lang/String"), accessFlags := 25, slot := 11, constantValue := 0 }, { name := "APPLICATION_JSON", type := (.object "com/example/gate_to_handlers/gatetohandlers/MediaType"), accessFlags := 25, slot := 12, constantValue := 0 }, { name := "APPLICATION_NDJSON_VALUE", type := (.object "java/lang/String"), accessFlags := 25, slot := 13, constantValue := 0 }, { name := "APPLICATION_NDJSON", type := (.object "com/example/gate_to_handlers/gatetohandlers/MediaType"), accessFlags := 25, slot := 14, constantValue := 0 }, { name := "APPLICATION_OCTET_STREAM_VALUE", type := (.object "java/lang/String"), accessFlags := 25, slot := 15, constantValue := 0 }, { name := "APPLICATION_OCTET_STREAM", type := (.object "com/example/gate_to_handlers/gatetohandlers/MediaType"), accessFlags := 25, slot := 16, constantValue := 0 }, { name := "APPLICATION_PDF_VALUE", type := (.object "java/lang/String"), accessFlags := 25, slot := 17, constantValue := 0 }, { name := "APPLICATION_PDF", type := (.object "com/example/gate_to_handlers/gatetohandlers/MediaType"), accessFlags := 25, slot := 18, constantValue := 0 }, { name := "APPLICATION_PROBLEM_JSON_VALUE", type := (.object "java/lang/String"), accessFlags := 25, slot := 19, constantValue := 0 }, { name := "APPLICATION_PROBLEM_JSON", type := (.object "com/example/gate_to_handlers/gatetohandlers/MediaType"), accessFlags := 25, slot := 20, constantValue := 0 }, { name := "APPLICATION_PROBLEM_XML_VALUE", type := (.object "java/lang/String"), accessFlags := 25, slot := 21, constantValue := 0 }, { name := "APPLICATION_PROBLEM_XML", type := (.object "com/example/gate_to_handlers/gatetohandlers/MediaType"), accessFlags := 25, slot := 22, constantValue := 0 }, { name := "APPLICATION_RSS_XML_VALUE", type := (.object "java/lang/String"), accessFlags := 25, slot := 23, constantValue := 0 }, { name := "APPLICATION_RSS_XML", type := (.object "com/example/gate_to_handlers/gatetohandlers/MediaType"), accessFlags := 25, slot := 24, constantValue := 0 }, { name := "APPLICATION_XHTML_XML_VALUE", type := (.object "java/lang/String"), accessFlags := 25, slot := 25, constantValue := 0 }, { name := "APPLICATION_XHTML_XML", type := (.object "com/example/gate_to_handlers/gatetohandlers/MediaType"), accessFlags := 25, slot := 26, constantValue := 0 }, { name := "APPLICATION_XML_VALUE", type := (.object "java/lang/String"), accessFlags := 25, slot := 27, constantValue := 0 }, { name := "APPLICATION_XML", type := (.object "com/example/gate_to_handlers/gatetohandlers/MediaType"), accessFlags := 25, slot := 28, constantValue := 0 }, { name := "IMAGE_GIF_VALUE", type := (.object "java/lang/String"), accessFlags := 25, slot := 29, constantValue := 0 }, { name := "IMAGE_GIF", type := (.object "com/example/gate_to_handlers/gatetohandlers/MediaType"), accessFlags := 25, slot := 30, constantValue := 0 }, { name := "IMAGE_JPEG_VALUE", type := (.object "java/lang/String"), accessFlags := 25, slot := 31, constantValue := 0 }, { name := "IMAGE_JPEG", type := (.object "com/example/gate_to_handlers/gatetohandlers/MediaType"), accessFlags := 25, slot := 32, constantValue := 0 }, { name := "IMAGE_PNG_VALUE", type := (.object "java/lang/String"), accessFlags := 25, slot := 33, constantValue := 0 }, { name := "IMAGE_PNG", type := (.object "com/example/gate_to_handlers/gatetohandlers/MediaType"), accessFlags := 25, slot := 34, constantValue := 0 }, { name := "MULTIPART_FORM_DATA_VALUE", type := (.object "java/lang/String"), accessFlags := 25, slot := 35, constantValue := 0 }, { name := "MULTIPART_FORM_DATA", type := (.object "com/example/gate_to_handlers/gatetohandlers/MediaType"), accessFlags := 25, slot := 36, constantValue := 0 }, { name := "MULTIPART_MIXED_VALUE", type := (.object "java/lang/String"), accessFlags := 25, slot := 37, constantValue := 0 }, { name := "MULTIPART_MIXED", type := (.object "com/example/gate_to_handlers/gatetohandlers/MediaType"), accessFlags := 25, slot := 38, constantValue := 0 }, { name := "MULTIPART_RELATED_VALUE", type := (.object "java/lang/String"), accessFlags := 25, slot := 39, constantValue := 0 }, { name := "MULTIPART_RELATED", type := (.object "com/example/gate_to_handlers/gatetohandlers/MediaType"), accessFlags := 25, slot := 40, constantValue := 0 }, { name := "TEXT_EVENT_STREAM_VALUE", type := (.object "java/lang/String"), accessFlags := 25, slot := 41, constantValue := 0 }, { name := "TEXT_EVENT_STREAM", type := (.object "com/example/gate_to_handlers/gatetohandlers/MediaType"), accessFlags := 25, slot := 42, constantValue := 0 }, { name := "TEXT_HTML_VALUE", type := (.object "java/lang/String"), accessFlags := 25, slot := 43, constantValue := 0 }, { name := "TEXT_HTML", type := (.object "com/example/gate_to_handlers/gatetohandlers/MediaType"), accessFlags := 25, slot := 44, constantValue := 0 }, { name := "TEXT_MARKDOWN_VALUE", type := (.object "java/lang/String"), accessFlags := 25, slot := 45, constantValue := 0 }, { name := "TEXT_MARKDOWN", type := (.object "com/example/gate_to_handlers/gatetohandlers/MediaType"), accessFlags := 25, slot := 46, constantValue := 0 }, { name := "TEXT_PLAIN_VALUE", type := (.object "java/lang/String"), accessFlags := 25, slot := 47, constantValue := 0 }, { name := "TEXT_PLAIN", type := (.object "com/example/gate_to_handlers/gatetohandlers/MediaType"), accessFlags := 25, slot := 48, constantValue := 0 }, { name := "TEXT_XML_VALUE", type := (.object "java/lang/String"), accessFlags := 25, slot := 49, constantValue := 0 }, { name := "TEXT_XML", type := (.object "com/example/gate_to_handlers/gatetohandlers/MediaType"), accessFlags := 25, slot := 50, constantValue := 0 }, { name := "ACCEPTS_ALL", type := (.object "java/util/List"), accessFlags := 24, slot := 51, constantValue := 0 }, { name := "type", type := (.object "java/lang/String"), accessFlags := 18, slot := 0, constantValue := 0 }, { name := "subtype", type := (.object "java/lang/String"), accessFlags := 18, slot := 1, constantValue := 0 }, { name := "parameters", type := (.object "java/util/Map"), accessFlags := 18, slot := 2, constantValue := 0 }]
  methods := #[k8m0]
  instanceTypes := #[(.object "java/lang/String"), (.object "java/lang/String"), (.object "java/util/Map")]
  staticTypes := #[(.object "java/lang/String"), .int, .int, (.object "java/lang/String"), (.object "com/example/gate_to_handlers/gatetohandlers/MediaType"), (.object "java/lang/String"), (.object "com/example/gate_to_handlers/gatetohandlers/MediaType"), (.object "java/lang/String"), (.object "com/example/gate_to_handlers/gatetohandlers/MediaType"), (.object "java/lang/String"), (.object "com/example/gate_to_handlers/gatetohandlers/MediaType"), (.object "java/lang/String"), (.object "com/example/gate_to_handlers/gatetohandlers/MediaType"), (.object "java/lang/String"), (.object "com/example/gate_to_handlers/gatetohandlers/MediaType"), (.object "java/lang/String"), (.object "com/example/gate_to_handlers/gatetohandlers/MediaType"), (.object "java/lang/String"), (.object "com/example/gate_to_handlers/gatetohandlers/MediaType"), (.object "java/lang/String"), (.object "com/example/gate_to_handlers/gatetohandlers/MediaType"), (.object "java/lang/String"), (.object "com/example/gate_to_handlers/gatetohandlers/MediaType"), (.object "java/lang/String"), (.object "com/example/gate_to_handlers/gatetohandlers/MediaType"), (.object "java/lang/String"), (.object "com/example/gate_to_handlers/gatetohandlers/MediaType"), (.object "java/lang/String"), (.object "com/example/gate_to_handlers/gatetohandlers/MediaType"), (.object "java/lang/String"), (.object "com/example/gate_to_handlers/gatetohandlers/MediaType"), (.object "java/lang/String"), (.object "com/example/gate_to_handlers/gatetohandlers/MediaType"), (.object "java/lang/String"), (.object "com/example/gate_to_handlers/gatetohandlers/MediaType"), (.object "java/lang/String"), (.object "com/example/gate_to_handlers/gatetohandlers/MediaType"), (.object "java/lang/String"), (.object "com/example/gate_to_handlers/gatetohandlers/MediaType"), (.object "java/lang/String"), (.object "com/example/gate_to_handlers/gatetohandlers/MediaType"), (.object "java/lang/String"), (.object "com/example/gate_to_handlers/gatetohandlers/MediaType"), (.object "java/lang/String"), (.object "com/example/gate_to_handlers/gatetohandlers/MediaType"), (.object "java/lang/String"), (.object "com/example/gate_to_handlers/gatetohandlers/MediaType"), (.object "java/lang/String"), (.object "com/example/gate_to_handlers/gatetohandlers/MediaType"), (.object "java/lang/String"), (.object "com/example/gate_to_handlers/gatetohandlers/MediaType"), (.object "java/util/List")]
  resolved := Array.replicate 559 none
  statics := none }

def pool9 : Array CpInfo := pool [(3, .class_ 4), (0, u "java/lang/String"), (1, .class_ 8), (1, u "java/lang/Object"), (0, u "<init>"), (0, u "()V"), (0, .methodref 12 13), (0, .class_ 14), (0, .nameAndType 15 16), (0, u "java/lang/StringUTF16"), (0, u "newBytesLength"), (0, u "(I)I"), (3, .integer 1073741823), (23, .fieldref 12 45), (0, .nameAndType 46 47), (0, u "$assertionsDisabled"), (0, u "Z"), (0, .methodref 12 49), (0, .nameAndType 50 51), (0, u "length"), (0, u "([B)I"), (7, .fieldref 12 60), (0, .nameAndType 61 62), (0, u "HI_BYTE_SHIFT"), (0, u "I"), (0, .fieldref 12 64), (0, .nameAndType 65 62), (0, u "LO_BYTE_SHIFT"), (1, .methodref 12 68), (0, .nameAndType 69 70), (0, u "checkIndex"), (0, u "(I[B)V"), (0, .methodref 12 72), (0, .nameAndType 73 74), (0, u "getChar"), (0, u "([BI)C"), (32, .methodref 12 108), (0, .nameAndType 109 110), (0, u "newBytesFor"), (0, u "(I)[B"), (0, .methodref 12 112), (0, .nameAndType 113 114), (0, u "putChar"), (0, u "([BII)V"), (0, .methodref 12 116), (0, .nameAndType 117 118), (0, u "compress"), (0, u "([CI[BII)I"), (0, .methodref 12 120), (0, .nameAndType 121 122), (0, u "toBytes"), (0, u "([CII)[B"), (138, u "coderFromArrayLen"), (0, u "([BI)B"), (106, .class_ 371), (1, u "java/lang/StringUTF16$LinesSpliterator"), (20, u "charAt"), (21, .methodref 3 415), (0, .nameAndType 69 416), (0, u "(II)V"), (13, u "MAX_LENGTH"), (196, .class_ 628), (0, u "java/lang/StringUTF16$CodePointsSpliterator"), (0, .class_ 630), (0, u "java/lang/StringUTF16$CharsSpliterator")] 4

def k9m0 : Method := { name := "<init>", desc := "()V", sig := { parameters := [], returnType := none }, accessFlags := 0, code := none }
def k9c1 : Code := { maxStack := 1, maxLocals := 1, code := jdk_52_method_2_code, exceptionTable := #[], attributes := #[] }
def k9m1 : Method := { name := "newBytesFor", desc := "(I)[B", sig := { parameters := [.int], returnType := some (.array .byte) }, accessFlags := 9, code := some k9c1 }
def k9c2 : Code := { maxStack := 4, maxLocals := 1, code := jdk_52_method_3_code, exceptionTable := #[], attributes := #[] }
def k9m2 : Method := { name := "newBytesLength", desc := "(I)I", sig := { parameters := [.int], returnType := some .int }, accessFlags := 9, code := some k9c2 }
def k9c3 : Code := { maxStack := 4, maxLocals := 3, code := jdk_52_method_4_code, exceptionTable := #[], attributes := #[] }
def k9m3 : Method := { name := "putChar", desc := "([BII)V", sig := { parameters := [(.array .byte), .int, .int], returnType := none }, accessFlags := 8, code := some k9c3 }
def k9c4 : Code := { maxStack := 3, maxLocals := 2, code := jdk_52_method_5_code, exceptionTable := #[], attributes := #[] }
def k9m4 : Method := { name := "getChar", desc := "([BI)C", sig := { parameters := [(.array .byte), .int], returnType := some .char }, accessFlags := 8, code := some k9c4 }
def k9c5 : Code := { maxStack := 2, maxLocals := 1, code := jdk_52_method_6_code, exceptionTable := #[], attributes := #[] }
def k9m5 : Method := { name := "length", desc := "([B)I", sig := { parameters := [(.array .byte)], returnType := some .int }, accessFlags := 9, code := some k9c5 }
def k9c6 : Code := { maxStack := 4, maxLocals := 5, code := jdk_52_method_14_code, exceptionTable := #[], attributes := #[] }
def k9m6 : Method := { name := "toBytes", desc := "([CII)[B", sig := { parameters := [(.array .char), .int, .int], returnType := some (.array .byte) }, accessFlags := 9, code := some k9c6 }
def k9c7 : Code := { maxStack := 2, maxLocals := 2, code := jdk_52_method_15_code, exceptionTable := #[], attributes := #[] }
def k9m7 : Method := { name := "coderFromArrayLen", desc := "([BI)B", sig := { parameters := [(.array .byte), .int], returnType := some .byte }, accessFlags := 8, code := some k9c7 }
def k9c8 : Code := { maxStack := 5, maxLocals := 6, code := jdk_52_method_16_code, exceptionTable := #[], attributes := #[] }
def k9m8 : Method := { name := "compress", desc := "([CII)[B", sig := { parameters := [(.array .char), .int, .int], returnType := some (.array .byte) }, accessFlags := 9, code := some k9c8 }
def k9c9 : Code := { maxStack := 3, maxLocals := 7, code := jdk_52_method_21_code, exceptionTable := #[], attributes := #[] }
def k9m9 : Method := { name := "compress", desc := "([CI[BII)I", sig := { parameters := [(.array .char), .int, (.array .byte), .int, .int], returnType := some .int }, accessFlags := 9, code := some k9c9 }
def k9c10 : Code := { maxStack := 2, maxLocals := 2, code := jdk_52_method_83_code, exceptionTable := #[], attributes := #[] }
def k9m10 : Method := { name := "charAt", desc := "([BI)C", sig := { parameters := [(.array .byte), .int], returnType := some .char }, accessFlags := 9, code := some k9c10 }
def k9c11 : Code := { maxStack := 2, maxLocals := 2, code := jdk_52_method_91_code, exceptionTable := #[], attributes := #[] }
def k9m11 : Method := { name := "checkIndex", desc := "(I[B)V", sig := { parameters := [.int, (.array .byte)], returnType := none }, accessFlags := 9, code := some k9c11 }
/-- java/lang/StringUTF16 -/
def k9 : Class := { plain "java/lang/StringUTF16" (some 0) with
  accessFlags := 48
  interfaces := #[]
  cf := some (fileOf pool9 12 #[.nestMembers #[627, 629, 369]] #[{ accessFlags := 0, nameIndex := 9, descriptorIndex := 10, attributes := #[] }, { accessFlags := 9, nameIndex := 109, descriptorIndex := 110, attributes := #[] }, { accessFlags := 9, nameIndex := 15, descriptorIndex := 16, attributes := #[] }, { accessFlags := 8, nameIndex := 113, descriptorIndex := 114, attributes := #[] }, { accessFlags := 8, nameIndex := 73, descriptorIndex := 74, attributes := #[] }, { accessFlags := 9, nameIndex := 50, descriptorIndex := 51, attributes := #[] }, { accessFlags := 9, nameIndex := 121, descriptorIndex := 122, attributes := #[] }, { accessFlags := 8, nameIndex := 261, descriptorIndex := 262, attributes := #[] }, { accessFlags := 9, nameIndex := 117, descriptorIndex := 122, attributes := #[] }, { accessFlags := 9, nameIndex := 117, descriptorIndex := 118, attributes := #[] }, { accessFlags := 9, nameIndex := 392, descriptorIndex := 74, attributes := #[] }, { accessFlags := 9, nameIndex := 69, descriptorIndex := 70, attributes := #[] }] 48 6 #[] #[{ accessFlags := 26, nameIndex := 61, descriptorIndex := 62, attributes := #[] }, { accessFlags := 26, nameIndex := 65, descriptorIndex := 62, attributes := #[] }, { accessFlags := 24, nameIndex := 430, descriptorIndex := 62, attributes := #[] }, { accessFlags := 4120, nameIndex := 46, descriptorIndex := 47, attributes := #[] }])
  fields := #[{ name := "HI_BYTE_SHIFT", type := .int, accessFlags := 26, slot := 0, constantValue := 0 }, { name := "LO_BYTE_SHIFT", type := .int, accessFlags := 26, slot := 1, constantValue := 0 }, { name := "MAX_LENGTH", type := .int, accessFlags := 24, slot := 2, constantValue := 0 }, { name := "$assertionsDisabled", type := .boolean, accessFlags := 4120, slot := 3, constantValue := 0 }]
  methods := #[k9m0, k9m1, k9m2, k9m3, k9m4, k9m5, k9m6, k9m7, k9m8, k9m9, k9m10, k9m11]
  instanceTypes := #[]
  staticTypes := #[.int, .int, .int, .boolean]
  resolved := Array.replicate 635 none
  statics := some 1 }

def pool10 : Array CpInfo := pool [(1, .class_ 2), (0, u "java/lang/String"), (1, .class_ 6), (1, u "java/lang/Object"), (0, u "<init>"), (0, u "()V"), (0, .methodref 1 10), (0, .nameAndType 11 12), (0, u "checkIndex"), (0, u "(II)V"), (1, .class_ 16), (1, u "java/lang/StringLatin1"), (21, .methodref 39 40), (0, .class_ 41), (0, .nameAndType 42 43), (0, u "java/lang/Math"), (0, u "min"), (0, u "(II)I"), (9, u "([BI)C"), (34, .methodref 14 89), (0, .nameAndType 90 91), (0, u "canEncode"), (0, u "(I)Z"), (0, .methodref 39 93), (0, .nameAndType 94 43), (0, u "max"), (0, .methodref 14 96), (0, .nameAndType 97 98), (0, u "indexOfChar"), (0, u "([BIII)I"), (2, u "indexOf"), (19, u "$assertionsDisabled"), (0, u "Z"), (98, .class_ 223), (1, u "java/lang/StringLatin1$LinesSpliterator"), (28, u "charAt"), (137, .class_ 391), (0, u "java/lang/StringLatin1$CharsSpliterator")] 3

def k10m0 : Method := { name := "<init>", desc := "()V", sig := { parameters := [], returnType := none }, accessFlags := 0, code := none }
def k10c1 : Code := { maxStack := 2, maxLocals := 2, code := jdk_43_method_2_code, exceptionTable := #[], attributes := #[] }
def k10m1 : Method := { name := "charAt", desc := "([BI)C", sig := { parameters := [(.array .byte), .int], returnType := some .char }, accessFlags := 9, code := some k10c1 }
def k10c2 : Code := { maxStack := 2, maxLocals := 1, code := jdk_43_method_4_code, exceptionTable := #[], attributes := #[] }
def k10m2 : Method := { name := "canEncode", desc := "(I)Z", sig := { parameters := [.int], returnType := some .boolean }, accessFlags := 9, code := some k10c2 }
def k10c3 : Code := { maxStack := 4, maxLocals := 4, code := jdk_43_method_22_code, exceptionTable := #[], attributes := #[] }
def k10m3 : Method := { name := "indexOf", desc := "([BIII)I", sig := { parameters := [(.array .byte), .int, .int, .int], returnType := some .int }, accessFlags := 9, code := some k10c3 }
def k10c4 : Code := { maxStack := 2, maxLocals := 6, code := jdk_43_method_23_code, exceptionTable := #[], attributes := #[] }
def k10m4 : Method := { name := "indexOfChar", desc := "([BIII)I", sig := { parameters := [(.array .byte), .int, .int, .int], returnType := some .int }, accessFlags := 10, code := some k10c4 }
/-- java/lang/StringLatin1 -/
def k10 : Class := { plain "java/lang/StringLatin1" (some 0) with
  accessFlags := 48
  interfaces := #[]
  cf := some (fileOf pool10 14 #[.nestMembers #[390, 221]] #[{ accessFlags := 0, nameIndex := 7, descriptorIndex := 8, attributes := #[] }, { accessFlags := 9, nameIndex := 252, descriptorIndex := 53, attributes := #[] }, { accessFlags := 9, nameIndex := 90, descriptorIndex := 91, attributes := #[] }, { accessFlags := 9, nameIndex := 101, descriptorIndex := 98, attributes := #[] }, { accessFlags := 10, nameIndex := 97, descriptorIndex := 98, attributes := #[] }] 48 4 #[] #[{ accessFlags := 4120, nameIndex := 121, descriptorIndex := 122, attributes := #[] }])
  fields := #[{ name := "$assertionsDisabled", type := .boolean, accessFlags := 4120, slot := 0, constantValue := 0 }]
  methods := #[k10m0, k10m1, k10m2, k10m3, k10m4]
  instanceTypes := #[]
  staticTypes := #[.boolean]
  resolved := Array.replicate 395 none
  statics := none }

def pool11 : Array CpInfo := pool [(2, .class_ 4), (1, u "java/lang/Object"), (0, u "<init>"), (0, u "()V"), (17, .class_ 26), (1, u "jdk/internal/util/Preconditions"), (6, u "checkIndex"), (21, .class_ 56), (0, u "jdk/internal/util/Preconditions$4"), (57, .class_ 115), (0, u "jdk/internal/util/Preconditions$1"), (7, u "SIOOBE_FORMATTER"), (0, u "Ljava/util/function/BiFunction;"), (0, .class_ 126), (0, u "jdk/internal/util/Preconditions$2"), (3, u "AIOOBE_FORMATTER"), (0, .class_ 132), (0, u "jdk/internal/util/Preconditions$3"), (3, u "IOOBE_FORMATTER"), (41, u "(IILjava/util/function/BiFunction;)I")] 15

def k11m0 : Method := { name := "<init>", desc := "()V", sig := { parameters := [], returnType := none }, accessFlags := 1, code := none }
def k11c1 : Code := { maxStack := 3, maxLocals := 3, code := jdk_41_method_11_code, exceptionTable := #[], attributes := #[] }
def k11m1 : Method := { name := "checkIndex", desc := "(IILjava/util/function/BiFunction;)I", sig := { parameters := [.int, .int, (.object "java/util/function/BiFunction")], returnType := some .int }, accessFlags := 9, code := some k11c1 }
/-- jdk/internal/util/Preconditions -/
def k11 : Class := { plain "jdk/internal/util/Preconditions" (some 0) with
  accessFlags := 33
  interfaces := #[]
  cf := some (fileOf pool11 24 #[.nestMembers #[55, 131, 125, 114]] #[{ accessFlags := 1, nameIndex := 5, descriptorIndex := 6, attributes := #[] }, { accessFlags := 9, nameIndex := 33, descriptorIndex := 178, attributes := #[] }] 33 2 #[] #[{ accessFlags := 25, nameIndex := 123, descriptorIndex := 124, attributes := #[] }, { accessFlags := 25, nameIndex := 130, descriptorIndex := 124, attributes := #[] }, { accessFlags := 25, nameIndex := 136, descriptorIndex := 124, attributes := #[] }])
  fields := #[{ name := "SIOOBE_FORMATTER", type := (.object "java/util/function/BiFunction"), accessFlags := 25, slot := 0, constantValue := 0 }, { name := "AIOOBE_FORMATTER", type := (.object "java/util/function/BiFunction"), accessFlags := 25, slot := 1, constantValue := 0 }, { name := "IOOBE_FORMATTER", type := (.object "java/util/function/BiFunction"), accessFlags := 25, slot := 2, constantValue := 0 }]
  methods := #[k11m0, k11m1]
  instanceTypes := #[]
  staticTypes := #[(.object "java/util/function/BiFunction"), (.object "java/util/function/BiFunction"), (.object "java/util/function/BiFunction")]
  resolved := Array.replicate 194 none
  statics := some 2 }

def pool12 : Array CpInfo := pool [(1, .class_ 2), (0, u "java/lang/Math"), (1, .class_ 6), (1, u "java/lang/Object"), (0, u "<init>"), (0, u "()V"), (89, .class_ 100), (1, u "java/lang/Math$RandomNumberGeneratorHolder"), (71, u "negativeZeroFloatBits"), (0, u "J"), (2, u "negativeZeroDoubleBits"), (21, u "max"), (2, u "min"), (43, u "$assertionsDisabled"), (0, u "Z"), (88, u "(II)I"), (2, u "twoToTheDoubleScaleDown"), (0, u "D"), (4, u "twoToTheDoubleScaleUp"), (9, u "E"), (3, u "PI"), (2, u "TAU"), (2, u "DEGREES_TO_RADIANS"), (0, u "RADIANS_TO_DEGREES")] 94

def k12m0 : Method := { name := "<init>", desc := "()V", sig := { parameters := [], returnType := none }, accessFlags := 2, code := none }
def k12c1 : Code := { maxStack := 2, maxLocals := 2, code := jdk_29_method_65_code, exceptionTable := #[], attributes := #[] }
def k12m1 : Method := { name := "max", desc := "(II)I", sig := { parameters := [.int, .int], returnType := some .int }, accessFlags := 9, code := some k12c1 }
def k12c2 : Code := { maxStack := 2, maxLocals := 2, code := jdk_29_method_69_code, exceptionTable := #[], attributes := #[] }
def k12m2 : Method := { name := "min", desc := "(II)I", sig := { parameters := [.int, .int], returnType := some .int }, accessFlags := 9, code := some k12c2 }
/-- java/lang/Math -/
def k12 : Class := { plain "java/lang/Math" (some 0) with
  accessFlags := 49
  interfaces := #[]
  cf := some (fileOf pool12 1 #[.nestMembers #[98]] #[{ accessFlags := 2, nameIndex := 7, descriptorIndex := 8, attributes := #[] }, { accessFlags := 9, nameIndex := 198, descriptorIndex := 335, attributes := #[] }, { accessFlags := 9, nameIndex := 201, descriptorIndex := 335, attributes := #[] }] 49 4 #[] #[{ accessFlags := 25, nameIndex := 354, descriptorIndex := 339, attributes := #[] }, { accessFlags := 25, nameIndex := 358, descriptorIndex := 339, attributes := #[] }, { accessFlags := 25, nameIndex := 361, descriptorIndex := 339, attributes := #[] }, { accessFlags := 26, nameIndex := 364, descriptorIndex := 339, attributes := #[] }, { accessFlags := 26, nameIndex := 365, descriptorIndex := 339, attributes := #[] }, { accessFlags := 26, nameIndex := 172, descriptorIndex := 173, attributes := #[] }, { accessFlags := 26, nameIndex := 176, descriptorIndex := 173, attributes := #[] }, { accessFlags := 8, nameIndex := 344, descriptorIndex := 339, attributes := #[] }, { accessFlags := 8, nameIndex := 338, descriptorIndex := 339, attributes := #[] }, { accessFlags := 4120, nameIndex := 245, descriptorIndex := 246, attributes := #[] }])
  fields := #[{ name := "E", type := .double, accessFlags := 25, slot := 0, constantValue := 0 }, { name := "PI", type := .double, accessFlags := 25, slot := 1, constantValue := 0 }, { name := "TAU", type := .double, accessFlags := 25, slot := 2, constantValue := 0 }, { name := "DEGREES_TO_RADIANS", type := .double, accessFlags := 26, slot := 3, constantValue := 0 }, { name := "RADIANS_TO_DEGREES", type := .double, accessFlags := 26, slot := 4, constantValue := 0 }, { name := "negativeZeroFloatBits", type := .long, accessFlags := 26, slot := 5, constantValue := 0 }, { name := "negativeZeroDoubleBits", type := .long, accessFlags := 26, slot := 6, constantValue := 0 }, { name := "twoToTheDoubleScaleUp", type := .double, accessFlags := 8, slot := 7, constantValue := 0 }, { name := "twoToTheDoubleScaleDown", type := .double, accessFlags := 8, slot := 8, constantValue := 0 }, { name := "$assertionsDisabled", type := .boolean, accessFlags := 4120, slot := 9, constantValue := 0 }]
  methods := #[k12m0, k12m1, k12m2]
  instanceTypes := #[]
  staticTypes := #[.double, .double, .double, .double, .double, .long, .long, .double, .double, .boolean]
  resolved := Array.replicate 460 none
  statics := none }

def pool13 : Array CpInfo := pool [(9, u "<init>"), (6, .class_ 18), (1, u "java/lang/Object"), (0, u "()V"), (1, .class_ 23), (1, u "jdk/internal/util/ArraysSupport"), (0, u "LOG2_ARRAY_LONG_INDEX_SCALE"), (0, u "I"), (2, u "U"), (0, u "Ljdk/internal/misc/Unsafe;"), (8, u "BIG_ENDIAN"), (0, u "Z"), (8, u "LOG2_BYTE_BIT_SIZE"), (4, u "LOG2_ARRAY_INT_INDEX_SCALE"), (54, u "JLA"), (0, u "Ljdk/internal/access/JavaLangAccess;"), (11, u "LOG2_ARRAY_BOOLEAN_INDEX_SCALE"), (9, u "LOG2_ARRAY_BYTE_INDEX_SCALE"), (5, u "LOG2_ARRAY_CHAR_INDEX_SCALE"), (5, u "LOG2_ARRAY_SHORT_INDEX_SCALE"), (18, u "LOG2_ARRAY_FLOAT_INDEX_SCALE"), (24, u "LOG2_ARRAY_DOUBLE_INDEX_SCALE"), (89, u "T_BOOLEAN"), (2, u "T_CHAR"), (1, u "T_FLOAT"), (1, u "T_DOUBLE"), (1, u "T_BYTE"), (1, u "T_SHORT"), (1, u "T_INT"), (1, u "T_LONG"), (1, u "SOFT_MAX_ARRAY_LENGTH")] 83

def k13m0 : Method := { name := "<init>", desc := "()V", sig := { parameters := [], returnType := none }, accessFlags := 2, code := none }
/-- jdk/internal/util/ArraysSupport -/
def k13 : Class := { plain "jdk/internal/util/ArraysSupport" (some 0) with
  accessFlags := 33
  interfaces := #[]
  cf := some (fileOf pool13 21 #[] #[{ accessFlags := 2, nameIndex := 9, descriptorIndex := 19, attributes := #[] }] 33 16 #[] #[{ accessFlags := 24, nameIndex := 28, descriptorIndex := 29, attributes := #[] }, { accessFlags := 26, nameIndex := 38, descriptorIndex := 39, attributes := #[] }, { accessFlags := 25, nameIndex := 121, descriptorIndex := 25, attributes := #[] }, { accessFlags := 25, nameIndex := 131, descriptorIndex := 25, attributes := #[] }, { accessFlags := 25, nameIndex := 137, descriptorIndex := 25, attributes := #[] }, { accessFlags := 25, nameIndex := 143, descriptorIndex := 25, attributes := #[] }, { accessFlags := 25, nameIndex := 53, descriptorIndex := 25, attributes := #[] }, { accessFlags := 25, nameIndex := 24, descriptorIndex := 25, attributes := #[] }, { accessFlags := 25, nameIndex := 162, descriptorIndex := 25, attributes := #[] }, { accessFlags := 25, nameIndex := 187, descriptorIndex := 25, attributes := #[] }, { accessFlags := 26, nameIndex := 48, descriptorIndex := 25, attributes := #[] }, { accessFlags := 25, nameIndex := 277, descriptorIndex := 25, attributes := #[] }, { accessFlags := 25, nameIndex := 280, descriptorIndex := 25, attributes := #[] }, { accessFlags := 25, nameIndex := 282, descriptorIndex := 25, attributes := #[] }, { accessFlags := 25, nameIndex := 284, descriptorIndex := 25, attributes := #[] }, { accessFlags := 25, nameIndex := 286, descriptorIndex := 25, attributes := #[] }, { accessFlags := 25, nameIndex := 288, descriptorIndex := 25, attributes := #[] }, { accessFlags := 25, nameIndex := 290, descriptorIndex := 25, attributes := #[] }, { accessFlags := 25, nameIndex := 292, descriptorIndex := 25, attributes := #[] }, { accessFlags := 26, nameIndex := 108, descriptorIndex := 109, attributes := #[] }, { accessFlags := 25, nameIndex := 294, descriptorIndex := 25, attributes := #[] }])
  fields := #[{ name := "U", type := (.object "jdk/internal/misc/Unsafe"), accessFlags := 24, slot := 0, constantValue := 0 }, { name := "BIG_ENDIAN", type := .boolean, accessFlags := 26, slot := 1, constantValue := 0 }, { name := "LOG2_ARRAY_BOOLEAN_INDEX_SCALE", type := .int, accessFlags := 25, slot := 2, constantValue := 0 }, { name := "LOG2_ARRAY_BYTE_INDEX_SCALE", type := .int, accessFlags := 25, slot := 3, constantValue := 0 }, { name := "LOG2_ARRAY_CHAR_INDEX_SCALE", type := .int, accessFlags := 25, slot := 4, constantValue := 0 }, { name := "LOG2_ARRAY_SHORT_INDEX_SCALE", type := .int, accessFlags := 25, slot := 5, constantValue := 0 }, { name := "LOG2_ARRAY_INT_INDEX_SCALE", type := .int, accessFlags := 25, slot := 6, constantValue := 0 }, { name := "LOG2_ARRAY_LONG_INDEX_SCALE", type := .int, accessFlags := 25, slot := 7, constantValue := 0 }, { name := "LOG2_ARRAY_FLOAT_INDEX_SCALE", type := .int, accessFlags := 25, slot := 8, constantValue := 0 }, { name := "LOG2_ARRAY_DOUBLE_INDEX_SCALE", type := .int, accessFlags := 25, slot := 9, constantValue := 0 }, { name := "LOG2_BYTE_BIT_SIZE", type := .int, accessFlags := 26, slot := 10, constantValue := 0 }, { name := "T_BOOLEAN", type := .int, accessFlags := 25, slot := 11, constantValue := 0 }, { name := "T_CHAR", type := .int, accessFlags := 25, slot := 12, constantValue := 0 }, { name := "T_FLOAT", type := .int, accessFlags := 25, slot := 13, constantValue := 0 }, { name := "T_DOUBLE", type := .int, accessFlags := 25, slot := 14, constantValue := 0 }, { name := "T_BYTE", type := .int, accessFlags := 25, slot := 15, constantValue := 0 }, { name := "T_SHORT", type := .int, accessFlags := 25, slot := 16, constantValue := 0 }, { name := "T_INT", type := .int, accessFlags := 25, slot := 17, constantValue := 0 }, { name := "T_LONG", type := .int, accessFlags := 25, slot := 18, constantValue := 0 }, { name := "JLA", type := (.object "jdk/internal/access/JavaLangAccess"), accessFlags := 26, slot := 19, constantValue := 0 }, { name := "SOFT_MAX_ARRAY_LENGTH", type := .int, accessFlags := 25, slot := 20, constantValue := 0 }]
  methods := #[k13m0]
  instanceTypes := #[]
  staticTypes := #[(.object "jdk/internal/misc/Unsafe"), .boolean, .int, .int, .int, .int, .int, .int, .int, .int, .int, .int, .int, .int, .int, .int, .int, .int, .int, (.object "jdk/internal/access/JavaLangAccess"), .int]
  resolved := Array.replicate 378 none
  statics := none }

def pool14 : Array CpInfo := pool [(1, u "java/lang/Cloneable"), (0, .class_ 1), (0, u "java/lang/Object"), (0, .class_ 3)] 3

/-- java/lang/Cloneable -/
def k14 : Class := { plain "java/lang/Cloneable" (some 0) with
  accessFlags := 1537
  interfaces := #[]
  cf := some (fileOf pool14 2 #[] #[] 1537 4 #[] #[])
  fields := #[]
  methods := #[]
  instanceTypes := #[]
  staticTypes := #[]
  resolved := Array.replicate 8 none
  statics := none }

/-- the primitive byte -/
def k15 : Class := { plain "byte" none with kind := .primitive 'B', accessFlags := 0x411 }
/-- [B -/
def k16 : Class := { plain "[B" (some 0) with kind := .array 15 .byte, interfaces := #[14, 2], accessFlags := 1041 }

/-- the primitive char -/
def k17 : Class := { plain "char" none with kind := .primitive 'C', accessFlags := 0x411 }
/-- [C -/
def k18 : Class := { plain "[C" (some 0) with kind := .array 17 .char, interfaces := #[14, 2], accessFlags := 1041 }

/-- the primitive int -/
def k19 : Class := { plain "int" none with kind := .primitive 'I', accessFlags := 0x411 }
/-- [I -/
def k20 : Class := { plain "[I" (some 0) with kind := .array 19 .int, interfaces := #[14, 2], accessFlags := 1041 }

def heap : Heap := #[{ cls := 7, slots := #[.long 0, .int 1, .null, .int 0, .null, .int 0, .int 0], vm := .statics 7 },
  { cls := 9, slots := #[.int 0, .int 8, .int 0, .int 1], vm := .statics 9 },
  { cls := 11, slots := #[.null, .null, .null], vm := .statics 11 }]
def classes : Array Class := #[k0, k1, k2, k3, k4, k5, k6, k7, k8, k9, k10, k11, k12, k13, k14, k15, k16, k17, k18, k19, k20]
def interned : List (Array UInt16 × Addr) := []
def slotsUsed : Nat := 14
def theMethod : MethodId := ⟨1, 1⟩
def args0 : Array Value := #[.int 7, .int 11, .int 13, .int 3, .int 5]
def aboutOver (below : List Frame) : State where
  vm := { classes := classes, interned := interned.toArray }
  heap := heap
  slotsUsed := slotsUsed
  threads := #[{ frames := .invoking theMethod args0 :: below }]
def below0 : List Frame := [.native { method := ⟨0, 0⟩, args := #[] }]
def about1 : State := aboutOver below0
def p0 : Program := .bare "" "" ""
def e0 : Env := launch0.env 0 0 0
theorem w_frames : about1.frames = Frame.invoking theMethod args0 :: below0 := rfl
set_option maxRecDepth 65536 in
theorem w_args : argsFit about1.vm theMethod args0 = true := by decide +kernel
set_option maxRecDepth 65536 in
theorem w_heap : heapFits about1 = true := by decide +kernel
set_option maxRecDepth 65536 in
theorem w_runnable : about1.curStatus? = some .runnable := by decide +kernel
set_option maxRecDepth 65536 in
theorem w_alone : about1.alone = true := by decide +kernel
set_option maxRecDepth 65536 in
theorem w_named : about1.methodNamed? x = some theMethod := by decide +kernel
set_option maxRecDepth 65536 in
theorem w_hears : about1.hears theMethod below0 = true := by decide +kernel
set_option maxRecDepth 65536 in
theorem w_ripe : about1.ripe theMethod args0 below0 = true := by decide +kernel
theorem w_running : about1.status = .running := rfl
set_option maxRecDepth 65536 in
theorem w_room : about1.hasRoom e0.platform room_1 = true :=
  launch0.hasRoom_least _ room_1 (by decide +kernel) (by decide +kernel) (by decide +kernel) (by decide +kernel) (by decide +kernel) (by decide +kernel)
theorem allAtoms_all (ts : List Jvm.Cond) (a : Array Jvm.Value) (st : Jvm.State) : (allAtoms ts).before a st = ts.all (fun c => c.before a st) := by
  induction ts with
  | nil => rfl
  | cons c t ih =>
    show (Jvm.Cond.and c (allAtoms t)).before a st = _
    rw [Jvm.Cond.before_and, ih, List.all_cons]
def words1 : List Jvm.Cond := Jvm.Cond.code x code maxLocals ret :: tables_1
/-- a 'code' word, met by the world's own term for the bytes: nothing is compared byte by byte -/
theorem code_word {y : MethodName} {bytes : ByteArray} {mx : Nat} {rt : Option FieldType} {a : Array Value} {s : State} {m : MethodId} {meth : Method} {c : Code} (h1 : s.methodNamed? y = some m) (h2 : s.vm.method? m = some meth) (h3 : meth.code = some c) (h4 : c.code = bytes)
    (h5 : (c.maxLocals == mx && c.exceptionTable.isEmpty && decide (c.maxStack ≤ mostOperands) && decide (meth.sig.returnType = rt) && !meth.locks && decide (parseMethodDescriptor y.desc = some meth.sig)) = true) : (Jvm.Cond.code y bytes mx rt).before a s = true := by
  simp only [Bool.and_eq_true, beq_iff_eq, Bool.not_eq_true', decide_eq_true_eq] at h5
  obtain ⟨⟨⟨⟨⟨g1, g2⟩, g3⟩, g4⟩, g5⟩, g6⟩ := h5
  simp [Cond.before, Cond.holds, Cond.value, h1, h2, h3, h4, g1, g2, g3, g4, g5, g6]
def isCode : Jvm.Cond → Bool
  | .code _ _ _ _ => true
  | _ => false
theorem all_split {L : List Jvm.Cond} {P : Jvm.Cond → Bool} (h1 : L.all (fun c => isCode c || P c) = true) (h2 : ∀ c ∈ L.filter isCode, P c = true) : L.all P = true := by
  refine List.all_eq_true.mpr fun c hc => ?_
  have h := List.all_eq_true.mp h1 c hc
  rcases Bool.eq_false_or_eq_true (isCode c) with hi | hi
  · exact h2 c (List.mem_filter.mpr ⟨hc, hi⟩)
  · simpa [hi] using h
set_option maxRecDepth 65536 in
theorem w_c0 : (Jvm.Cond.code x code maxLocals ret).before args0 about1 = true := code_word (m := ⟨1, 1⟩) (meth := k1m1) (c := k1c1) (by decide +kernel) rfl rfl rfl (by decide +kernel)
set_option maxRecDepth 65536 in
theorem w_c1 : (Jvm.Cond.code ({ cls := "com/example/gate_to_handlers/gatetohandlers/MediaTypeIsTokenPinLaw", name := "draw", desc := "(I)C" } : Jvm.MethodName) method_3_code (1 : Nat) (Option.some Jvm.ClassFile.FieldType.char)).before args0 about1 = true := code_word (m := ⟨1, 2⟩) (meth := k1m2) (c := k1c2) (by decide +kernel) rfl rfl rfl (by decide +kernel)
set_option maxRecDepth 65536 in
theorem w_c2 : (Jvm.Cond.code ({ cls := "java/lang/String", name := "<init>", desc := "([C)V" } : Jvm.MethodName) jdk_42_method_3_code (2 : Nat) (Option.none : Option Jvm.ClassFile.FieldType)).before args0 about1 = true := code_word (m := ⟨7, 1⟩) (meth := k7m1) (c := k7c1) (by decide +kernel) rfl rfl rfl (by decide +kernel)
set_option maxRecDepth 65536 in
theorem w_c3 : (Jvm.Cond.code ({ cls := "java/lang/String", name := "<init>", desc := "([CIILjava/lang/Void;)V" } : Jvm.MethodName) jdk_42_method_149_code (6 : Nat) (Option.none : Option Jvm.ClassFile.FieldType)).before args0 about1 = true := code_word (m := ⟨7, 7⟩) (meth := k7m7) (c := k7c7) (by decide +kernel) rfl rfl rfl (by decide +kernel)
set_option maxRecDepth 65536 in
theorem w_c4 : (Jvm.Cond.code ({ cls := "java/lang/Object", name := "<init>", desc := "()V" } : Jvm.MethodName) object_method_1_code (1 : Nat) (Option.none : Option Jvm.ClassFile.FieldType)).before args0 about1 = true := code_word (m := ⟨0, 0⟩) (meth := k0m0) (c := k0c0) (by decide +kernel) rfl rfl rfl (by decide +kernel)
set_option maxRecDepth 65536 in
theorem w_c5 : (Jvm.Cond.code ({ cls := "com/example/gate_to_handlers/gatetohandlers/MediaType", name := "isToken", desc := "(Ljava/lang/String;)Z" } : Jvm.MethodName) prog_69_method_11_code (4 : Nat) (Option.some Jvm.ClassFile.FieldType.boolean)).before args0 about1 = true := code_word (m := ⟨8, 0⟩) (meth := k8m0) (c := k8c0) (by decide +kernel) rfl rfl rfl (by decide +kernel)
set_option maxRecDepth 65536 in
theorem w_c6 : (Jvm.Cond.code ({ cls := "java/lang/String", name := "isEmpty", desc := "()Z" } : Jvm.MethodName) jdk_42_method_55_code (1 : Nat) (Option.some Jvm.ClassFile.FieldType.boolean)).before args0 about1 = true := code_word (m := ⟨7, 3⟩) (meth := k7m3) (c := k7c3) (by decide +kernel) rfl rfl rfl (by decide +kernel)
set_option maxRecDepth 65536 in
theorem w_c7 : (Jvm.Cond.code ({ cls := "java/lang/StringUTF16", name := "compress", desc := "([CII)[B" } : Jvm.MethodName) jdk_52_method_16_code (6 : Nat) (Option.some (Jvm.ClassFile.FieldType.array Jvm.ClassFile.FieldType.byte))).before args0 about1 = true := code_word (m := ⟨9, 8⟩) (meth := k9m8) (c := k9c8) (by decide +kernel) rfl rfl rfl (by decide +kernel)
set_option maxRecDepth 65536 in
theorem w_c8 : (Jvm.Cond.code ({ cls := "java/lang/StringUTF16", name := "compress", desc := "([CI[BII)I" } : Jvm.MethodName) jdk_52_method_21_code (7 : Nat) (Option.some Jvm.ClassFile.FieldType.int)).before args0 about1 = true := code_word (m := ⟨9, 9⟩) (meth := k9m9) (c := k9c9) (by decide +kernel) rfl rfl rfl (by decide +kernel)
set_option maxRecDepth 65536 in
theorem w_c9 : (Jvm.Cond.code ({ cls := "java/lang/StringUTF16", name := "coderFromArrayLen", desc := "([BI)B" } : Jvm.MethodName) jdk_52_method_15_code (2 : Nat) (Option.some Jvm.ClassFile.FieldType.byte)).before args0 about1 = true := code_word (m := ⟨9, 7⟩) (meth := k9m7) (c := k9c7) (by decide +kernel) rfl rfl rfl (by decide +kernel)
set_option maxRecDepth 65536 in
theorem w_c10 : (Jvm.Cond.code ({ cls := "com/example/gate_to_handlers/gatetohandlers/MediaTypeIsTokenPinLaw", name := "tokenChar", desc := "(C)Z" } : Jvm.MethodName) method_4_code (1 : Nat) (Option.some Jvm.ClassFile.FieldType.boolean)).before args0 about1 = true := code_word (m := ⟨1, 3⟩) (meth := k1m3) (c := k1c3) (by decide +kernel) rfl rfl rfl (by decide +kernel)
set_option maxRecDepth 65536 in
theorem w_c11 : (Jvm.Cond.code ({ cls := "java/lang/String", name := "length", desc := "()I" } : Jvm.MethodName) jdk_42_method_54_code (1 : Nat) (Option.some Jvm.ClassFile.FieldType.int)).before args0 about1 = true := code_word (m := ⟨7, 2⟩) (meth := k7m2) (c := k7c2) (by decide +kernel) rfl rfl rfl (by decide +kernel)
set_option maxRecDepth 65536 in
theorem w_c12 : (Jvm.Cond.code ({ cls := "java/lang/String", name := "coder", desc := "()B" } : Jvm.MethodName) jdk_42_method_152_code (1 : Nat) (Option.some Jvm.ClassFile.FieldType.byte)).before args0 about1 = true := code_word (m := ⟨7, 8⟩) (meth := k7m8) (c := k7c8) (by decide +kernel) rfl rfl rfl (by decide +kernel)
set_option maxRecDepth 65536 in
theorem w_c13 : (Jvm.Cond.code ({ cls := "java/lang/String", name := "charAt", desc := "(I)C" } : Jvm.MethodName) jdk_42_method_56_code (2 : Nat) (Option.some Jvm.ClassFile.FieldType.char)).before args0 about1 = true := code_word (m := ⟨7, 4⟩) (meth := k7m4) (c := k7c4) (by decide +kernel) rfl rfl rfl (by decide +kernel)
set_option maxRecDepth 65536 in
theorem w_c14 : (Jvm.Cond.code ({ cls := "java/lang/String", name := "isLatin1", desc := "()Z" } : Jvm.MethodName) jdk_42_method_154_code (1 : Nat) (Option.some Jvm.ClassFile.FieldType.boolean)).before args0 about1 = true := code_word (m := ⟨7, 9⟩) (meth := k7m9) (c := k7c9) (by decide +kernel) rfl rfl rfl (by decide +kernel)
set_option maxRecDepth 65536 in
theorem w_c15 : (Jvm.Cond.code ({ cls := "java/lang/StringLatin1", name := "charAt", desc := "([BI)C" } : Jvm.MethodName) jdk_43_method_2_code (2 : Nat) (Option.some Jvm.ClassFile.FieldType.char)).before args0 about1 = true := code_word (m := ⟨10, 1⟩) (meth := k10m1) (c := k10c1) (by decide +kernel) rfl rfl rfl (by decide +kernel)
set_option maxRecDepth 65536 in
theorem w_c16 : (Jvm.Cond.code ({ cls := "java/lang/String", name := "checkIndex", desc := "(II)V" } : Jvm.MethodName) jdk_42_method_155_code (2 : Nat) (Option.none : Option Jvm.ClassFile.FieldType)).before args0 about1 = true := code_word (m := ⟨7, 10⟩) (meth := k7m10) (c := k7c10) (by decide +kernel) rfl rfl rfl (by decide +kernel)
set_option maxRecDepth 65536 in
theorem w_c17 : (Jvm.Cond.code ({ cls := "jdk/internal/util/Preconditions", name := "checkIndex", desc := "(IILjava/util/function/BiFunction;)I" } : Jvm.MethodName) jdk_41_method_11_code (3 : Nat) (Option.some Jvm.ClassFile.FieldType.int)).before args0 about1 = true := code_word (m := ⟨11, 1⟩) (meth := k11m1) (c := k11c1) (by decide +kernel) rfl rfl rfl (by decide +kernel)
set_option maxRecDepth 65536 in
theorem w_c18 : (Jvm.Cond.code ({ cls := "java/lang/String", name := "indexOf", desc := "(I)I" } : Jvm.MethodName) jdk_42_method_79_code (2 : Nat) (Option.some Jvm.ClassFile.FieldType.int)).before args0 about1 = true := code_word (m := ⟨7, 5⟩) (meth := k7m5) (c := k7c5) (by decide +kernel) rfl rfl rfl (by decide +kernel)
set_option maxRecDepth 65536 in
theorem w_c19 : (Jvm.Cond.code ({ cls := "java/lang/String", name := "indexOf", desc := "(II)I" } : Jvm.MethodName) jdk_42_method_80_code (3 : Nat) (Option.some Jvm.ClassFile.FieldType.int)).before args0 about1 = true := code_word (m := ⟨7, 6⟩) (meth := k7m6) (c := k7c6) (by decide +kernel) rfl rfl rfl (by decide +kernel)
set_option maxRecDepth 65536 in
theorem w_c20 : (Jvm.Cond.code ({ cls := "java/lang/StringLatin1", name := "indexOf", desc := "([BIII)I" } : Jvm.MethodName) jdk_43_method_22_code (4 : Nat) (Option.some Jvm.ClassFile.FieldType.int)).before args0 about1 = true := code_word (m := ⟨10, 3⟩) (meth := k10m3) (c := k10c3) (by decide +kernel) rfl rfl rfl (by decide +kernel)
set_option maxRecDepth 65536 in
theorem w_c21 : (Jvm.Cond.code ({ cls := "java/lang/StringLatin1", name := "canEncode", desc := "(I)Z" } : Jvm.MethodName) jdk_43_method_4_code (1 : Nat) (Option.some Jvm.ClassFile.FieldType.boolean)).before args0 about1 = true := code_word (m := ⟨10, 2⟩) (meth := k10m2) (c := k10c2) (by decide +kernel) rfl rfl rfl (by decide +kernel)
set_option maxRecDepth 65536 in
theorem w_c22 : (Jvm.Cond.code ({ cls := "java/lang/Math", name := "max", desc := "(II)I" } : Jvm.MethodName) jdk_29_method_65_code (2 : Nat) (Option.some Jvm.ClassFile.FieldType.int)).before args0 about1 = true := code_word (m := ⟨12, 1⟩) (meth := k12m1) (c := k12c1) (by decide +kernel) rfl rfl rfl (by decide +kernel)
set_option maxRecDepth 65536 in
theorem w_c23 : (Jvm.Cond.code ({ cls := "java/lang/Math", name := "min", desc := "(II)I" } : Jvm.MethodName) jdk_29_method_69_code (2 : Nat) (Option.some Jvm.ClassFile.FieldType.int)).before args0 about1 = true := code_word (m := ⟨12, 2⟩) (meth := k12m2) (c := k12c2) (by decide +kernel) rfl rfl rfl (by decide +kernel)
set_option maxRecDepth 65536 in
theorem w_c24 : (Jvm.Cond.code ({ cls := "java/lang/StringLatin1", name := "indexOfChar", desc := "([BIII)I" } : Jvm.MethodName) jdk_43_method_23_code (6 : Nat) (Option.some Jvm.ClassFile.FieldType.int)).before args0 about1 = true := code_word (m := ⟨10, 4⟩) (meth := k10m4) (c := k10c4) (by decide +kernel) rfl rfl rfl (by decide +kernel)
set_option maxRecDepth 65536 in
theorem w_c25 : (Jvm.Cond.code ({ cls := "java/lang/StringUTF16", name := "toBytes", desc := "([CII)[B" } : Jvm.MethodName) jdk_52_method_14_code (5 : Nat) (Option.some (Jvm.ClassFile.FieldType.array Jvm.ClassFile.FieldType.byte))).before args0 about1 = true := code_word (m := ⟨9, 6⟩) (meth := k9m6) (c := k9c6) (by decide +kernel) rfl rfl rfl (by decide +kernel)
set_option maxRecDepth 65536 in
theorem w_c26 : (Jvm.Cond.code ({ cls := "java/lang/StringUTF16", name := "newBytesFor", desc := "(I)[B" } : Jvm.MethodName) jdk_52_method_2_code (1 : Nat) (Option.some (Jvm.ClassFile.FieldType.array Jvm.ClassFile.FieldType.byte))).before args0 about1 = true := code_word (m := ⟨9, 1⟩) (meth := k9m1) (c := k9c1) (by decide +kernel) rfl rfl rfl (by decide +kernel)
set_option maxRecDepth 65536 in
theorem w_c27 : (Jvm.Cond.code ({ cls := "java/lang/StringUTF16", name := "newBytesLength", desc := "(I)I" } : Jvm.MethodName) jdk_52_method_3_code (1 : Nat) (Option.some Jvm.ClassFile.FieldType.int)).before args0 about1 = true := code_word (m := ⟨9, 2⟩) (meth := k9m2) (c := k9c2) (by decide +kernel) rfl rfl rfl (by decide +kernel)
set_option maxRecDepth 65536 in
theorem w_c28 : (Jvm.Cond.code ({ cls := "java/lang/StringUTF16", name := "putChar", desc := "([BII)V" } : Jvm.MethodName) jdk_52_method_4_code (3 : Nat) (Option.none : Option Jvm.ClassFile.FieldType)).before args0 about1 = true := code_word (m := ⟨9, 3⟩) (meth := k9m3) (c := k9c3) (by decide +kernel) rfl rfl rfl (by decide +kernel)
set_option maxRecDepth 65536 in
theorem w_c29 : (Jvm.Cond.code ({ cls := "java/lang/StringUTF16", name := "getChar", desc := "([BI)C" } : Jvm.MethodName) jdk_52_method_5_code (2 : Nat) (Option.some Jvm.ClassFile.FieldType.char)).before args0 about1 = true := code_word (m := ⟨9, 4⟩) (meth := k9m4) (c := k9c4) (by decide +kernel) rfl rfl rfl (by decide +kernel)
set_option maxRecDepth 65536 in
theorem w_c30 : (Jvm.Cond.code ({ cls := "java/lang/StringUTF16", name := "charAt", desc := "([BI)C" } : Jvm.MethodName) jdk_52_method_83_code (2 : Nat) (Option.some Jvm.ClassFile.FieldType.char)).before args0 about1 = true := code_word (m := ⟨9, 10⟩) (meth := k9m10) (c := k9c10) (by decide +kernel) rfl rfl rfl (by decide +kernel)
set_option maxRecDepth 65536 in
theorem w_c31 : (Jvm.Cond.code ({ cls := "java/lang/StringUTF16", name := "checkIndex", desc := "(I[B)V" } : Jvm.MethodName) jdk_52_method_91_code (2 : Nat) (Option.none : Option Jvm.ClassFile.FieldType)).before args0 about1 = true := code_word (m := ⟨9, 11⟩) (meth := k9m11) (c := k9c11) (by decide +kernel) rfl rfl rfl (by decide +kernel)
set_option maxRecDepth 65536 in
theorem w_c32 : (Jvm.Cond.code ({ cls := "java/lang/StringUTF16", name := "length", desc := "([B)I" } : Jvm.MethodName) jdk_52_method_6_code (1 : Nat) (Option.some Jvm.ClassFile.FieldType.int)).before args0 about1 = true := code_word (m := ⟨9, 5⟩) (meth := k9m5) (c := k9c5) (by decide +kernel) rfl rfl rfl (by decide +kernel)
def codes1 : List Jvm.Cond := [Jvm.Cond.code x code maxLocals ret, Jvm.Cond.code ({ cls := "com/example/gate_to_handlers/gatetohandlers/MediaTypeIsTokenPinLaw", name := "draw", desc := "(I)C" } : Jvm.MethodName) method_3_code (1 : Nat) (Option.some Jvm.ClassFile.FieldType.char), Jvm.Cond.code ({ cls := "java/lang/String", name := "<init>", desc := "([C)V" } : Jvm.MethodName) jdk_42_method_3_code (2 : Nat) (Option.none : Option Jvm.ClassFile.FieldType), Jvm.Cond.code ({ cls := "java/lang/String", name := "<init>", desc := "([CIILjava/lang/Void;)V" } : Jvm.MethodName) jdk_42_method_149_code (6 : Nat) (Option.none : Option Jvm.ClassFile.FieldType), Jvm.Cond.code ({ cls := "java/lang/Object", name := "<init>", desc := "()V" } : Jvm.MethodName) object_method_1_code (1 : Nat) (Option.none : Option Jvm.ClassFile.FieldType), Jvm.Cond.code ({ cls := "com/example/gate_to_handlers/gatetohandlers/MediaType", name := "isToken", desc := "(Ljava/lang/String;)Z" } : Jvm.MethodName) prog_69_method_11_code (4 : Nat) (Option.some Jvm.ClassFile.FieldType.boolean), Jvm.Cond.code ({ cls := "java/lang/String", name := "isEmpty", desc := "()Z" } : Jvm.MethodName) jdk_42_method_55_code (1 : Nat) (Option.some Jvm.ClassFile.FieldType.boolean), Jvm.Cond.code ({ cls := "java/lang/StringUTF16", name := "compress", desc := "([CII)[B" } : Jvm.MethodName) jdk_52_method_16_code (6 : Nat) (Option.some (Jvm.ClassFile.FieldType.array Jvm.ClassFile.FieldType.byte)), Jvm.Cond.code ({ cls := "java/lang/StringUTF16", name := "compress", desc := "([CI[BII)I" } : Jvm.MethodName) jdk_52_method_21_code (7 : Nat) (Option.some Jvm.ClassFile.FieldType.int), Jvm.Cond.code ({ cls := "java/lang/StringUTF16", name := "coderFromArrayLen", desc := "([BI)B" } : Jvm.MethodName) jdk_52_method_15_code (2 : Nat) (Option.some Jvm.ClassFile.FieldType.byte), Jvm.Cond.code ({ cls := "com/example/gate_to_handlers/gatetohandlers/MediaTypeIsTokenPinLaw", name := "tokenChar", desc := "(C)Z" } : Jvm.MethodName) method_4_code (1 : Nat) (Option.some Jvm.ClassFile.FieldType.boolean), Jvm.Cond.code ({ cls := "java/lang/String", name := "length", desc := "()I" } : Jvm.MethodName) jdk_42_method_54_code (1 : Nat) (Option.some Jvm.ClassFile.FieldType.int), Jvm.Cond.code ({ cls := "java/lang/String", name := "coder", desc := "()B" } : Jvm.MethodName) jdk_42_method_152_code (1 : Nat) (Option.some Jvm.ClassFile.FieldType.byte), Jvm.Cond.code ({ cls := "java/lang/String", name := "charAt", desc := "(I)C" } : Jvm.MethodName) jdk_42_method_56_code (2 : Nat) (Option.some Jvm.ClassFile.FieldType.char), Jvm.Cond.code ({ cls := "java/lang/String", name := "isLatin1", desc := "()Z" } : Jvm.MethodName) jdk_42_method_154_code (1 : Nat) (Option.some Jvm.ClassFile.FieldType.boolean), Jvm.Cond.code ({ cls := "java/lang/StringLatin1", name := "charAt", desc := "([BI)C" } : Jvm.MethodName) jdk_43_method_2_code (2 : Nat) (Option.some Jvm.ClassFile.FieldType.char), Jvm.Cond.code ({ cls := "java/lang/String", name := "checkIndex", desc := "(II)V" } : Jvm.MethodName) jdk_42_method_155_code (2 : Nat) (Option.none : Option Jvm.ClassFile.FieldType), Jvm.Cond.code ({ cls := "jdk/internal/util/Preconditions", name := "checkIndex", desc := "(IILjava/util/function/BiFunction;)I" } : Jvm.MethodName) jdk_41_method_11_code (3 : Nat) (Option.some Jvm.ClassFile.FieldType.int), Jvm.Cond.code ({ cls := "java/lang/String", name := "indexOf", desc := "(I)I" } : Jvm.MethodName) jdk_42_method_79_code (2 : Nat) (Option.some Jvm.ClassFile.FieldType.int), Jvm.Cond.code ({ cls := "java/lang/String", name := "indexOf", desc := "(II)I" } : Jvm.MethodName) jdk_42_method_80_code (3 : Nat) (Option.some Jvm.ClassFile.FieldType.int), Jvm.Cond.code ({ cls := "java/lang/StringLatin1", name := "indexOf", desc := "([BIII)I" } : Jvm.MethodName) jdk_43_method_22_code (4 : Nat) (Option.some Jvm.ClassFile.FieldType.int), Jvm.Cond.code ({ cls := "java/lang/StringLatin1", name := "canEncode", desc := "(I)Z" } : Jvm.MethodName) jdk_43_method_4_code (1 : Nat) (Option.some Jvm.ClassFile.FieldType.boolean), Jvm.Cond.code ({ cls := "java/lang/Math", name := "max", desc := "(II)I" } : Jvm.MethodName) jdk_29_method_65_code (2 : Nat) (Option.some Jvm.ClassFile.FieldType.int), Jvm.Cond.code ({ cls := "java/lang/Math", name := "min", desc := "(II)I" } : Jvm.MethodName) jdk_29_method_69_code (2 : Nat) (Option.some Jvm.ClassFile.FieldType.int), Jvm.Cond.code ({ cls := "java/lang/StringLatin1", name := "indexOfChar", desc := "([BIII)I" } : Jvm.MethodName) jdk_43_method_23_code (6 : Nat) (Option.some Jvm.ClassFile.FieldType.int), Jvm.Cond.code ({ cls := "java/lang/StringUTF16", name := "toBytes", desc := "([CII)[B" } : Jvm.MethodName) jdk_52_method_14_code (5 : Nat) (Option.some (Jvm.ClassFile.FieldType.array Jvm.ClassFile.FieldType.byte)), Jvm.Cond.code ({ cls := "java/lang/StringUTF16", name := "newBytesFor", desc := "(I)[B" } : Jvm.MethodName) jdk_52_method_2_code (1 : Nat) (Option.some (Jvm.ClassFile.FieldType.array Jvm.ClassFile.FieldType.byte)), Jvm.Cond.code ({ cls := "java/lang/StringUTF16", name := "newBytesLength", desc := "(I)I" } : Jvm.MethodName) jdk_52_method_3_code (1 : Nat) (Option.some Jvm.ClassFile.FieldType.int), Jvm.Cond.code ({ cls := "java/lang/StringUTF16", name := "putChar", desc := "([BII)V" } : Jvm.MethodName) jdk_52_method_4_code (3 : Nat) (Option.none : Option Jvm.ClassFile.FieldType), Jvm.Cond.code ({ cls := "java/lang/StringUTF16", name := "getChar", desc := "([BI)C" } : Jvm.MethodName) jdk_52_method_5_code (2 : Nat) (Option.some Jvm.ClassFile.FieldType.char), Jvm.Cond.code ({ cls := "java/lang/StringUTF16", name := "charAt", desc := "([BI)C" } : Jvm.MethodName) jdk_52_method_83_code (2 : Nat) (Option.some Jvm.ClassFile.FieldType.char), Jvm.Cond.code ({ cls := "java/lang/StringUTF16", name := "checkIndex", desc := "(I[B)V" } : Jvm.MethodName) jdk_52_method_91_code (2 : Nat) (Option.none : Option Jvm.ClassFile.FieldType), Jvm.Cond.code ({ cls := "java/lang/StringUTF16", name := "length", desc := "([B)I" } : Jvm.MethodName) jdk_52_method_6_code (1 : Nat) (Option.some Jvm.ClassFile.FieldType.int)]
set_option maxRecDepth 65536 in
theorem codes_eq : words1.filter isCode = codes1 := rfl
theorem w_codes : ∀ c ∈ words1.filter isCode, c.before args0 about1 = true := by
  rw [codes_eq]
  intro c hc
  simp only [codes1, List.mem_cons, List.not_mem_nil, or_false] at hc
  rcases hc with rfl | rfl | rfl | rfl | rfl | rfl | rfl | rfl | rfl | rfl | rfl | rfl | rfl | rfl | rfl | rfl | rfl | rfl | rfl | rfl | rfl | rfl | rfl | rfl | rfl | rfl | rfl | rfl | rfl | rfl | rfl | rfl | rfl
  · exact w_c0
  · exact w_c1
  · exact w_c2
  · exact w_c3
  · exact w_c4
  · exact w_c5
  · exact w_c6
  · exact w_c7
  · exact w_c8
  · exact w_c9
  · exact w_c10
  · exact w_c11
  · exact w_c12
  · exact w_c13
  · exact w_c14
  · exact w_c15
  · exact w_c16
  · exact w_c17
  · exact w_c18
  · exact w_c19
  · exact w_c20
  · exact w_c21
  · exact w_c22
  · exact w_c23
  · exact w_c24
  · exact w_c25
  · exact w_c26
  · exact w_c27
  · exact w_c28
  · exact w_c29
  · exact w_c30
  · exact w_c31
  · exact w_c32
set_option maxRecDepth 65536 in
theorem w_t1 : (words1.take 24).all (fun c => isCode c || c.before args0 about1) = true := by decide +kernel
set_option maxRecDepth 65536 in
theorem w_t2 : ((words1.drop 24).take 24).all (fun c => isCode c || c.before args0 about1) = true := by decide +kernel
set_option maxRecDepth 65536 in
theorem w_t3 : (((words1.drop 24).drop 24).take 24).all (fun c => isCode c || c.before args0 about1) = true := by decide +kernel
set_option maxRecDepth 65536 in
theorem w_t4 : ((((words1.drop 24).drop 24).drop 24).take 24).all (fun c => isCode c || c.before args0 about1) = true := by decide +kernel
set_option maxRecDepth 65536 in
theorem w_t5 : (((((words1.drop 24).drop 24).drop 24).drop 24).take 24).all (fun c => isCode c || c.before args0 about1) = true := by decide +kernel
set_option maxRecDepth 65536 in
theorem w_t6 : (((((words1.drop 24).drop 24).drop 24).drop 24).drop 24).all (fun c => isCode c || c.before args0 about1) = true := by decide +kernel
theorem w_tables : (allAtoms (Jvm.Cond.code x code maxLocals ret :: tables_1)).before args0 about1 = true := by
  rw [allAtoms_all]
  show words1.all (fun c => c.before args0 about1) = true
  refine all_split ?_ w_codes
  rw [← List.take_append_drop 24 words1, List.all_append, w_t1, ← List.take_append_drop 24 (words1.drop 24), List.all_append, w_t2, ← List.take_append_drop 24 ((words1.drop 24).drop 24), List.all_append, w_t3, ← List.take_append_drop 24 (((words1.drop 24).drop 24).drop 24), List.all_append, w_t4, ← List.take_append_drop 24 ((((words1.drop 24).drop 24).drop 24).drop 24), List.all_append, w_t5, w_t6]
  rfl
set_option maxRecDepth 65536 in
theorem w_rest : rest_1_c.before args0 about1 = true := by decide +kernel
set_option maxRecDepth 65536 in
theorem w_case : (Jvm.Cond.and given_1 narrow_1).before args0 about1 = true := by decide +kernel
set_option maxRecDepth 65536 in
theorem w_consts : constsHeld consts_1 about1 := Jvm.Lit.constsHeldB_iff.mp (by decide +kernel)
theorem w_applies : (headSpec (Jvm.Cond.code x code maxLocals ret :: tables_1) room_1).applies x e0.platform about1 = true :=
  (Spec.applies_iff w_frames).mpr ⟨w_running, w_runnable, w_alone, w_named, w_hears, w_ripe, w_room, w_tables⟩
theorem atStart : AtStart classFile x code maxLocals ret World_1 tables_1 room_1 Calls_1 rest_1 Pre_1 launch0 p0 e0 about1 theMethod args0 below0 :=
  ⟨lists_1, trivial, launch0.admits_env _ _ _, launch0.least_env, fairChoices_fair.cas, fairChoices_fair.clock, w_frames, w_args, w_heap, w_applies, ⟨w_consts, trivial⟩, w_rest, w_case⟩
end start1
theorem witness_1 : WitnessClaimed_1 := ⟨start1.p0, start1.e0, start1.about1, start1.theMethod, start1.args0, start1.below0, start1.atStart⟩
end Jvm.Pilot.@@N@@
