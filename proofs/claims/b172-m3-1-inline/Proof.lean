import JvmDerived
import JvmDerived.Pilot.@@N@@Statement
import JvmDerived.Pilot.@@N@@Code
set_option linter.unusedVariables false
set_option linter.unusedSimpArgs false
namespace Jvm.OwnKit
open Sem ClassFile Op Lib Jvm.Stand Jvm.Free Jvm.LawKit Jvm.RoadKit
/-! a run that goes on to its end -/
def Run (tb : Tables) (e : Env) (below : List Frame) (F : Outcome → State → Prop) (st : State) : Prop :=
  ∃ u o, Steps tb e below st u ∧ u.status = .running ∧ Ended u below o ∧ F o u
theorem Run.st {tb : Tables} {e : Env} {below : List Frame} {F : Outcome → State → Prop} {st : State} (st' : State) (k : ∀ t, Steps tb e below st' t → Steps tb e below st t) (h : Run tb e below F st') : Run tb e below F st := by
  obtain ⟨u, o, a, b⟩ := h
  exact ⟨u, o, k _ a, b⟩
/-! small facts -/
theorem extR (h : Heap) : Ext h h := ⟨Nat.le_refl _, fun _ _ q => q⟩
theorem extT {h h1 h2 : Heap} (E : Ext h h1) (F : Ext h1 h2) : Ext h h2 := ⟨Nat.le_trans E.1 F.1, fun a c q => F.2 a c (E.2 a c q)⟩
theorem extK {h h1 h2 : Heap} {ws : List Addr} (E : Ext h h1) (K : Keep h1 h2 ws) (q : ∀ x ∈ ws, h.size ≤ x) : Ext h h2 := ⟨Nat.le_trans E.1 K.1, fun a c ha => K.2.1 a c (E.2 a c ha) fun hm => Nat.lt_irrefl _ (Nat.lt_of_lt_of_le (Array.getElem?_eq_some_iff.mp ha).1 (q a hm))⟩
theorem keepE {h h1 : Heap} (K : Keep h h1 []) : Ext h h1 := extK (extR h) K all0
theorem cat_r (a : Addr) : (Value.ref a).category = 1 := rfl
theorem cat_i (z : Int32) : (Value.int z).category = 1 := rfl
theorem cat_l (z : Int64) : (Value.long z).category = 2 := rfl
theorem cat_n : Value.null.category = 1 := rfl
theorem catR {v : Value} (h : v.isRef = true) : v.category = 1 := by cases v <;> simp [Value.isRef] at h <;> rfl
theorem narR {v : Value} {t : FieldType} (h : v.isRef = true) (ht : t.isReference = true) : narrow t v = v := by cases v <;> simp [Value.isRef] at h <;> cases t <;> first | rfl | cases ht
theorem fitR {v : Value} {t : FieldType} (h : v.isRef = true) (ht : t.isReference = true) : fits t v = true := by cases v <;> simp [Value.isRef] at h <;> cases t <;> first | rfl | cases ht
theorem narZ {z : Int32} (h : z = 0 ∨ z = 1) : narrow .boolean (.int z) = .int z := by rcases h with rfl | rfl <;> rfl
theorem fitZ {z : Int32} (h : z = 0 ∨ z = 1) : fits .boolean (.int z) = true := by rcases h with rfl | rfl <;> rfl
theorem b01k {P : Prop} {z : Int32} (h : P ∧ z = 1 ∨ ¬ P ∧ z = 0) : z = 0 ∨ z = 1 := h.elim (fun q => Or.inr q.2) (fun q => Or.inl q.2)
def bI (P : Prop) [Decidable P] : Int32 := if P then 1 else 0
theorem bIt {P : Prop} [Decidable P] (h : P) : bI P = 1 := if_pos h
theorem bI0 {P : Prop} [Decidable P] (h : ¬ P) : bI P = 0 := if_neg h
theorem bI1 {P : Prop} [Decidable P] (h : P) : ¬ bI P = 0 := by rw [bIt h]; decide
theorem bIc {P Q : Prop} [Decidable P] [Decidable Q] (h : P ↔ Q) : bI P = bI Q := by
  by_cases p : P
  · rw [bIt p, bIt (h.mp p)]
  · rw [bI0 p, bI0 fun q => p (h.mpr q)]
theorem b01b {P : Prop} [Decidable P] : bI P = 0 ∨ bI P = 1 := by
  by_cases p : P
  · exact Or.inr (bIt p)
  · exact Or.inl (bI0 p)
theorem cmpL_self (x : Int64) : XT.cmpL x x = 0 := by simp [XT.cmpL]
theorem i32e {a b : Int32} (h : a.toInt = b.toInt) : a = b := Int32.toInt_inj.mp h
theorem fitsNB (x : Int32) : fits .byte (.int (nar .byte x)) = true := by
  have h := c_i2b x; have e1 : (-128 : Int32).toInt = -128 := rfl; have e2 : (127 : Int32).toInt = 127 := rfl
  simp only [fits, nar, Bool.and_eq_true, decide_eq_true_eq, Int32.le_iff_toInt_le, e1, e2]; omega
theorem c8i (x : Int32) : (x &&& (255 : Int32)).toUInt32.toUInt16.toUInt32.toInt32 = x &&& (255 : Int32) := by
  have q := c_and x 255 (by decide); have r := c_i2c (x &&& 255); have e : (255 : Int32).toInt = 255 := rfl
  exact i32e (by omega)
theorem narC {x : Int32} (h : ¬ x < 0 ∧ ¬ (255 : Int32) < x) : nar .char x = x := by
  have r := c_i2c x; have e : (255 : Int32).toInt = 255 := rfl; have e0 : (0 : Int32).toInt = 0 := rfl
  obtain ⟨h1, h2⟩ := h; rw [Int32.lt_iff_toInt_lt] at h1 h2
  exact i32e (by show x.toUInt32.toUInt16.toUInt32.toInt32.toInt = x.toInt; omega)
theorem c8r (x : Int32) : ¬ (x &&& (255 : Int32)) < 0 ∧ ¬ (255 : Int32) < (x &&& (255 : Int32)) := by
  have q := c_and x 255 (by decide); have e : (255 : Int32).toInt = 255 := rfl; have e0 : (0 : Int32).toInt = 0 := rfl
  rw [Int32.lt_iff_toInt_lt, Int32.lt_iff_toInt_lt]; omega
theorem c8n (x : Int32) : nar .char ((x &&& (255 : Int32)).toUInt32.toUInt16.toUInt32.toInt32) = x &&& (255 : Int32) := by rw [c8i]; exact narC (c8r x)
theorem c8lr (x : Int64) : ¬ (x &&& (255 : Int64)).toInt32 < 0 ∧ ¬ (255 : Int32) < (x &&& (255 : Int64)).toInt32 := by
  have q := c_maskL x 255 8 (by decide) (by decide); have r := c_l2i (x &&& 255); have b := rng32 (x &&& 255).toInt32; have e : (255 : Int32).toInt = 255 := rfl; have e0 : (0 : Int32).toInt = 0 := rfl
  rw [Int32.lt_iff_toInt_lt, Int32.lt_iff_toInt_lt]; omega
theorem c8ln (x : Int64) : nar .char ((x &&& (255 : Int64)).toInt32.toUInt32.toUInt16.toUInt32.toInt32) = (x &&& (255 : Int64)).toInt32 := by
  have h := narC (c8lr x)
  have e : (x &&& (255 : Int64)).toInt32.toUInt32.toUInt16.toUInt32.toInt32 = (x &&& (255 : Int64)).toInt32 := h
  rw [e]; exact h
theorem chs0 {P : Int32 → Prop} : ∀ c ∈ ([] : List Int32), P c := fun _ h => nomatch h
theorem chsS {P : Int32 → Prop} {y : Int32} {L : List Int32} (q : P y) (r : ∀ x ∈ L, P x) : ∀ x ∈ y :: L, P x := fun x hx => (List.mem_cons.mp hx).elim (fun e => e ▸ q) (r x)
theorem chUp {cs : List Int32} (h : ∀ c ∈ cs, ¬ c < 0 ∧ ¬ (255 : Int32) < c) : ∀ c ∈ cs, ¬ c < 0 ∧ ¬ (65535 : Int32) < c := fun c hc => ⟨(h c hc).1, fun q => (h c hc).2 (by rw [Int32.lt_iff_toInt_lt] at q ⊢; have e1 : (65535 : Int32).toInt = 65535 := rfl; have e2 : (255 : Int32).toInt = 255 := rfl; omega)⟩
theorem stoR {l : Array Slot} {i : Nat} {v : Value} {l' : Array Slot} {o : Slot} (hold : l[i]? = some o) (ho : o = .unset ∨ ∃ w, o = .val w ∧ w.category = 1) (hv : v.isRef = true) (e : l.setIfInBounds i (.val v) = l') : storeLocals l i v = some l' := by rw [XS.store1 hold ho (catR hv), e]
theorem shr0 (x : Int32) : x >>> ((0 : Int32) &&& 31) = x := i32e (by rw [c_ishr x 0 0 rfl]; simp)
theorem shl0 (x : Int32) : x <<< ((0 : Int32) &&& 31) = x := by
  have h := c_ishl x 0 0 rfl; have a := rng32 x; have b := rng32 (x <<< ((0 : Int32) &&& 31))
  rw [show (((2 ^ 0 : Nat) : Int)) = 1 from rfl, Int.mul_one] at h
  exact i32e (by omega)
theorem n_int {a : Nat} (h : a < 2147483648) : (Int32.ofNat a).toInt = a := len_toInt (n := a) (by omega)
theorem n_add (a b : Nat) : Int32.ofNat a + Int32.ofNat b = Int32.ofNat (a + b) := (Int32.ofNat_add a b).symm
theorem n_sub {a b : Nat} (h : b ≤ a) : Int32.ofNat a - Int32.ofNat b = Int32.ofNat (a - b) := by
  have e := n_add (a - b) b
  rw [Nat.sub_add_cancel h] at e
  rw [← e, Int32.add_sub_cancel]
theorem n_lt {a b : Nat} (ha : a < 2147483648) (hb : b < 2147483648) : Int32.ofNat a < Int32.ofNat b ↔ a < b := by rw [Int32.lt_iff_toInt_lt, n_int ha, n_int hb]; omega
theorem n_pos {a : Nat} (ha : a < 2147483648) : ¬ Int32.ofNat a < 0 := by rw [Int32.lt_iff_toInt_lt, n_int ha]; have e0 : (0 : Int32).toInt = 0 := rfl; omega
theorem n_clamp {a : Nat} (ha : a < 2147483648) : (Int32.ofNat a).toNatClampNeg = a := by simp only [Int32.toNatClampNeg, n_int ha]; rfl
theorem n_eq {a b : Nat} (ha : a < 2147483648) (hb : b < 2147483648) (h : Int32.ofNat a = Int32.ofNat b) : a = b := by have := congrArg Int32.toInt h; rw [n_int ha, n_int hb] at this; omega
theorem n_suble {a b : Nat} (h : a ≤ b) (hb : b < 2147483648) : ¬ (0 : Int32) < Int32.ofNat a - Int32.ofNat b := by
  have q := c_isub (Int32.ofNat a) (Int32.ofNat b); have r := rng32 (Int32.ofNat a - Int32.ofNat b)
  rw [n_int (by omega), n_int hb] at q
  rw [Int32.lt_iff_toInt_lt]; have e0 : (0 : Int32).toInt = 0 := rfl; omega
theorem n_subgt {a b : Nat} (h : b < a) (ha : a < 2147483648) : (0 : Int32) < Int32.ofNat a - Int32.ofNat b := by
  have q := c_isub (Int32.ofNat a) (Int32.ofNat b); have r := rng32 (Int32.ofNat a - Int32.ofNat b)
  rw [n_int ha, n_int (by omega)] at q
  rw [Int32.lt_iff_toInt_lt]; have e0 : (0 : Int32).toInt = 0 := rfl; omega
theorem nsI {Z : State} {a0 : Array Value} {C S K : String} {q : Nat} (w : (Cond.superclass C S).before a0 Z = true) (wo : (Cond.noSuperclass S).before a0 Z = true) (wk : (Cond.instantiable K q).before a0 Z = true) (h1 : C ≠ K) (h2 : S ≠ K) : ∃ c t, Z.vm.findClass C = some c ∧ Z.vm.findClass K = some t ∧ Z.vm.assignable c t = false := by
  obtain ⟨o, ko, o1, o2, o3, -, -⟩ := Cond.noSuperclass_spec wo
  obtain ⟨t, kt, t1, t2, t3, t4, -⟩ := Cond.instantiable_spec wk
  obtain ⟨c, c0⟩ := found_sup w
  obtain ⟨p, k, kp, p1, p2, p3, p4, p5, -, p7⟩ := Cond.superclass_spec c0 w
  cases o1.symm.trans p1
  have ne := ids_ne c0 t1 h1
  have ne2 := ids_ne o1 t1 h2
  have sub0 : ∀ fuel, Z.vm.isSubclassAux fuel o t = false := fun fuel => by
    cases fuel with
    | zero => rfl
    | succ f => simp [Vm.isSubclassAux, ne2, o2, o3]
  have sub : ∀ fuel, Z.vm.isSubclassAux fuel c t = false := fun fuel => by
    cases fuel with
    | zero => rfl
    | succ f => simp [Vm.isSubclassAux, ne, p2, p4, sub0]
  simp only [Bool.or_eq_false_iff] at t4
  refine ⟨c, t, c0, t1, ?_⟩
  show Z.vm.assignableAux (255 + 1) c t = false
  simp [Vm.assignableAux, ne, p2, t2, p5, t3, t4.1, Vm.isSubclass, sub]
theorem nfSel {Z : State} {a0 : Array Value} {y : MethodName} {C : String} (w : (Cond.selects C y y).before a0 Z = true) (s' : State) (hZ : Z.Warmed39 s'.vm) : NotFace s' y := notFace_of_selects (args := #[]) (mvT (s := s') hZ w)
theorem nfSelC {Z : State} {a0 : Array Value} {y y' z' : MethodName} {C : String} (w : (Cond.selects C y' z').before a0 Z = true) (e : z'.cls = y.cls) (s' : State) (hZ : Z.Warmed39 s'.vm) : NotFace s' y := fun r0 h0 => by
  obtain ⟨c2, r2, m2, q1, q2, q3, q4, kP, hkP, hkPi⟩ := Cond.selects_spec (mvT (s := s') (args := #[]) hZ w)
  have d1 := findClass_of_methodNamed h0
  have d2 := findClass_of_methodNamed q3
  rw [e] at d2
  have e2 := Option.some.inj (d1.symm.trans d2)
  exact ⟨kP, by rw [e2]; exact hkP, hkPi⟩
theorem nfSup {Z : State} {a0 : Array Value} {y : MethodName} {S : String} (w : (Cond.superclass y.cls S).before a0 Z = true) (s' : State) (hZ : Z.Warmed39 s'.vm) : NotFace s' y := nf_super (args := #[]) (mvT (s := s') hZ w)
theorem nfTop {Z : State} {a0 : Array Value} {y : MethodName} (w : (Cond.noSuperclass y.cls).before a0 Z = true) (s' : State) (hZ : Z.Warmed39 s'.vm) : NotFace s' y := nf_top (args := #[]) (mvT (s := s') hZ w)
theorem sameOf {Z : State} {a0 : Array Value} {y : MethodName} (wd : (Cond.declares y).before a0 Z = true) (nf : ∀ s' : State, Z.Warmed39 s'.vm → NotFace s' y) (hy : y.cls ≠ "java/lang/invoke/MethodHandle" ∧ y.cls ≠ "java/lang/invoke/VarHandle") : (Cond.sameMethod y.cls y.cls y.name y.desc).before a0 Z = true := by
  obtain ⟨r, meth, h1, h2, -, -⟩ := Cond.declares_spec wd
  obtain ⟨kr, k1, k2⟩ := nf Z (State.Warmed39.refl Z) r h1
  have c1 := findClass_of_methodNamed h1
  have f := State.methodFound?_of_named h1 hy
  simp [Cond.before, Cond.holds, Cond.value, c1, f, h1, k1, k2]
theorem declOf {Z : State} {a0 : Array Value} {y : MethodName} {bytes : ByteArray} {maxL : Nat} {ret : Option FieldType} (wi : (Cond.instanceMethod y).before a0 Z = true) (wc : (Cond.code y bytes maxL ret).before a0 Z = true) : (Cond.declares y).before a0 Z = true := by
  obtain ⟨r, meth, h1, h2, h3, -⟩ := Cond.instanceMethod_spec wi
  obtain ⟨m2, cM, q1, -, -, -, -, -, -, hsig⟩ := Cond.code_spec h1 wc
  cases h2.symm.trans q1
  simp [Cond.before, Cond.holds, Cond.value, h1, h2, h3, hsig]
/-! where a walk stands -/
def Wk (W : Bool) (Z : State) (a0 : Array Value) (EL : List (String × Nat)) (n0 : Nat) (h0 : Heap) (ws : List Addr) (own : String) (p : Program) (l : Launch) (e : Env) (R : Room) (s : State) (m : MethodId) (args : Array Value) (below : List Frame) (meth : Method) (c : Code) (sf : List Addr) (T : State) (h : Heap) (k n : Nat) : Prop :=
  ∃ (vm0 : Vm) (locs : List Loc) (k0 k' n' : Nat), (k' ≤ k ∧ n' ≤ n) ∧ Stand p l e R (s.setVm vm0) m args below meth c T locs k' n' ∧ T.heap = h ∧ (s.Since vm0 k0 ∧ k0 ≤ h.size) ∧ Z.Warmed39 vm0 ∧ vm0.findClass own = some m.cls ∧ Fr n0 locs ∧ Keep h0 h ws ∧ Old Z n0 h ∧
    (∀ x ∈ sf, n0 ≤ x ∧ (x ∈ ws ∨ h0.size ≤ x) ∧ x < h.size) ∧ (W = false → vm0 = s.vm) ∧ (W = true → EW Z a0 EL ∧ CHr Z EL s.vm h0 vm0 h ∧ ∀ x ∈ sf, Safe Z EL vm0 h x)
section Kit
variable {W : Bool} {Z : State} {a0 : Array Value} {EL : List (String × Nat)} {n0 : Nat} {h0 : Heap} {ws : List Addr} {own : String} {p : Program} {l : Launch} {e : Env} {R : Room} {s : State} {m : MethodId} {args : Array Value} {below : List Frame} {meth : Method} {c : Code} {sf : List Addr} {T : State} {h : Heap} {k n : Nat}
theorem Wk.here (A : Wk W Z a0 EL n0 h0 ws own p l e R s m args below meth c sf T h k n) : At T m c below := by
  obtain ⟨_, _, _, _, _, _, X, -⟩ := A; exact X.here
theorem Wk.old (A : Wk W Z a0 EL n0 h0 ws own p l e R s m args below meth c sf T h k n) : Old Z n0 h := by
  obtain ⟨_, _, _, _, _, _, _, _, _, _, _, _, _, O, -⟩ := A; exact O
theorem Wk.keep (A : Wk W Z a0 EL n0 h0 ws own p l e R s m args below meth c sf T h k n) : Keep h0 h ws := by
  obtain ⟨_, _, _, _, _, _, _, _, _, _, _, _, K, -⟩ := A; exact K
theorem Wk.zle (A : Wk W Z a0 EL n0 h0 ws own p l e R s m args below meth c sf T h k n) : n0 ≤ h.size := by
  obtain ⟨q, E⟩ := A.old; rw [← q]; exact E.1
theorem Wk.nle (A : Wk W Z a0 EL n0 h0 ws own p l e R s m args below meth c sf T h k n) {x : Addr} (hx : x ∈ sf) : n0 ≤ x := by
  obtain ⟨_, _, _, _, _, _, _, _, _, _, _, _, _, _, f, -⟩ := A; exact (f x hx).1
theorem Wk.mono {k' n' : Nat} (A : Wk W Z a0 EL n0 h0 ws own p l e R s m args below meth c sf T h k n) (hk : k ≤ k') (hn : n ≤ n') : Wk W Z a0 EL n0 h0 ws own p l e R s m args below meth c sf T h k' n' := by
  obtain ⟨vm0, locs, k0, k1, n1, ⟨q1, q2⟩, r⟩ := A
  exact ⟨vm0, locs, k0, k1, n1, ⟨Nat.le_trans q1 hk, Nat.le_trans q2 hn⟩, r⟩
theorem Wk.less {sf' : List Addr} (A : Wk W Z a0 EL n0 h0 ws own p l e R s m args below meth c sf T h k n) (q : ∀ x ∈ sf', x ∈ sf) : Wk W Z a0 EL n0 h0 ws own p l e R s m args below meth c sf' T h k n := by
  obtain ⟨vm0, locs, k0, k1, n1, b, X, eT, S, hZ, ho, N, K, O, f, w1, w2⟩ := A
  exact ⟨vm0, locs, k0, k1, n1, b, X, eT, S, hZ, ho, N, K, O, fun x hx => f x (q x hx), w1, fun e => ⟨(w2 e).1, (w2 e).2.1, fun x hx => (w2 e).2.2 x (q x hx)⟩⟩
theorem Wk.newO (A : Wk W Z a0 EL n0 h0 ws own p l e R s m args below meth c sf T h k n) (hx : p.tables.exec = Jvm.exec) {C : String} {index q : Nat} (w : (Cond.classLink own index C).before a0 Z = true) (wi : (Cond.instantiable C q).before a0 Z = true) (wz : (Cond.initialized C).before a0 Z = true)
    {g : JFrame} (hg : g.method = m) (hd : decode c.code g.pc = .ok (.new index, 3)) (hc : k + 1 ≤ R.cells) (hl : n + q ≤ R.slots) :
    ∃ (a : Addr) (T' : State) (h' : Heap), Wk W Z a0 EL n0 h0 ws own p l e R s m args below meth c (a :: sf) T' h' (k + 1) (n + q) ∧ Ext h h' ∧ h.size = a ∧ Exa Z h' a C ∧ (∀ {O nm d : String} {ty : FieldType}, Laid Z a0 C O nm d → parseFieldDescriptor d = some ty → Fld Z h' a O nm d (defaultValue ty)) ∧
      ∀ t, Steps p.tables e below (T'.setTop { g with pc := g.pc + 3, stack := .ref a :: g.stack }) t → Steps p.tables e below (T.setTop g) t := by
  obtain ⟨vm0, locs, k0, k1, n1, ⟨b1, b2⟩, X, eT, ⟨S, S0⟩, hZ, ho, N, K, O, f, w1, w2⟩ := A
  obtain ⟨T', h', X', e', E, Ex, D, -, st⟩ := RoadKit.newO X hx hZ ho w wi wz eT hg hd (by omega) (by omega)
  refine ⟨_, T', h', ⟨vm0, locs, k0, _, _, ⟨by omega, by omega⟩, X', e', ⟨S, Nat.le_trans S0 E.1⟩, hZ, ho, N, K.ext E, O.ext E, ?_, w1, ?_⟩, E, rfl, Ex, D, st⟩
  · intro x hx'
    rcases List.mem_cons.mp hx' with rfl | hx'
    · exact ⟨by have := O.1; have := O.2.1; omega, Or.inr K.1, Ex.lt⟩
    · exact ⟨(f x hx').1, (f x hx').2.1, Nat.lt_of_lt_of_le (f x hx').2.2 E.1⟩
  · intro ew
    obtain ⟨v1, v2, v3⟩ := w2 ew
    refine ⟨v1, v2.trans (CHr.ext E v2.1), fun x hx' => ?_⟩
    rcases List.mem_cons.mp hx' with rfl | hx'
    · exact Safe.ext E v2.1 (Safe.new (Nat.le_refl _))
    · exact Safe.ext E v2.1 (v3 x hx')
theorem Wk.newP (A : Wk W Z a0 EL n0 h0 ws own p l e R s m args below meth c sf T h k n) (hx : p.tables.exec = Jvm.exec) {aty : ArrayType} (w : (Cond.arrayClass (newarray.typeOf aty)).before a0 Z = true)
    {g : JFrame} (hg : g.method = m) (hd : decode c.code g.pc = .ok (.newarray aty, 2)) {N : Int32} {rest : List Value} (hs : g.stack = .int N :: rest) (hn : ¬ N < 0) {cap : Nat} (hcap : N.toNatClampNeg ≤ cap) (hb : cap * 8 ≤ 536870912) (hc : k + 1 ≤ R.cells) (hl : n + cap ≤ R.slots) :
    ∃ (a : Addr) (T' : State) (h' : Heap) (kA : ClassId), Wk W Z a0 EL n0 h0 ws own p l e R s m args below meth c (a :: sf) T' h' (k + 1) (n + cap) ∧ Ext h h' ∧ h.size = a ∧ Arv Z h' a kA (newarray.typeOf aty) N (List.replicate cap (defaultValue (newarray.typeOf aty))) (defaultValue (newarray.typeOf aty)) ∧
      ∀ t, Steps p.tables e below (T'.setTop { g with pc := g.pc + 2, stack := .ref a :: rest }) t → Steps p.tables e below (T.setTop g) t := by
  obtain ⟨vm0, locs, k0, k1, n1, ⟨b1, b2⟩, X, eT, ⟨S, S0⟩, hZ, ho, Nf, K, O, f, w1, w2⟩ := A
  obtain ⟨T', h', kA, X', e', E, Ar, st⟩ := RoadKit.newP X hx hZ w eT hg hd hs hn hcap hb (by omega) (by omega)
  have V := (Arv.new Ar hn).pad (pad_rep [] (defaultValue (newarray.typeOf aty)) cap)
  refine ⟨_, T', h', kA, ⟨vm0, locs, k0, _, _, ⟨by omega, by omega⟩, X', e', ⟨S, Nat.le_trans S0 E.1⟩, hZ, ho, Nf, K.ext E, O.ext E, ?_, w1, ?_⟩, E, rfl, V, st⟩
  · intro x hx'
    rcases List.mem_cons.mp hx' with rfl | hx'
    · exact ⟨by have := O.1; have := O.2.1; omega, Or.inr K.1, Ar.lt⟩
    · exact ⟨(f x hx').1, (f x hx').2.1, Nat.lt_of_lt_of_le (f x hx').2.2 E.1⟩
  · intro ew
    obtain ⟨v1, v2, v3⟩ := w2 ew
    refine ⟨v1, v2.trans (CHr.ext E v2.1), fun x hx' => ?_⟩
    rcases List.mem_cons.mp hx' with rfl | hx'
    · exact Safe.ext E v2.1 (Safe.new (Nat.le_refl _))
    · exact Safe.ext E v2.1 (v3 x hx')
theorem Wk.newPE (A : Wk W Z a0 EL n0 h0 ws own p l e R s m args below meth c sf T h k n) (hx : p.tables.exec = Jvm.exec) {aty : ArrayType} (w : (Cond.arrayClass (newarray.typeOf aty)).before a0 Z = true)
    {g : JFrame} (hg : g.method = m) (hd : decode c.code g.pc = .ok (.newarray aty, 2)) {N : Int32} {rest : List Value} (hs : g.stack = .int N :: rest) (hn : ¬ N < 0) {cap : Nat} (hcap : N.toNatClampNeg ≤ cap) (hb : cap * 8 ≤ 536870912) (hc : k + 1 ≤ R.cells) (hl : n + cap ≤ R.slots) {ad : String} (had : "[" ++ (newarray.typeOf aty).toString = ad) :
    ∃ (a : Addr) (T' : State) (h' : Heap) (kA : ClassId), Wk W Z a0 EL n0 h0 ws own p l e R s m args below meth c (a :: sf) T' h' (k + 1) (n + cap) ∧ Ext h h' ∧ h.size = a ∧ Arv Z h' a kA (newarray.typeOf aty) N (List.replicate cap (defaultValue (newarray.typeOf aty))) (defaultValue (newarray.typeOf aty)) ∧ Exa Z h' a ad ∧
      ∀ t, Steps p.tables e below (T'.setTop { g with pc := g.pc + 2, stack := .ref a :: rest }) t → Steps p.tables e below (T.setTop g) t := by
  obtain ⟨vm0, locs, k0, k1, n1, ⟨b1, b2⟩, X, eT, ⟨S, S0⟩, hZ, ho, Nf, K, O, f, w1, w2⟩ := A
  obtain ⟨T', h', kA, X', e', E, Ar, Ex, st⟩ := RoadKit.newPE X hx hZ w eT hg hd hs hn hcap hb (by omega) (by omega) had
  have V := (Arv.new Ar hn).pad (pad_rep [] (defaultValue (newarray.typeOf aty)) cap)
  refine ⟨_, T', h', kA, ⟨vm0, locs, k0, _, _, ⟨by omega, by omega⟩, X', e', ⟨S, Nat.le_trans S0 E.1⟩, hZ, ho, Nf, K.ext E, O.ext E, ?_, w1, ?_⟩, E, rfl, V, Ex, st⟩
  · intro x hx'
    rcases List.mem_cons.mp hx' with rfl | hx'
    · exact ⟨by have := O.1; have := O.2.1; omega, Or.inr K.1, Ar.lt⟩
    · exact ⟨(f x hx').1, (f x hx').2.1, Nat.lt_of_lt_of_le (f x hx').2.2 E.1⟩
  · intro ew
    obtain ⟨v1, v2, v3⟩ := w2 ew
    refine ⟨v1, v2.trans (CHr.ext E v2.1), fun x hx' => ?_⟩
    rcases List.mem_cons.mp hx' with rfl | hx'
    · exact Safe.ext E v2.1 (Safe.new (Nat.le_refl _))
    · exact Safe.ext E v2.1 (v3 x hx')
theorem Wk.clone (A : Wk W Z a0 EL n0 h0 ws own p l e R s m args below meth c sf T h k n) (hx : p.tables.exec = Jvm.exec) {ad : String} {index : Nat}
    (v1 : (Cond.methodLink own index ⟨ad, "clone", "()Ljava/lang/Object;"⟩).before a0 Z = true) (v2 : (Cond.sameMethod ad "java/lang/Object" "clone" "()Ljava/lang/Object;").before a0 Z = true) (v3 : (Cond.native ⟨"java/lang/Object", "clone", "()Ljava/lang/Object;"⟩).before a0 Z = true)
    (v4 : (Cond.instanceMethod ⟨"java/lang/Object", "clone", "()Ljava/lang/Object;"⟩).before a0 Z = true) (v5 : (Cond.selects ad ⟨ad, "clone", "()Ljava/lang/Object;"⟩ ⟨"java/lang/Object", "clone", "()Ljava/lang/Object;"⟩).before a0 Z = true) (v6 : (Cond.castable ad "java/lang/Cloneable").before a0 Z = true)
    {b : Addr} {kb : ClassId} {ty : FieldType} {z : Int32} {vs : List Value} {d : Value} (V : Arv Z h b kb ty z vs d) (E : Exa Z h b ad) {g : JFrame} (hg : g.method = m) (hsize : g.locals.size = c.maxLocals) {rest : List Value} (hs : g.stack = .ref b :: rest) (hd : decode c.code g.pc = .ok (.invokevirtual index, 3))
    (hf : 1 ≤ R.frames) {Wd cap : Nat} (hW : 2 * g.monitorRoom + (rest.map fun v => v.category).sum ≤ Wd) (hl : Wd + 14 ≤ R.locals) (hcap : z.toNatClampNeg ≤ cap) (hc : k + 1 ≤ R.cells) (hsl : n + cap ≤ R.slots) :
    ∃ (a : Addr) (T' : State) (h' : Heap), Wk W Z a0 EL n0 h0 ws own p l e R s m args below meth c (a :: sf) T' h' (k + 1) (n + cap) ∧ Ext h h' ∧ h.size = a ∧ Arv Z h' a kb ty z vs d ∧ Exa Z h' a ad ∧
      ∀ t, Steps p.tables e below (T'.setTop { g with pc := g.pc + 3, stack := .ref a :: rest }) t → Steps p.tables e below (T.setTop g) t := by
  obtain ⟨vm0, locs, k0, k1, n1, ⟨b1, b2⟩, X, eT, ⟨S, S0⟩, hZ, ho, Nf, K, O, f, w1, w2⟩ := A
  obtain ⟨T', h', X', e', Ex, Ar, Ea, st⟩ := RoadKit.cloneH X hx hZ ho v1 v2 v3 v4 v5 v6 eT V.arh E hg hsize hs hd hf hW hl hcap (by omega) (by omega)
  refine ⟨_, T', h', ⟨vm0, locs, k0, _, _, ⟨by omega, by omega⟩, X', e', ⟨S, Nat.le_trans S0 Ex.1⟩, hZ, ho, Nf, K.ext Ex, O.ext Ex, ?_, w1, ?_⟩, Ex, rfl, Ar, Ea, st⟩
  · intro x hx'
    rcases List.mem_cons.mp hx' with rfl | hx'
    · exact ⟨by have := O.1; have := O.2.1; omega, Or.inr K.1, Ea.lt⟩
    · exact ⟨(f x hx').1, (f x hx').2.1, Nat.lt_of_lt_of_le (f x hx').2.2 Ex.1⟩
  · intro ew
    obtain ⟨q1, q2, q3⟩ := w2 ew
    refine ⟨q1, q2.trans (CHr.ext Ex q2.1), fun x hx' => ?_⟩
    rcases List.mem_cons.mp hx' with rfl | hx'
    · exact Safe.ext Ex q2.1 (Safe.new (Nat.le_refl _))
    · exact Safe.ext Ex q2.1 (q3 x hx')
/-- one place of a cell of our own is written -/
theorem Wk.wrote {T' : State} {h' : Heap} {a : Addr} {sl : Nat} {v : Value} {vm0 : Vm} {locs : List Loc} {k0 k1 n1 : Nat} (X' : Stand p l e R (s.setVm vm0) m args below meth c T' (locs ++ [⟨a, sl⟩]) k1 n1) (e' : T'.heap = h') (Wr' : Wr h h' a sl v) (ha : a ∈ sf)
    (b : k1 ≤ k ∧ n1 ≤ n) (S : s.Since vm0 k0 ∧ k0 ≤ h.size) (hZ : Z.Warmed39 vm0) (ho : vm0.findClass own = some m.cls) (N : Fr n0 locs) (K : Keep h0 h ws) (O : Old Z n0 h) (f : ∀ x ∈ sf, n0 ≤ x ∧ (x ∈ ws ∨ h0.size ≤ x) ∧ x < h.size) (w1 : W = false → vm0 = s.vm) (w2 : W = true → EW Z a0 EL ∧ CHr Z EL s.vm h0 vm0 h ∧ ∀ x ∈ sf, Safe Z EL vm0 h x) :
    Wk W Z a0 EL n0 h0 ws own p l e R s m args below meth c sf T' h' k n := by
  obtain ⟨f1, f2, f3⟩ := f a ha
  refine ⟨vm0, _, k0, k1, n1, b, X', e', ⟨S.1, by rw [Wr'.size]; exact S.2⟩, hZ, ho, Fr.snoc X' N f1, K.wr Wr' f2, O.wr Wr' f1, fun x hx => ?_, w1, fun ew => ?_⟩
  · rw [Wr'.size]; exact f x hx
  · obtain ⟨v1, v2, v3⟩ := w2 ew
    exact ⟨v1, v2.trans (CHr.wr Wr' (v3 a ha) v2.1), fun x hx => Safe.wr Wr' (v3 a ha) v2.1 (v3 x hx)⟩
theorem Wk.stC (A : Wk W Z a0 EL n0 h0 ws own p l e R s m args below meth c sf T h k n) (hx : p.tables.exec = Jvm.exec) {b : Addr} {kb : ClassId} {N : Int32} {vs : List Value} {d : Value} (V : Arv Z h b kb .char N vs d) (hb : b ∈ sf) {j x : Int32} (i : Nat) (hj : j.toNatClampNeg = i) (hjn : ¬ j < 0 ∧ j < N) (hi : i < vs.length)
    {g : JFrame} (hg : g.method = m) {rest : List Value} (hs : g.stack = .int x :: .int j :: .ref b :: rest) (hd : decode c.code g.pc = .ok (.castore, 1)) :
    ∃ (T' : State) (h' : Heap), Wk W Z a0 EL n0 h0 ws own p l e R s m args below meth c sf T' h' k n ∧ Keep h h' [b] ∧ Arv Z h' b kb .char N (vs.set i (.int (nar .char x))) d ∧
      ∀ t, Steps p.tables e below (T'.setTop { g with pc := g.pc + 1, stack := rest }) t → Steps p.tables e below (T.setTop g) t := by
  obtain ⟨vm0, locs, k0, k1, n1, bb, X, eT, S, hZ, ho, Nf, K, O, f, w1, w2⟩ := A
  obtain ⟨cl, Ar, q, Sz, Nn, H, G⟩ := V
  obtain ⟨T', h', X', e', Wr', st⟩ := RoadKit.stC X hx hZ eT Ar (j := j) (inb_of Sz hjn) hg hs hd
  exact ⟨T', h', Wk.wrote X' e' Wr' hb bb S hZ ho Nf K O f w1 w2, Keep.of_wr Wr', Arv.set Ar q Sz Nn H G (fits_nar_char _) Wr' i hj hi, st⟩
theorem Wk.stB (A : Wk W Z a0 EL n0 h0 ws own p l e R s m args below meth c sf T h k n) (hx : p.tables.exec = Jvm.exec) {b : Addr} {kb : ClassId} {N : Int32} {vs : List Value} {d : Value} (V : Arv Z h b kb .byte N vs d) (hb : b ∈ sf) {j x : Int32} (i : Nat) (hj : j.toNatClampNeg = i) (hjn : ¬ j < 0 ∧ j < N) (hi : i < vs.length) (hf : fits .byte (.int (nar .byte x)) = true)
    {g : JFrame} (hg : g.method = m) {rest : List Value} (hs : g.stack = .int x :: .int j :: .ref b :: rest) (hd : decode c.code g.pc = .ok (.bastore, 1)) :
    ∃ (T' : State) (h' : Heap), Wk W Z a0 EL n0 h0 ws own p l e R s m args below meth c sf T' h' k n ∧ Keep h h' [b] ∧ Arv Z h' b kb .byte N (vs.set i (.int (nar .byte x))) d ∧
      ∀ t, Steps p.tables e below (T'.setTop { g with pc := g.pc + 1, stack := rest }) t → Steps p.tables e below (T.setTop g) t := by
  obtain ⟨vm0, locs, k0, k1, n1, bb, X, eT, S, hZ, ho, Nf, K, O, f, w1, w2⟩ := A
  obtain ⟨cl, Ar, q, Sz, Nn, H, G⟩ := V
  obtain ⟨T', h', X', e', Wr', st⟩ := RoadKit.stB X hx hZ eT Ar (j := j) (inb_of Sz hjn) hg hs hd
  exact ⟨T', h', Wk.wrote X' e' Wr' hb bb S hZ ho Nf K O f w1 w2, Keep.of_wr Wr', Arv.set Ar q Sz Nn H G hf Wr' i hj hi, st⟩
theorem Wk.putF (A : Wk W Z a0 EL n0 h0 ws own p l e R s m args below meth c sf T h k n) (hx : p.tables.exec = Jvm.exec) {R0 O fn d C : String} {index kk : Nat} {ty : FieldType} (w : (Cond.fieldLink own index R0 fn d).before a0 Z = true) (via : Via Z R0 O fn d) {a : Addr} (ha : a ∈ sf) {v v' old : Value} (F : Fld Z h a O fn d old) (E : Exa Z h a C)
    (L : (Cond.lays C O fn d).before a0 Z = true ∨ ((Cond.laysFinal C O fn d).before a0 Z = true ∧ own = O ∧ meth.name = "<init>")) (wi : (Cond.instantiable C kk).before a0 Z = true) (hty : parseFieldDescriptor d = some ty) (hn : narrow ty v = v') (hf : fits ty v' = true) {g : JFrame} (hg : g.method = m) {rest : List Value} (hs : g.stack = v :: .ref a :: rest) (hd : decode c.code g.pc = .ok (.putfield index, 3)) :
    ∃ (T' : State) (h' : Heap), Wk W Z a0 EL n0 h0 ws own p l e R s m args below meth c sf T' h' k n ∧ Keep h h' [a] ∧ Wr h h' a (RoadKit.slotOf Z O fn d) v' ∧
      ∀ t, Steps p.tables e below (T'.setTop { g with pc := g.pc + 3, stack := rest }) t → Steps p.tables e below (T.setTop g) t := by
  obtain ⟨vm0, locs, k0, k1, n1, bb, X, eT, S, hZ, ho, Nf, K, Od, f, w1, w2⟩ := A
  obtain ⟨T', h', X', e', Wr', st⟩ := RoadKit.putFN X hx hZ ho w via eT F E L wi hty hn hf hg hs hd
  exact ⟨T', h', Wk.wrote X' e' Wr' ha bb S hZ ho Nf K Od f w1 w2, Keep.of_wr Wr', Wr', st⟩
/-- a step that leaves the heap -/
theorem Wk.stay {T' : State} {vm0 : Vm} {locs : List Loc} {k0 k1 n1 : Nat} (X' : Stand p l e R (s.setVm vm0) m args below meth c T' locs k1 n1) (e' : T'.heap = h)
    (b : k1 ≤ k ∧ n1 ≤ n) (S : s.Since vm0 k0 ∧ k0 ≤ h.size) (hZ : Z.Warmed39 vm0) (ho : vm0.findClass own = some m.cls) (N : Fr n0 locs) (K : Keep h0 h ws) (O : Old Z n0 h) (f : ∀ x ∈ sf, n0 ≤ x ∧ (x ∈ ws ∨ h0.size ≤ x) ∧ x < h.size) (w1 : W = false → vm0 = s.vm) (w2 : W = true → EW Z a0 EL ∧ CHr Z EL s.vm h0 vm0 h ∧ ∀ x ∈ sf, Safe Z EL vm0 h x) :
    Wk W Z a0 EL n0 h0 ws own p l e R s m args below meth c sf T' h k n := ⟨vm0, locs, k0, k1, n1, b, X', e', S, hZ, ho, N, K, O, f, w1, w2⟩
theorem Wk.getF (A : Wk W Z a0 EL n0 h0 ws own p l e R s m args below meth c sf T h k n) (hx : p.tables.exec = Jvm.exec) {R0 O fn d : String} {index : Nat} (w : (Cond.fieldLink own index R0 fn d).before a0 Z = true) (via : Via Z R0 O fn d) {a : Addr} {v : Value} (F : Fld Z h a O fn d v) {g : JFrame} (hg : g.method = m) {rest : List Value} (hs : g.stack = .ref a :: rest) (hd : decode c.code g.pc = .ok (.getfield index, 3)) :
    ∃ (T' : State), Wk W Z a0 EL n0 h0 ws own p l e R s m args below meth c sf T' h k n ∧
      ∀ t, Steps p.tables e below (T'.setTop { g with pc := g.pc + 3, stack := v :: rest }) t → Steps p.tables e below (T.setTop g) t := by
  obtain ⟨vm0, locs, k0, k1, n1, bb, X, eT, S, hZ, ho, Nf, K, O, f, w1, w2⟩ := A
  obtain ⟨T', X', e', st⟩ := RoadKit.getF X hx hZ ho (host := "") (Or.inl w) via eT F hg hs hd
  exact ⟨T', Wk.stay X' e' bb S hZ ho Nf K O f w1 w2, st⟩
theorem Wk.getS (A : Wk W Z a0 EL n0 h0 ws own p l e R s m args below meth c sf T h k n) (hx : p.tables.exec = Jvm.exec) {R0 O fn d : String} {index : Nat} (w : (Cond.fieldLink own index R0 fn d).before a0 Z = true) (via : Via Z R0 O fn d) {v : Value} (F : Sta Z h O fn d v) {g : JFrame} (hg : g.method = m) (hd : decode c.code g.pc = .ok (.getstatic index, 3)) :
    ∃ (T' : State), Wk W Z a0 EL n0 h0 ws own p l e R s m args below meth c sf T' h k n ∧
      ∀ t, Steps p.tables e below (T'.setTop { g with pc := g.pc + 3, stack := v :: g.stack }) t → Steps p.tables e below (T.setTop g) t := by
  obtain ⟨vm0, locs, k0, k1, n1, bb, X, eT, S, hZ, ho, Nf, K, O, f, w1, w2⟩ := A
  obtain ⟨T', X', e', st⟩ := RoadKit.getS X hx hZ (host := "") ho w via eT F hg hd
  exact ⟨T', Wk.stay X' e' bb S hZ ho Nf K O f w1 w2, st⟩
theorem Wk.castY (A : Wk W Z a0 EL n0 h0 ws own p l e R s m args below meth c sf T h k n) (hx : p.tables.exec = Jvm.exec) {KK : String} {index : Nat} (w : (Cond.classLink own index KK).before a0 Z = true) {a : Addr} (F : Ins Z h a KK true) {g : JFrame} (hg : g.method = m) {rest : List Value} (hs : g.stack = .ref a :: rest) (hd : decode c.code g.pc = .ok (.checkcast index, 3)) :
    ∃ (T' : State), Wk W Z a0 EL n0 h0 ws own p l e R s m args below meth c sf T' h k n ∧
      ∀ t, Steps p.tables e below (T'.setTop { g with pc := g.pc + 3 }) t → Steps p.tables e below (T.setTop g) t := by
  obtain ⟨vm0, locs, k0, k1, n1, bb, X, eT, S, hZ, ho, Nf, K, O, f, w1, w2⟩ := A
  obtain ⟨T', X', e', st⟩ := RoadKit.castY X hx hZ ho w eT F hg hs hd
  exact ⟨T', Wk.stay X' e' bb S hZ ho Nf K O f w1 w2, st⟩
theorem Wk.instY (A : Wk W Z a0 EL n0 h0 ws own p l e R s m args below meth c sf T h k n) (hx : p.tables.exec = Jvm.exec) {KK : String} {index : Nat} (w : (Cond.classLink own index KK).before a0 Z = true) {a : Addr} (F : Ins Z h a KK true) {g : JFrame} (hg : g.method = m) {rest : List Value} (hs : g.stack = .ref a :: rest) (hd : decode c.code g.pc = .ok (.instanceof index, 3)) :
    ∃ (T' : State), Wk W Z a0 EL n0 h0 ws own p l e R s m args below meth c sf T' h k n ∧
      ∀ t, Steps p.tables e below (T'.setTop { g with pc := g.pc + 3, stack := .int 1 :: rest }) t → Steps p.tables e below (T.setTop g) t := by
  obtain ⟨vm0, locs, k0, k1, n1, bb, X, eT, S, hZ, ho, Nf, K, O, f, w1, w2⟩ := A
  obtain ⟨T', X', e', st⟩ := RoadKit.instY X hx hZ ho w eT F hg hs hd
  exact ⟨T', Wk.stay X' e' bb S hZ ho Nf K O f w1 w2, st⟩
theorem Wk.instNo (A : Wk W Z a0 EL n0 h0 ws own p l e R s m args below meth c sf T h k n) (hx : p.tables.exec = Jvm.exec) {KK C : String} {index : Nat} (w : (Cond.classLink own index KK).before a0 Z = true) {a : Addr} (E : Exa Z h a C) (F : ∃ c t, Z.vm.findClass C = some c ∧ Z.vm.findClass KK = some t ∧ Z.vm.assignable c t = false) {g : JFrame} (hg : g.method = m) {rest : List Value} (hs : g.stack = .ref a :: rest) (hd : decode c.code g.pc = .ok (.instanceof index, 3)) :
    ∃ (T' : State), Wk W Z a0 EL n0 h0 ws own p l e R s m args below meth c sf T' h k n ∧
      ∀ t, Steps p.tables e below (T'.setTop { g with pc := g.pc + 3, stack := .int 0 :: rest }) t → Steps p.tables e below (T.setTop g) t := by
  obtain ⟨vm0, locs, k0, k1, n1, bb, X, eT, S, hZ, ho, Nf, K, O, f, w1, w2⟩ := A
  obtain ⟨T', X', e', st⟩ := RoadKit.instNo X hx hZ ho w eT E F hg hs hd
  exact ⟨T', Wk.stay X' e' bb S hZ ho Nf K O f w1 w2, st⟩
theorem Wk.instNull (A : Wk W Z a0 EL n0 h0 ws own p l e R s m args below meth c sf T h k n) (hx : p.tables.exec = Jvm.exec) {index : Nat} {g : JFrame} (hg : g.method = m) {rest : List Value} (hs : g.stack = .null :: rest) (hd : decode c.code g.pc = .ok (.instanceof index, 3)) :
    ∀ t, Steps p.tables e below (T.setTop { g with pc := g.pc + 3, stack := .int 0 :: rest }) t → Steps p.tables e below (T.setTop g) t := by
  obtain ⟨vm0, locs, k0, k1, n1, bb, X, eT, S, hZ, ho, Nf, K, O, f, w1, w2⟩ := A
  exact X.instanceofNull hx hg hs hd
theorem Wk.castNull (A : Wk W Z a0 EL n0 h0 ws own p l e R s m args below meth c sf T h k n) (hx : p.tables.exec = Jvm.exec) {index : Nat} {g : JFrame} (hg : g.method = m) {rest : List Value} (hs : g.stack = .null :: rest) (hd : decode c.code g.pc = .ok (.checkcast index, 3)) :
    ∀ t, Steps p.tables e below (T.setTop { g with pc := g.pc + 3 }) t → Steps p.tables e below (T.setTop g) t := by
  obtain ⟨vm0, locs, k0, k1, n1, bb, X, eT, S, hZ, ho, Nf, K, O, f, w1, w2⟩ := A
  exact X.checkcastNull hx hg hs hd
theorem Wk.initO (A : Wk W Z a0 EL n0 h0 ws own p l e R s m args below meth c sf T h k n) (hx : p.tables.exec = Jvm.exec) {idx : Nat} (w1' : (Cond.methodLink own idx Lib.objectInit).before a0 Z = true) (w2' : (Cond.instanceMethod Lib.objectInit).before a0 Z = true) (w3' : (Cond.code Lib.objectInit ⟨#[0xb1]⟩ 1 none).before a0 Z = true) {g : JFrame} (hg : g.method = m) (hsize : g.locals.size = c.maxLocals) {a : Addr} {rest : List Value} (hs : g.stack = .ref a :: rest) (hd : decode c.code g.pc = .ok (.invokespecial idx, 3))
    (hf : 1 ≤ R.frames) {Wd : Nat} (hW : 2 * g.monitorRoom + (rest.map fun v => v.category).sum ≤ Wd) (hl : Wd + 12 ≤ R.locals) :
    ∃ (T' : State), Wk W Z a0 EL n0 h0 ws own p l e R s m args below meth c sf T' h k n ∧
      ∀ t, Steps p.tables e below (T'.setTop { g with pc := g.pc + 3, stack := rest }) t → Steps p.tables e below (T.setTop g) t := by
  obtain ⟨vm0, locs, k0, k1, n1, bb, X, eT, S, hZ, ho, Nf, K, O, f, w1, w2⟩ := A
  obtain ⟨T', X', e', st⟩ := RoadKit.initO X hx hZ ho w1' w2' w3' eT hg hsize hs hd hf hW hl
  exact ⟨T', Wk.stay X' e' bb S hZ ho Nf K O f w1 w2, st⟩
theorem Wk.ldcI (A : Wk W Z a0 EL n0 h0 ws own p l e R s m args below meth c sf T h k n) (hx : p.tables.exec = Jvm.exec) {index : Nat} {v : Int32} (w : (Cond.constant own index v).before a0 Z = true) {g : JFrame} (hg : g.method = m) (hd : decode c.code g.pc = .ok (.ldc index, 2)) :
    ∀ t, Steps p.tables e below (T.setTop { g with pc := g.pc + 2, stack := .int v :: g.stack }) t → Steps p.tables e below (T.setTop g) t := by
  obtain ⟨vm0, locs, k0, k1, n1, bb, X, eT, S, hZ, ho, Nf, K, O, f, w1, w2⟩ := A
  exact X.ldcInt hx ho (mvT (s := s.setVm vm0) hZ w) hg hd
theorem Wk.ldcL (A : Wk W Z a0 EL n0 h0 ws own p l e R s m args below meth c sf T h k n) (hx : p.tables.exec = Jvm.exec) {index : Nat} {v : Int64} (w : (Cond.constantLong own index v).before a0 Z = true) {g : JFrame} (hg : g.method = m) (hd : decode c.code g.pc = .ok (.ldc2_w index, 3)) :
    ∀ t, Steps p.tables e below (T.setTop { g with pc := g.pc + 3, stack := .long v :: g.stack }) t → Steps p.tables e below (T.setTop g) t := by
  obtain ⟨vm0, locs, k0, k1, n1, bb, X, eT, S, hZ, ho, Nf, K, O, f, w1, w2⟩ := A
  exact X.ldc2Long hx ho (mvT (s := s.setVm vm0) hZ w) hg hd
theorem Wk.ldB (A : Wk W Z a0 EL n0 h0 ws own p l e R s m args below meth c sf T h k n) (hx : p.tables.exec = Jvm.exec) {b : Addr} {kb : ClassId} {N : Int32} {vs : List Value} {d : Value} (V : Arv Z h b kb .byte N vs d) {j : Int32} (i : Nat) (hj : j.toNatClampNeg = i) (hjn : ¬ j < 0 ∧ j < N) {v : Value} (hv : vs.getD i d = v)
    {g : JFrame} (hg : g.method = m) {rest : List Value} (hs : g.stack = .int j :: .ref b :: rest) (hd : decode c.code g.pc = .ok (.baload, 1)) :
    ∀ t, Steps p.tables e below (T.setTop { g with pc := g.pc + 1, stack := v :: rest }) t → Steps p.tables e below (T.setTop g) t := by
  obtain ⟨vm0, locs, k0, k1, n1, bb, X, eT, S, hZ, ho, Nf, K, O, f, w1, w2⟩ := A
  obtain ⟨cl, Ar, q, Sz, Nn, H, G⟩ := V
  have hin := inb_of Sz hjn
  subst hj
  exact fun t kk => X.baloadBytes hx (by rw [eT]; exact Ar.1) (State.isArrayOf_alike hZ.alike Ar.2.1) Ar.2.2 hin (by rw [H _ (Nat.lt_of_not_le fun q => hin (Or.inr q)), hv]) hg hs hd t kk
theorem Wk.ldC (A : Wk W Z a0 EL n0 h0 ws own p l e R s m args below meth c sf T h k n) (hx : p.tables.exec = Jvm.exec) {b : Addr} {kb : ClassId} {N : Int32} {vs : List Value} {d : Value} (V : Arv Z h b kb .char N vs d) {j : Int32} (i : Nat) (hj : j.toNatClampNeg = i) (hjn : ¬ j < 0 ∧ j < N) {v : Value} (hv : vs.getD i d = v)
    {g : JFrame} (hg : g.method = m) {rest : List Value} (hs : g.stack = .int j :: .ref b :: rest) (hd : decode c.code g.pc = .ok (.caload, 1)) :
    ∀ t, Steps p.tables e below (T.setTop { g with pc := g.pc + 1, stack := v :: rest }) t → Steps p.tables e below (T.setTop g) t := by
  obtain ⟨vm0, locs, k0, k1, n1, bb, X, eT, S, hZ, ho, Nf, K, O, f, w1, w2⟩ := A
  obtain ⟨cl, Ar, q, Sz, Nn, H, G⟩ := V
  have hin := inb_of Sz hjn
  subst hj
  exact fun t kk => X.caload hx (by rw [eT]; exact Ar.1) (State.isArrayOf_alike hZ.alike Ar.2.1) Ar.2.2 hin (by rw [H _ (Nat.lt_of_not_le fun q => hin (Or.inr q)), hv]) hg hs hd t kk
theorem Wk.alen (A : Wk W Z a0 EL n0 h0 ws own p l e R s m args below meth c sf T h k n) (hx : p.tables.exec = Jvm.exec) {b : Addr} {kb : ClassId} {ty : FieldType} {N : Int32} {vs : List Value} {d : Value} (V : Arv Z h b kb ty N vs d) {g : JFrame} (hg : g.method = m) {rest : List Value} (hs : g.stack = .ref b :: rest) (hd : decode c.code g.pc = .ok (.arraylength, 1)) :
    ∀ t, Steps p.tables e below (T.setTop { g with pc := g.pc + 1, stack := .int N :: rest }) t → Steps p.tables e below (T.setTop g) t := by
  obtain ⟨vm0, locs, k0, k1, n1, bb, X, eT, S, hZ, ho, Nf, K, O, f, w1, w2⟩ := A
  obtain ⟨cl, Ar, q, Sz, Nn, H, G⟩ := V
  intro t kk
  refine X.arraylength hx (cell := cl) (by rw [eT]; exact Ar.1) (State.isArrayOf_alike (Vm.Alike.trans (Vm.Alike.refl _) hZ.alike) Ar.2.1) hg hs hd _ ?_
  rw [len_of Sz Nn]; exact kk
/-! what pays a call -/
abbrev PayN (l : Launch) (R : Room) (p : Program) (e : Env) (below : List Frame) (s : State) (args : Array Value) (y : MethodName) (len Wd : Nat) (as : Array Value) (h : Heap) (kc ks : Nat) (Q : Option Value → Heap → List Loc → Prop) : Prop :=
  Back l R p e below s args y len Wd (fun A a => a = as ∧ A.U.heap = h ∧ A.cells + kc ≤ R.cells ∧ A.slots + ks ≤ R.slots) (fun A _ v B => ∃ L, Q v B.U.heap L ∧ B.locs = A.locs ++ L ∧ B.cells = A.cells + kc ∧ B.slots = A.slots + ks)
abbrev PayW (Z : State) (EL : List (String × Nat)) (l : Launch) (R : Room) (p : Program) (e : Env) (below : List Frame) (s : State) (vm0 : Vm) (args : Array Value) (y : MethodName) (len Wd : Nat) (as : Array Value) (h : Heap) (kc ks : Nat) (Q : Option Value → Heap → List Loc → Prop) : Prop :=
  BackS l R p e below (s.setVm vm0) args y len Wd (fun A a => a = as ∧ A.U.heap = h ∧ A.cells + kc ≤ R.cells ∧ A.slots + ks ≤ R.slots) (fun A _ v B => ∃ L, Q v B.U.heap L ∧ B.locs = A.locs ++ L ∧ B.cells = A.cells + kc ∧ B.slots = A.slots + ks ∧ CHr Z EL vm0 h B.U.vm B.U.heap)
/-- behind a call that interned nothing -/
theorem Wk.after {kc ks : Nat} {T' : State} {L locs : List Loc} {vm0 : Vm} {k0 k1 n1 : Nat} {wc : List Addr} (X' : Stand p l e R (s.setVm vm0) m args below meth c T' (locs ++ L) (k1 + kc) (n1 + ks))
    (b : k1 ≤ k ∧ n1 ≤ n) (S : s.Since vm0 k0 ∧ k0 ≤ h.size) (hZ : Z.Warmed39 vm0) (ho : vm0.findClass own = some m.cls) (N : Fr n0 locs) (K : Keep h0 h ws) (O : Old Z n0 h) (f : ∀ x ∈ sf, n0 ≤ x ∧ (x ∈ ws ∨ h0.size ≤ x) ∧ x < h.size) (w1 : W = false → vm0 = s.vm) (w2 : W = true → EW Z a0 EL ∧ CHr Z EL s.vm h0 vm0 h ∧ ∀ x ∈ sf, Safe Z EL vm0 h x)
    (NL : Fr n0 L) (Kc : Keep h T'.heap wc) (hws : ∀ x ∈ wc, x ∈ sf) (xs : List Addr) (hxs : ∀ x ∈ xs, x ∈ sf ∨ h.size ≤ x ∧ x < T'.heap.size) :
    Wk W Z a0 EL n0 h0 ws own p l e R s m args below meth c (xs ++ sf) T' T'.heap (k + kc) (n + ks) := by
  refine ⟨vm0, _, k0, _, _, ⟨by omega, by omega⟩, X', rfl, ⟨S.1, Nat.le_trans S.2 Kc.1⟩, hZ, ho, Fr.app N NL, K.trans Kc fun x hx => (f x (hws x hx)).2.1, O.keep Kc fun x hx => (f x (hws x hx)).1, fun x hx => ?_, w1, fun ew => ?_⟩
  · have old : x ∈ sf → n0 ≤ x ∧ (x ∈ ws ∨ h0.size ≤ x) ∧ x < T'.heap.size := fun hx => ⟨(f x hx).1, (f x hx).2.1, Nat.lt_of_lt_of_le (f x hx).2.2 Kc.1⟩
    rcases List.mem_append.mp hx with hx | hx
    · rcases hxs x hx with hx | ⟨q1, q2⟩
      · exact old hx
      · exact ⟨Nat.le_trans (by rw [← O.1]; exact O.2.1) q1, Or.inr (Nat.le_trans K.1 q1), q2⟩
    · exact old hx
  · obtain ⟨v1, v2, v3⟩ := w2 ew
    refine ⟨v1, v2.trans (CHr.keep Kc (fun x hx => v3 x (hws x hx)) v2.1), fun x hx => ?_⟩
    have old : x ∈ sf → Safe Z EL vm0 T'.heap x := fun hx => Safe.keep Kc (fun x hx => v3 x (hws x hx)) v2.1 (v3 x hx)
    rcases List.mem_append.mp hx with hx | hx
    · rcases hxs x hx with hx | ⟨q1, q2⟩
      · exact old hx
      · exact Safe.keep Kc (fun x hx => v3 x (hws x hx)) v2.1 (Safe.new q1)
    · exact old hx
theorem Wk.callS (A : Wk W Z a0 EL n0 h0 ws own p l e R s m args below meth c sf T h k n) (hx : p.tables.exec = Jvm.exec) {index : Nat} {y : MethodName} {bytes : ByteArray} {maxL : Nat} {ret : Option FieldType} (wl : (Cond.methodLink own index y).before a0 Z = true) (wst : (Cond.static y).before a0 Z = true) (wz : (Cond.initialized y.cls).before a0 Z = true) (wc : (Cond.code y bytes maxL ret).before a0 Z = true) (hy : y.cls ≠ "java/lang/invoke/MethodHandle" ∧ y.cls ≠ "java/lang/invoke/VarHandle")
    {g : JFrame} (hg : g.method = m) (hsize : g.locals.size = c.maxLocals) (argsL rest : List Value) (hlen : ∀ sig, parseMethodDescriptor y.desc = some sig → argsL.length = sig.parameters.length) (hs : g.stack = argsL.reverse ++ rest) {Wd kc ks : Nat} (hW : 2 * g.monitorRoom + (rest.map fun v => v.category).sum ≤ Wd) (hd : decode c.code g.pc = .ok (.invokestatic index, 3)) (hk : k + kc ≤ R.cells) (hn : n + ks ≤ R.slots)
    {Q : Option Value → Heap → List Loc → Prop} (wc' : List Addr) (hQ : ∀ v h' L, Q v h' L → Fr n0 L ∧ Keep h h' wc') (hws : ∀ x ∈ wc', x ∈ sf) (pay : ∀ vm0, Z.Warmed39 (s.setVm vm0).vm → PayN l R p e below (s.setVm vm0) args y 3 Wd argsL.toArray h kc ks Q) :
    ∃ (v : Option Value) (T' : State) (h' : Heap), (∀ xs : List Addr, (∀ x ∈ xs, x ∈ sf ∨ h.size ≤ x ∧ x < h'.size) → Wk W Z a0 EL n0 h0 ws own p l e R s m args below meth c (xs ++ sf) T' h' (k + kc) (n + ks)) ∧ Keep h h' wc' ∧ (∃ L, Q v h' L) ∧
      ∀ t, Steps p.tables e below (T'.setTop { g with pc := g.pc + 3, stack := v.toList ++ rest }) t → Steps p.tables e below (T.setTop g) t := by
  obtain ⟨vm0, locs, k0, k1, n1, bb, X, eT, S, hZ, ho, Nf, K, O, f, w1, w2⟩ := A
  obtain ⟨v, _, ⟨T', L', c', s'⟩, -, X', ⟨L, hq, l1, l2, l3⟩, st⟩ := Jvm.LawKit.callS X hx ho (mvT (s := s.setVm vm0) hZ wl) (mvT (s := s.setVm vm0) hZ wst) (mvT (s := s.setVm vm0) hZ wz) (mvT (s := s.setVm vm0) hZ wc) hy (pay vm0 hZ) hg hsize (argsL := argsL) (rest := rest) hlen hs hW hd (fun _ _ => ⟨rfl, eT, by show k1 + kc ≤ _; omega, by show n1 + ks ≤ _; omega⟩)
  dsimp only [Pt.U, Pt.locs, Pt.cells, Pt.slots] at X' hq l1 l2 l3 st
  subst l1 l2 l3
  obtain ⟨q1, q2⟩ := hQ _ _ _ hq
  exact ⟨v, T', _, Wk.after X' bb S hZ ho Nf K O f w1 w2 q1 q2 hws, q2, ⟨L, hq⟩, st⟩
theorem Wk.callI (A : Wk W Z a0 EL n0 h0 ws own p l e R s m args below meth c sf T h k n) (hx : p.tables.exec = Jvm.exec) {index : Nat} {y : MethodName} {bytes : ByteArray} {maxL : Nat} (hy1 : y.name = "<init>") (wl : (Cond.methodLink own index y).before a0 Z = true) (wi : (Cond.instanceMethod y).before a0 Z = true) (wc : (Cond.code y bytes maxL none).before a0 Z = true) (hy : y.cls ≠ "java/lang/invoke/MethodHandle" ∧ y.cls ≠ "java/lang/invoke/VarHandle")
    {g : JFrame} (hg : g.method = m) (hsize : g.locals.size = c.maxLocals) (a : Addr) (argsL rest : List Value) (hlen : ∀ sig, parseMethodDescriptor y.desc = some sig → argsL.length = sig.parameters.length) (hs : g.stack = argsL.reverse ++ .ref a :: rest) {Wd kc ks : Nat} (hW : 2 * g.monitorRoom + (rest.map fun v => v.category).sum ≤ Wd) (hd : decode c.code g.pc = .ok (.invokespecial index, 3)) (hk : k + kc ≤ R.cells) (hn : n + ks ≤ R.slots)
    {Q : Option Value → Heap → List Loc → Prop} (wc' : List Addr) (hQ : ∀ v h' L, Q v h' L → Fr n0 L ∧ Keep h h' wc') (hws : ∀ x ∈ wc', x ∈ sf) (pay : ∀ vm0, Z.Warmed39 (s.setVm vm0).vm → PayN l R p e below (s.setVm vm0) args y 3 Wd (.ref a :: argsL).toArray h kc ks Q) :
    ∃ (v : Option Value) (T' : State) (h' : Heap), (∀ xs : List Addr, (∀ x ∈ xs, x ∈ sf ∨ h.size ≤ x ∧ x < h'.size) → Wk W Z a0 EL n0 h0 ws own p l e R s m args below meth c (xs ++ sf) T' h' (k + kc) (n + ks)) ∧ Keep h h' wc' ∧ (∃ L, Q v h' L) ∧
      ∀ t, Steps p.tables e below (T'.setTop { g with pc := g.pc + 3, stack := v.toList ++ rest }) t → Steps p.tables e below (T.setTop g) t := by
  obtain ⟨vm0, locs, k0, k1, n1, bb, X, eT, S, hZ, ho, Nf, K, O, f, w1, w2⟩ := A
  obtain ⟨v, _, ⟨T', L', c', s'⟩, -, X', ⟨L, hq, l1, l2, l3⟩, st⟩ := X.specialBack hx hy1 ho (mvT (s := s.setVm vm0) hZ wl) (mvT (s := s.setVm vm0) hZ wi) (mvT (s := s.setVm vm0) hZ wc) hy (pay vm0 hZ) hg hsize (Steps.refl _) (a := a) (argsL := argsL) (rest := rest) hlen hs hW hd (fun _ _ => ⟨rfl, eT, by show k1 + kc ≤ _; omega, by show n1 + ks ≤ _; omega⟩)
  dsimp only [Pt.U, Pt.locs, Pt.cells, Pt.slots] at X' hq l1 l2 l3 st
  subst l1 l2 l3
  obtain ⟨q1, q2⟩ := hQ _ _ _ hq
  exact ⟨v, T', _, Wk.after X' bb S hZ ho Nf K O f w1 w2 q1 q2 hws, q2, ⟨L, hq⟩, fun t q => st.trans q⟩
theorem Wk.callV (A : Wk W Z a0 EL n0 h0 ws own p l e R s m args below meth c sf T h k n) (hx : p.tables.exec = Jvm.exec) {C : String} {index : Nat} {y z : MethodName} (wl : (Cond.methodLink own index y).before a0 Z = true) (wd : (Cond.declares y).before a0 Z = true) (wse : (Cond.selects C y z).before a0 Z = true) (wi : (Cond.instanceMethod z).before a0 Z = true) (nf : ∀ s' : State, Z.Warmed39 s'.vm → NotFace s' y) (hy : y.cls ≠ "java/lang/invoke/MethodHandle" ∧ y.cls ≠ "java/lang/invoke/VarHandle")
    {b : Addr} (E : Exa Z h b C) {g : JFrame} (hg : g.method = m) (hsize : g.locals.size = c.maxLocals) (argsL rest : List Value) (hlen : ∀ sig, parseMethodDescriptor y.desc = some sig → argsL.length = sig.parameters.length) (hs : g.stack = argsL.reverse ++ .ref b :: rest) {Wd kc ks : Nat} (hW : 2 * g.monitorRoom + (rest.map fun v => v.category).sum ≤ Wd) (hd : decode c.code g.pc = .ok (.invokevirtual index, 3)) (hk : k + kc ≤ R.cells) (hn : n + ks ≤ R.slots)
    {Q : Option Value → Heap → List Loc → Prop} (wc' : List Addr) (hQ : ∀ v h' L, Q v h' L → Fr n0 L ∧ Keep h h' wc') (hws : ∀ x ∈ wc', x ∈ sf) (pay : ∀ vm0, Z.Warmed39 (s.setVm vm0).vm → PayN l R p e below (s.setVm vm0) args z 3 Wd (.ref b :: argsL).toArray h kc ks Q) :
    ∃ (v : Option Value) (T' : State) (h' : Heap), (∀ xs : List Addr, (∀ x ∈ xs, x ∈ sf ∨ h.size ≤ x ∧ x < h'.size) → Wk W Z a0 EL n0 h0 ws own p l e R s m args below meth c (xs ++ sf) T' h' (k + kc) (n + ks)) ∧ Keep h h' wc' ∧ (∃ L, Q v h' L) ∧
      ∀ t, Steps p.tables e below (T'.setTop { g with pc := g.pc + 3, stack := v.toList ++ rest }) t → Steps p.tables e below (T.setTop g) t := by
  obtain ⟨vm0, locs, k0, k1, n1, bb, X, eT, S, hZ, ho, Nf, K, O, f, w1, w2⟩ := A
  obtain ⟨cq, kq, qa, qb, qc⟩ := isOf (s := s.setVm vm0) hZ eT E
  obtain ⟨v, _, ⟨T', L', c', s'⟩, -, X', ⟨L, hq, l1, l2, l3⟩, st⟩ := X.virtualBack hx ho (mvT (s := s.setVm vm0) hZ wl) (mvT (s := s.setVm vm0) hZ wd) (nf (s.setVm vm0) hZ) (mvT (s := s.setVm vm0) hZ wse) (mvT (s := s.setVm vm0) hZ wi) hy (pay vm0 hZ) qa qc hg hsize (Steps.refl _) (argsL := argsL) (rest := rest) hlen hs hW hd (fun _ _ => ⟨rfl, eT, by show k1 + kc ≤ _; omega, by show n1 + ks ≤ _; omega⟩)
  dsimp only [Pt.U, Pt.locs, Pt.cells, Pt.slots] at X' hq l1 l2 l3 st
  subst l1 l2 l3
  obtain ⟨q1, q2⟩ := hQ _ _ _ hq
  exact ⟨v, T', _, Wk.after X' bb S hZ ho Nf K O f w1 w2 q1 q2 hws, q2, ⟨L, hq⟩, fun t q => st.trans q⟩
theorem Wk.callSup (A : Wk W Z a0 EL n0 h0 ws own p l e R s m args below meth c sf T h k n) (hx : p.tables.exec = Jvm.exec) {KK : String} {index : Nat} {y : MethodName} {bytes : ByteArray} {maxL : Nat} {ret : Option FieldType} (wl : (Cond.methodLink own index y).before a0 Z = true) (wsm : (Cond.sameMethod y.cls y.cls y.name y.desc).before a0 Z = true) (wi : (Cond.instanceMethod y).before a0 Z = true) (wsu : (Cond.superclass own y.cls).before a0 Z = true) (wc : (Cond.code y bytes maxL ret).before a0 Z = true) (hn1 : y.name ≠ "<init>")
    {g : JFrame} (hg : g.method = m) (hsize : g.locals.size = c.maxLocals) {a : Addr} (F : Ins Z h a KK true) (argsL rest : List Value) (hlen : ∀ sig, parseMethodDescriptor y.desc = some sig → argsL.length = sig.parameters.length) (hs : g.stack = argsL.reverse ++ .ref a :: rest) {Wd kc ks : Nat} (hW : 2 * g.monitorRoom + (rest.map fun v => v.category).sum ≤ Wd) (hd : decode c.code g.pc = .ok (.invokespecial index, 3)) (hk : k + kc ≤ R.cells) (hn : n + ks ≤ R.slots)
    {Q : Option Value → Heap → List Loc → Prop} (wc' : List Addr) (hQ : ∀ v h' L, Q v h' L → Fr n0 L ∧ Keep h h' wc') (hws : ∀ x ∈ wc', x ∈ sf) (pay : ∀ vm0, Z.Warmed39 (s.setVm vm0).vm → PayN l R p e below (s.setVm vm0) args y 3 Wd (.ref a :: argsL).toArray h kc ks Q) :
    ∃ (v : Option Value) (T' : State) (h' : Heap), (∀ xs : List Addr, (∀ x ∈ xs, x ∈ sf ∨ h.size ≤ x ∧ x < h'.size) → Wk W Z a0 EL n0 h0 ws own p l e R s m args below meth c (xs ++ sf) T' h' (k + kc) (n + ks)) ∧ Keep h h' wc' ∧ (∃ L, Q v h' L) ∧
      ∀ t, Steps p.tables e below (T'.setTop { g with pc := g.pc + 3, stack := v.toList ++ rest }) t → Steps p.tables e below (T.setTop g) t := by
  obtain ⟨vm0, locs, k0, k1, n1, bb, X, eT, S, hZ, ho, Nf, K, O, f, w1, w2⟩ := A
  obtain ⟨v, _, ⟨T', L', c', s'⟩, -, X', ⟨L, hq, l1, l2, l3⟩, st⟩ := RoadKit.superBack X hx hZ ho wl wsm wi wsu hn1 (pay vm0 hZ) eT F hg hsize wc (argsL := argsL) (rest := rest) hlen hs hW hd (fun _ _ => ⟨rfl, eT, by show k1 + kc ≤ _; omega, by show n1 + ks ≤ _; omega⟩)
  dsimp only [Pt.U, Pt.locs, Pt.cells, Pt.slots] at X' hq l1 l2 l3 st
  subst l1 l2 l3
  obtain ⟨q1, q2⟩ := hQ _ _ _ hq
  exact ⟨v, T', _, Wk.after X' bb S hZ ho Nf K O f w1 w2 q1 q2 hws, q2, ⟨L, hq⟩, fun t q => st.trans q⟩
theorem Wk.copy (A : Wk W Z a0 EL n0 h0 ws own p l e R s m args below meth c sf T h k n) (hx : p.tables.exec = Jvm.exec) {index : Nat} (wl : (Cond.methodLink own index Jvm.Stand.acN).before a0 Z = true) (wn : (Cond.native Jvm.Stand.acN).before a0 Z = true) (wst : (Cond.static Jvm.Stand.acN).before a0 Z = true) (wz : (Cond.initialized "java/lang/System").before a0 Z = true)
    {a b : Addr} {ka kb : ClassId} {ty : FieldType} {z z' sp dp nn : Int32} {vs vd us : List Value} {dv dd : Value} (Va : Arv Z h a ka ty z vs dv) (Vb : Arv Z h b kb ty z' vd dd) (hty : refKind ty = false) (h1 : ¬ sp < 0) (h2 : ¬ dp < 0) (h3 : ¬ nn < 0) (h4 : sp.toNatClampNeg + nn.toNatClampNeg ≤ z.toNatClampNeg) (h5 : dp.toNatClampNeg + nn.toNatClampNeg ≤ z'.toNatClampNeg)
    (hus : us = (List.range nn.toNatClampNeg).map fun i => vs.getD (sp.toNatClampNeg + i) dv) (hl : dp.toNatClampNeg + nn.toNatClampNeg ≤ vd.length) (hb : b ∈ sf)
    {g : JFrame} (hg : g.method = m) (hsize : g.locals.size = c.maxLocals) {rest : List Value} (hs : g.stack = .int nn :: .int dp :: .ref b :: .int sp :: .ref a :: rest) (hd : decode c.code g.pc = .ok (.invokestatic index, 3))
    (hf : 1 ≤ R.frames) {Wd : Nat} (hW : 2 * g.monitorRoom + (rest.map fun v => v.category).sum ≤ Wd) (hlo : Wd + (nativeFrameWords "java/lang/System" "arraycopy" 5 + 11) ≤ R.locals) :
    ∃ (T' : State) (h' : Heap), Wk W Z a0 EL n0 h0 ws own p l e R s m args below meth c sf T' h' k n ∧ Keep h h' [b] ∧ Arv Z h' b kb ty z' (vd.take dp.toNatClampNeg ++ us ++ vd.drop (dp.toNatClampNeg + nn.toNatClampNeg)) dd ∧
      ∀ t, Steps p.tables e below (T'.setTop { g with pc := g.pc + 3, stack := rest }) t → Steps p.tables e below (T.setTop g) t := by
  obtain ⟨vm0, locs, k0, k1, n1, bb, X, eT, S, hZ, ho, Nf, K, O, f, w1, w2⟩ := A
  obtain ⟨T', h', L, X', e', N', Kc, V', st⟩ := RoadKit.cpA X hx hZ ho wl wn wst wz eT Va Vb (Or.inl ⟨rfl, hty⟩) h1 h2 h3 h4 h5 hus hl Nf (f b hb).1 hg hsize hs hd hf hW hlo
  have hws : ∀ x ∈ [b], x ∈ sf := allS hb all0
  refine ⟨T', h', ⟨vm0, L, k0, k1, n1, bb, X', e', ⟨S.1, Nat.le_trans S.2 Kc.1⟩, hZ, ho, N', K.trans Kc fun x hx => (f x (hws x hx)).2.1, O.keep Kc fun x hx => (f x (hws x hx)).1, fun x hx => ⟨(f x hx).1, (f x hx).2.1, Nat.lt_of_lt_of_le (f x hx).2.2 Kc.1⟩, w1, fun ew => ?_⟩, Kc, V', st⟩
  obtain ⟨v1, v2, v3⟩ := w2 ew
  exact ⟨v1, v2.trans (CHr.keep Kc (fun x hx => v3 x (hws x hx)) v2.1), fun x hx => Safe.keep Kc (fun x hx => v3 x (hws x hx)) v2.1 (v3 x hx)⟩
/-! contracts -/
abbrev EndN (s : State) (h0 : Heap) (ws : List Addr) (n0 : Nat) (rm : Room) (Q : Option Value → Heap → Prop) (o : Outcome) (u : State) : Prop :=
  ∃ v L, o = .returned v ∧ (Q v u.heap ∧ Fr n0 L ∧ Keep h0 u.heap ws) ∧ FrameEnd s o u L rm.cells rm.slots
abbrev CtrN (l : Launch) (Z : State) (y : MethodName) (bytes : ByteArray) (maxL : Nat) (ret : Option FieldType) (tb : List Cond) (rm : Room) (as : Array Value) (h0 : Heap) (ws : List Addr) (n0 : Nat) (Q : Option Value → Heap → Prop) : Prop :=
  MetFree l y (head1 (Cond.code y bytes maxL ret :: tb) rm) (fun a U => a = as ∧ Z.Warmed39 U.vm ∧ U.heap = h0) (fun _ _ _ _ _ => True) (fun _ U o U' => ∃ v L, o = .returned v ∧ (Q v U'.heap ∧ Fr n0 L ∧ Keep h0 U'.heap ws) ∧ FrameEnd U o U' L rm.cells rm.slots)
theorem enterN {y : MethodName} {bytes : ByteArray} {maxL : Nat} {ret : Option FieldType} {tb : List Cond} {rm : Room} {as : Array Value} {Q : Option Value → Heap → Prop} (hp : plainFor y = true) (hO : Old Z n0 h0) (hsf : ∀ x ∈ ws, n0 ≤ x ∧ x < h0.size)
    (body : ∀ (p : Program) (e : Env) (s : State) (m : MethodId) (below : List Frame) (meth : Method) (c : Code) (T : State), p.tables.exec = Jvm.exec → c.code = bytes → c.maxLocals = maxL → meth.sig.returnType = ret → meth.name = y.name → meth.locks = false →
      Wk false Z a0 [] n0 h0 ws y.cls p l e rm s m as below meth c ws T h0 0 0 → Run p.tables e below (EndN s h0 ws n0 rm Q) (T.setTop (entryFrame m as maxL))) : CtrN l Z y bytes maxL ret tb rm as h0 ws n0 Q := by
  refine MetFree.of_bodySF hp hisR ?_
  intro p e s m args below meth c s₁ Bd hml0 hP hK
  obtain ⟨rfl, hZ, hh⟩ := hP
  have X0 := Stand.of_body Bd
  have e0 : s₁.heap = h0 := by rw [← hh, Bd.state]; rfl
  exact body p e s m below meth c s₁ Bd.exec Bd.bytes hml0 Bd.returns (name_of_methodNamed Bd.named Bd.method).1 Bd.notSynchronized ⟨s.vm, [], 0, 0, 0, ⟨Nat.le_refl _, Nat.le_refl _⟩, X0, e0, ⟨(State.WarmedH.refl s).since 0, Nat.zero_le _⟩, hZ, findClass_of_methodNamed Bd.named, Fr.nil _, Keep.refl _ _, hO, fun x hx => ⟨(hsf x hx).1, Or.inl hx, (hsf x hx).2⟩, fun _ => rfl, fun q => by cases q⟩
theorem Wk.leaveN (A : Wk false Z a0 EL n0 h0 ws own p l e R s m args below meth c sf T h k n) (hlk : meth.locks = false) {rm : Room} {Q : Option Value → Heap → Prop} {g : JFrame} (v : Option Value) (hv : meth.sig.returnType = none → v = none) (hk : k ≤ rm.cells) (hn : n ≤ rm.slots) (hq : Q v h)
    (hret : ∀ {s' : State} {locs : List Loc} {k' n' : Nat} {fs : List Frame}, Stand p l e R s' m args below meth c T locs k' n' → (∀ (f : JFrame) (acts : List Action), f.method = m → f.locked = none → f.entered = [] → (doReturn e (T.setTop f) acts v).1 = T.setFrames fs) → Steps p.tables e below (T.setTop g) (T.setFrames fs)) :
    Run p.tables e below (EndN s h0 ws n0 rm Q) (T.setTop g) := by
  obtain ⟨vm0, locs, k0, k1, n1, ⟨b1, b2⟩, X, eT, S, hZ, ho, Nf, K, O, f, w1, w2⟩ := A
  cases w1 rfl
  obtain ⟨fs, hr, hrun, hended, hW, hsame⟩ := X.leave (v := v) hv hlk
  refine ⟨_, _, hret X hr, hrun, hended, _, _, rfl, ⟨?_, Nf, ?_⟩, ⟨_, rfl⟩, hW, hsame.mono (by omega) (by omega)⟩
  · show Q v T.heap; rw [eT]; exact hq
  · show Keep h0 T.heap ws; rw [eT]; exact K
theorem payN {y : MethodName} {bytes : ByteArray} {maxL : Nat} {ret : Option FieldType} {rm : Room} {as : Array Value} {Q : Option Value → Heap → Prop} {len Wd : Nat} (M : CtrN l Z y bytes maxL ret [] rm as h ws n0 Q) (wc : (Cond.code y bytes maxL ret).before a0 Z = true) (wz : (Cond.initialized y.cls).before a0 Z = true) (hf : rm.frames + 1 ≤ R.frames) (hl : Wd + (maxL + 11) + rm.locals ≤ R.locals) {vm0 : Vm} (hZ : Z.Warmed39 (s.setVm vm0).vm) :
    PayN l R p e below (s.setVm vm0) args y len Wd as h rm.cells rm.slots (fun v h' L => Q v h' ∧ Fr n0 L ∧ Keep h h' ws) := backOf (Q := fun v h' L => Q v h' ∧ Fr n0 L ∧ Keep h h' ws) M hZ wc wz hf hl
/-! contracts of bodies that may intern -/
abbrev EndW (Z : State) (EL : List (String × Nat)) (s : State) (h0 : Heap) (ws : List Addr) (n0 : Nat) (rm : Room) (Q : Option Value → Heap → Prop) (o : Outcome) (u : State) : Prop :=
  ∃ v L, o = .returned v ∧ (Q v u.heap ∧ Fr n0 L ∧ Keep h0 u.heap ws) ∧ CHr Z EL s.vm s.heap u.vm u.heap ∧ ReturnedEndW s o u L rm.cells rm.slots
abbrev CtrW (l : Launch) (Z : State) (EL : List (String × Nat)) (y : MethodName) (bytes : ByteArray) (maxL : Nat) (ret : Option FieldType) (tb : List Cond) (rm : Room) (as : Array Value) (h0 : Heap) (ws : List Addr) (n0 : Nat) (Q : Option Value → Heap → Prop) : Prop :=
  MetFree l y (head1 (Cond.code y bytes maxL ret :: tb) rm) (fun a U => a = as ∧ Z.Warmed39 U.vm ∧ U.heap = h0 ∧ CHv Z EL U.vm h0 ∧ ∀ x ∈ ws, Safe Z EL U.vm h0 x) (fun _ _ _ _ _ => True) (fun _ U o U' => ∃ v L, o = .returned v ∧ (Q v U'.heap ∧ Fr n0 L ∧ Keep h0 U'.heap ws) ∧ CHr Z EL U.vm U.heap U'.vm U'.heap ∧ ReturnedEndW U o U' L rm.cells rm.slots)
theorem enterW {y : MethodName} {bytes : ByteArray} {maxL : Nat} {ret : Option FieldType} {tb : List Cond} {rm : Room} {as : Array Value} {Q : Option Value → Heap → Prop} (hp : plainFor y = true) (hEL : EW Z a0 EL) (hO : Old Z n0 h0) (hsf : ∀ x ∈ ws, n0 ≤ x ∧ x < h0.size)
    (body : ∀ (p : Program) (e : Env) (s : State) (m : MethodId) (below : List Frame) (meth : Method) (c : Code) (T : State), p.tables.exec = Jvm.exec → c.code = bytes → c.maxLocals = maxL → meth.sig.returnType = ret → meth.name = y.name → meth.locks = false → s.heap = h0 →
      Wk true Z a0 EL n0 h0 ws y.cls p l e rm s m as below meth c ws T h0 0 0 → Run p.tables e below (EndW Z EL s h0 ws n0 rm Q) (T.setTop (entryFrame m as maxL))) : CtrW l Z EL y bytes maxL ret tb rm as h0 ws n0 Q := by
  refine MetFree.of_bodySF hp hisR ?_
  intro p e s m args below meth c s₁ Bd hml0 hP hK
  obtain ⟨rfl, hZ, hh, hC, hSf⟩ := hP
  have X0 := Stand.of_body Bd
  have e0 : s₁.heap = h0 := by rw [← hh, Bd.state]; rfl
  exact body p e s m below meth c s₁ Bd.exec Bd.bytes hml0 Bd.returns (name_of_methodNamed Bd.named Bd.method).1 Bd.notSynchronized hh ⟨s.vm, [], 0, 0, 0, ⟨Nat.le_refl _, Nat.le_refl _⟩, X0, e0, ⟨(State.WarmedH.refl s).since 0, Nat.zero_le _⟩, hZ, findClass_of_methodNamed Bd.named, Fr.nil _, Keep.refl _ _, hO, fun x hx => ⟨(hsf x hx).1, Or.inl hx, (hsf x hx).2⟩, fun _ => rfl, fun _ => ⟨hEL, CHr.refl hC, hSf⟩⟩
theorem Wk.leaveW (A : Wk true Z a0 EL n0 h0 ws own p l e R s m args below meth c sf T h k n) (hlk : meth.locks = false) (hh : s.heap = h0) {rm : Room} {Q : Option Value → Heap → Prop} {g : JFrame} (v : Option Value) (hv : meth.sig.returnType = none → v = none) (hk : k ≤ rm.cells) (hn : n ≤ rm.slots) (hq : Q v h)
    (hret : ∀ {s' : State} {locs : List Loc} {k' n' : Nat} {fs : List Frame}, Stand p l e R s' m args below meth c T locs k' n' → (∀ (f : JFrame) (acts : List Action), f.method = m → f.locked = none → f.entered = [] → (doReturn e (T.setTop f) acts v).1 = T.setFrames fs) → Steps p.tables e below (T.setTop g) (T.setFrames fs)) :
    Run p.tables e below (EndW Z EL s h0 ws n0 rm Q) (T.setTop g) := by
  obtain ⟨vm0, locs, k0, k1, n1, ⟨b1, b2⟩, X, eT, ⟨S, S0⟩, hZ, ho, Nf, K, O, f, w1, w2⟩ := A
  obtain ⟨v1, v2, v3⟩ := w2 rfl
  obtain ⟨fs, hr, hrun, hended, r1, r2, r3, r4⟩ := X.leaveW S (by rw [eT]; exact S0) (v := v) hv hlk
  refine ⟨_, _, hret X hr, hrun, hended, _, _, rfl, ⟨?_, Nf, ?_⟩, ?_, r1, r2, r3, r4.mono (by omega) (by omega)⟩
  · show Q v T.heap; rw [eT]; exact hq
  · show Keep h0 T.heap ws; rw [eT]; exact K
  · show CHr Z EL s.vm s.heap T.vm T.heap
    rw [eT, hh]; exact v2.trans (CHv.at X hZ v1 v2.1)
theorem payW {y : MethodName} {bytes : ByteArray} {maxL : Nat} {ret : Option FieldType} {rm : Room} {as : Array Value} {Q : Option Value → Heap → Prop} {len Wd : Nat} (M : CtrW l Z EL y bytes maxL ret [] rm as h ws n0 Q) (wc : (Cond.code y bytes maxL ret).before a0 Z = true) (wz : (Cond.initialized y.cls).before a0 Z = true) (hf : rm.frames + 1 ≤ R.frames) (hl : Wd + (maxL + 11) + rm.locals ≤ R.locals) {vm0 : Vm} (hZ : Z.Warmed39 vm0) (hEL : EW Z a0 EL) (H : CHv Z EL vm0 h) (hsf : ∀ x ∈ ws, x < h.size ∧ Safe Z EL vm0 h x) :
    PayW Z EL l R p e below s vm0 args y len Wd as h rm.cells rm.slots (fun v h' L => Q v h' ∧ Fr n0 L ∧ Keep h h' ws) :=
  BackS.of_freeW (bytes := bytes) (maxL := maxL) (ret := ret) (E := fun _ first o t L k n => k = rm.cells ∧ n = rm.slots ∧ (∃ v, o = .returned v ∧ (Q v t.heap ∧ Fr n0 L ∧ Keep h t.heap ws)) ∧ CHr Z EL first.vm first.heap t.vm t.heap) M hf hl
    (fun m meth c A a Y hp => have hU : Z.Warmed39 A.U.vm := wtrans (s := s.setVm vm0) hZ Y.warmed
      ⟨by show (Cond.and _ .tt).before a A.U = true; rw [Cond.before_and, mv hU wc]; rfl, mv hU wc, mv hU wz, hp.2.2.1, hp.2.2.2⟩)
    (fun m meth c A a g mk Y hp => ⟨hp.1, wtrans (s := s.setVm vm0) hZ Y.warmed, hp.2.1, (CHv.at Y hZ hEL H).1, fun x hx => (CHv.at Y hZ hEL H).safe (hsf x hx).1 (hsf x hx).2⟩) (fun _ _ _ _ _ _ _ _ _ => trivial)
    (fun _ _ _ _ ⟨v, L, q1, q2, q3, q4⟩ => ⟨L, _, _, q4, rfl, rfl, ⟨v, q1, q2⟩, q3⟩)
    (fun m meth c A a g mk v t L k n Y hp _ _ ⟨e1, e2, ⟨v', e3, e4⟩, e5⟩ => by
      cases e3; subst e1 e2
      refine ⟨L, e4, rfl, rfl, rfl, (CHv.at Y hZ hEL H).trans ?_⟩
      rw [← hp.2.1]; exact e5)
/-- behind a call that may have interned -/
theorem Wk.afterW {kc ks : Nat} {T' : State} {L locs : List Loc} {vm0 : Vm} {k0 k1 n1 : Nat} {wc : List Addr} (eT : T.heap = h) (X' : Stand p l e R ((s.setVm vm0).setVm T'.vm) m args below meth c T' (locs ++ L) (k1 + kc) (n1 + ks)) (S2 : (s.setVm vm0).Since T'.vm T'.heap.size) (gr : T.heap.size ≤ T'.heap.size) (C2 : CHr Z EL vm0 h T'.vm T'.heap)
    (b : k1 ≤ k ∧ n1 ≤ n) (S : s.Since vm0 k0 ∧ k0 ≤ h.size) (hZ : Z.Warmed39 vm0) (ho : vm0.findClass own = some m.cls) (N : Fr n0 locs) (K : Keep h0 h ws) (O : Old Z n0 h) (f : ∀ x ∈ sf, n0 ≤ x ∧ (x ∈ ws ∨ h0.size ≤ x) ∧ x < h.size) (w2 : EW Z a0 EL ∧ CHr Z EL s.vm h0 vm0 h ∧ ∀ x ∈ sf, Safe Z EL vm0 h x)
    (NL : Fr n0 L) (Kc : Keep h T'.heap wc) (hws : ∀ x ∈ wc, x ∈ sf) :
    Wk true Z a0 EL n0 h0 ws own p l e R s m args below meth c sf T' T'.heap (k + kc) (n + ks) := by
  obtain ⟨v1, v2, v3⟩ := w2
  obtain ⟨X1, S1, hZ1, ho1⟩ := rebS S.1 S.2 X' S2 (by rw [← eT]; exact gr) hZ ho
  refine ⟨T'.vm, _, _, _, _, ⟨by omega, by omega⟩, X1, rfl, ⟨S1, Nat.le_refl _⟩, hZ1, ho1, Fr.app N NL, K.trans Kc fun x hx => (f x (hws x hx)).2.1, O.keep Kc fun x hx => (f x (hws x hx)).1, fun x hx => ⟨(f x hx).1, (f x hx).2.1, Nat.lt_of_lt_of_le (f x hx).2.2 Kc.1⟩, (fun q => by cases q), fun _ => ⟨v1, v2.trans C2, fun x hx => C2.safe (f x hx).2.2 (v3 x hx)⟩⟩
theorem Wk.callSW (A : Wk true Z a0 EL n0 h0 ws own p l e R s m args below meth c sf T h k n) (hx : p.tables.exec = Jvm.exec) {index : Nat} {y : MethodName} {bytes : ByteArray} {maxL : Nat} {ret : Option FieldType} (wl : (Cond.methodLink own index y).before a0 Z = true) (wst : (Cond.static y).before a0 Z = true) (wz : (Cond.initialized y.cls).before a0 Z = true) (wc : (Cond.code y bytes maxL ret).before a0 Z = true) (hy : y.cls ≠ "java/lang/invoke/MethodHandle" ∧ y.cls ≠ "java/lang/invoke/VarHandle")
    {g : JFrame} (hg : g.method = m) (hsize : g.locals.size = c.maxLocals) (argsL rest : List Value) (hlen : ∀ sig, parseMethodDescriptor y.desc = some sig → argsL.length = sig.parameters.length) (hs : g.stack = argsL.reverse ++ rest) {Wd kc ks : Nat} (hW : 2 * g.monitorRoom + (rest.map fun v => v.category).sum ≤ Wd) (hd : decode c.code g.pc = .ok (.invokestatic index, 3)) (hk : k + kc ≤ R.cells) (hn : n + ks ≤ R.slots)
    {Q : Option Value → Heap → List Loc → Prop} (wc' : List Addr) (hQ : ∀ v h' L, Q v h' L → Fr n0 L ∧ Keep h h' wc') (hws : ∀ x ∈ wc', x ∈ sf) (pay : ∀ vm0, Z.Warmed39 vm0 → EW Z a0 EL → CHv Z EL vm0 h → (∀ x ∈ wc', x < h.size ∧ Safe Z EL vm0 h x) → PayW Z EL l R p e below s vm0 args y 3 Wd argsL.toArray h kc ks Q) :
    ∃ (v : Option Value) (T' : State) (h' : Heap), Wk true Z a0 EL n0 h0 ws own p l e R s m args below meth c sf T' h' (k + kc) (n + ks) ∧ Keep h h' wc' ∧ (∃ L, Q v h' L) ∧
      ∀ t, Steps p.tables e below (T'.setTop { g with pc := g.pc + 3, stack := v.toList ++ rest }) t → Steps p.tables e below (T.setTop g) t := by
  obtain ⟨vm0, locs, k0, k1, n1, bb, X, eT, S, hZ, ho, Nf, K, O, f, w1, w2⟩ := A
  obtain ⟨v, _, ⟨T', L', c', s'⟩, -, X', S2, gr, ⟨L, hq, l1, l2, l3, C2⟩, st⟩ := RoadKit.callSS X hx ho (mvT (s := s.setVm vm0) hZ wl) (mvT (s := s.setVm vm0) hZ wst) (mvT (s := s.setVm vm0) hZ wz) (mvT (s := s.setVm vm0) hZ wc) hy (pay vm0 hZ (w2 rfl).1 (w2 rfl).2.1.1 fun x hx => ⟨(f x (hws x hx)).2.2, (w2 rfl).2.2 x (hws x hx)⟩) hg hsize (argsL := argsL) (rest := rest) hlen hs hW hd (fun _ _ => ⟨rfl, eT, by show k1 + kc ≤ _; omega, by show n1 + ks ≤ _; omega⟩)
  dsimp only [Pt.U, Pt.locs, Pt.cells, Pt.slots] at X' hq l1 l2 l3 st S2 gr C2
  subst l1 l2 l3
  obtain ⟨q1, q2⟩ := hQ _ _ _ hq
  exact ⟨v, T', _, Wk.afterW eT X' S2 gr C2 bb S hZ ho Nf K O f (w2 rfl) q1 q2 hws, q2, ⟨L, hq⟩, fun t q => st.trans q⟩
theorem Wk.callIW (A : Wk true Z a0 EL n0 h0 ws own p l e R s m args below meth c sf T h k n) (hx : p.tables.exec = Jvm.exec) {index : Nat} {y : MethodName} {bytes : ByteArray} {maxL : Nat} (hy1 : y.name = "<init>") (wl : (Cond.methodLink own index y).before a0 Z = true) (wi : (Cond.instanceMethod y).before a0 Z = true) (wc : (Cond.code y bytes maxL none).before a0 Z = true) (hy : y.cls ≠ "java/lang/invoke/MethodHandle" ∧ y.cls ≠ "java/lang/invoke/VarHandle")
    {g : JFrame} (hg : g.method = m) (hsize : g.locals.size = c.maxLocals) (a : Addr) (argsL rest : List Value) (hlen : ∀ sig, parseMethodDescriptor y.desc = some sig → argsL.length = sig.parameters.length) (hs : g.stack = argsL.reverse ++ .ref a :: rest) {Wd kc ks : Nat} (hW : 2 * g.monitorRoom + (rest.map fun v => v.category).sum ≤ Wd) (hd : decode c.code g.pc = .ok (.invokespecial index, 3)) (hk : k + kc ≤ R.cells) (hn : n + ks ≤ R.slots)
    {Q : Option Value → Heap → List Loc → Prop} (wc' : List Addr) (hQ : ∀ v h' L, Q v h' L → Fr n0 L ∧ Keep h h' wc') (hws : ∀ x ∈ wc', x ∈ sf) (pay : ∀ vm0, Z.Warmed39 vm0 → EW Z a0 EL → CHv Z EL vm0 h → (∀ x ∈ wc', x < h.size ∧ Safe Z EL vm0 h x) → PayW Z EL l R p e below s vm0 args y 3 Wd (.ref a :: argsL).toArray h kc ks Q) :
    ∃ (v : Option Value) (T' : State) (h' : Heap), Wk true Z a0 EL n0 h0 ws own p l e R s m args below meth c sf T' h' (k + kc) (n + ks) ∧ Keep h h' wc' ∧ (∃ L, Q v h' L) ∧
      ∀ t, Steps p.tables e below (T'.setTop { g with pc := g.pc + 3, stack := v.toList ++ rest }) t → Steps p.tables e below (T.setTop g) t := by
  obtain ⟨vm0, locs, k0, k1, n1, bb, X, eT, S, hZ, ho, Nf, K, O, f, w1, w2⟩ := A
  obtain ⟨v, _, ⟨T', L', c', s'⟩, -, X', S2, gr, ⟨L, hq, l1, l2, l3, C2⟩, st⟩ := X.specialBackS hx hy1 ho (mvT (s := s.setVm vm0) hZ wl) (mvT (s := s.setVm vm0) hZ wi) (mvT (s := s.setVm vm0) hZ wc) hy (pay vm0 hZ (w2 rfl).1 (w2 rfl).2.1.1 fun x hx => ⟨(f x (hws x hx)).2.2, (w2 rfl).2.2 x (hws x hx)⟩) hg hsize (Steps.refl _) (a := a) (argsL := argsL) (rest := rest) hlen hs hW hd (fun _ _ => ⟨rfl, eT, by show k1 + kc ≤ _; omega, by show n1 + ks ≤ _; omega⟩)
  dsimp only [Pt.U, Pt.locs, Pt.cells, Pt.slots] at X' hq l1 l2 l3 st S2 gr C2
  subst l1 l2 l3
  obtain ⟨q1, q2⟩ := hQ _ _ _ hq
  exact ⟨v, T', _, Wk.afterW eT X' S2 gr C2 bb S hZ ho Nf K O f (w2 rfl) q1 q2 hws, q2, ⟨L, hq⟩, fun t q => st.trans q⟩
theorem Wk.callVW (A : Wk true Z a0 EL n0 h0 ws own p l e R s m args below meth c sf T h k n) (hx : p.tables.exec = Jvm.exec) {C : String} {index : Nat} {y z : MethodName} (wl : (Cond.methodLink own index y).before a0 Z = true) (wd : (Cond.declares y).before a0 Z = true) (wse : (Cond.selects C y z).before a0 Z = true) (wi : (Cond.instanceMethod z).before a0 Z = true) (nf : ∀ s' : State, Z.Warmed39 s'.vm → NotFace s' y) (hy : y.cls ≠ "java/lang/invoke/MethodHandle" ∧ y.cls ≠ "java/lang/invoke/VarHandle")
    {b : Addr} (E : Exa Z h b C) {g : JFrame} (hg : g.method = m) (hsize : g.locals.size = c.maxLocals) (argsL rest : List Value) (hlen : ∀ sig, parseMethodDescriptor y.desc = some sig → argsL.length = sig.parameters.length) (hs : g.stack = argsL.reverse ++ .ref b :: rest) {Wd kc ks : Nat} (hW : 2 * g.monitorRoom + (rest.map fun v => v.category).sum ≤ Wd) (hd : decode c.code g.pc = .ok (.invokevirtual index, 3)) (hk : k + kc ≤ R.cells) (hn : n + ks ≤ R.slots)
    {Q : Option Value → Heap → List Loc → Prop} (wc' : List Addr) (hQ : ∀ v h' L, Q v h' L → Fr n0 L ∧ Keep h h' wc') (hws : ∀ x ∈ wc', x ∈ sf) (pay : ∀ vm0, Z.Warmed39 vm0 → EW Z a0 EL → CHv Z EL vm0 h → (∀ x ∈ wc', x < h.size ∧ Safe Z EL vm0 h x) → PayW Z EL l R p e below s vm0 args z 3 Wd (.ref b :: argsL).toArray h kc ks Q) :
    ∃ (v : Option Value) (T' : State) (h' : Heap), Wk true Z a0 EL n0 h0 ws own p l e R s m args below meth c sf T' h' (k + kc) (n + ks) ∧ Keep h h' wc' ∧ (∃ L, Q v h' L) ∧
      ∀ t, Steps p.tables e below (T'.setTop { g with pc := g.pc + 3, stack := v.toList ++ rest }) t → Steps p.tables e below (T.setTop g) t := by
  obtain ⟨vm0, locs, k0, k1, n1, bb, X, eT, S, hZ, ho, Nf, K, O, f, w1, w2⟩ := A
  obtain ⟨cq, kq, qa, qb, qc⟩ := isOf (s := s.setVm vm0) hZ eT E
  obtain ⟨v, _, ⟨T', L', c', s'⟩, -, X', S2, gr, ⟨L, hq, l1, l2, l3, C2⟩, st⟩ := X.virtualBackS hx ho (mvT (s := s.setVm vm0) hZ wl) (mvT (s := s.setVm vm0) hZ wd) (nf (s.setVm vm0) hZ) (mvT (s := s.setVm vm0) hZ wse) (mvT (s := s.setVm vm0) hZ wi) hy (pay vm0 hZ (w2 rfl).1 (w2 rfl).2.1.1 fun x hx => ⟨(f x (hws x hx)).2.2, (w2 rfl).2.2 x (hws x hx)⟩) qa qc hg hsize (Steps.refl _) (argsL := argsL) (rest := rest) hlen hs hW hd (fun _ _ => ⟨rfl, eT, by show k1 + kc ≤ _; omega, by show n1 + ks ≤ _; omega⟩)
  dsimp only [Pt.U, Pt.locs, Pt.cells, Pt.slots] at X' hq l1 l2 l3 st S2 gr C2
  subst l1 l2 l3
  obtain ⟨q1, q2⟩ := hQ _ _ _ hq
  exact ⟨v, T', _, Wk.afterW eT X' S2 gr C2 bb S hZ ho Nf K O f (w2 rfl) q1 q2 hws, q2, ⟨L, hq⟩, fun t q => st.trans q⟩
theorem Wk.ldc (A : Wk true Z a0 EL n0 h0 ws own p l e R s m args below meth c sf T h k n) (hx : p.tables.exec = Jvm.exec) {text : String} {index : Nat} (w : (Cond.stringLink own index text).before a0 Z = true) (wS : ∀ a ∈ Bundle.stringAtoms, a.before a0 Z = true) (hmem : (own, index) ∈ EL) {vs : List Value} {z : Int32} (ht : (∀ c ∈ text.toList, c.toNat < 256) ∧ text.toList.map (fun c => Value.int (Jvm.Lit.byteI c.toNat.toUInt16)) = vs) (hz : ¬ z < 0) (hl : z.toNatClampNeg = vs.length)
    {g : JFrame} (hg : g.method = m) (hd : decode c.code g.pc = .ok (.ldc index, 2)) {q : Nat} (hn : 4 * text.toList.length ≤ q) (hbig : q ≤ 536870912) (hc : k + 2 ≤ R.cells) (hl' : n + (q + 4) ≤ R.slots) :
    ∃ (a b : Addr) (kb : ClassId) (T' : State) (h' : Heap), Wk true Z a0 EL n0 h0 ws own p l e R s m args below meth c sf T' h' (k + 2) (n + (q + 4)) ∧ Ext h h' ∧ Exa Z h' a "java/lang/String" ∧ Fld Z h' a "java/lang/String" "coder" "B" (.int 0) ∧ Fld Z h' a "java/lang/String" "value" "[B" (.ref b) ∧ Arv Z h' b kb .byte z vs (.int 0) ∧ (∀ x ∈ sf, x ≠ a ∧ x ≠ b) ∧
      ∀ t, Steps p.tables e below (T'.setTop { g with pc := g.pc + 2, stack := .ref a :: g.stack }) t → Steps p.tables e below (T.setTop g) t := by
  obtain ⟨vm0, locs, k0, k1, n1, ⟨b1, b2⟩, X, eT, S, hZ, ho, Nf, K, O, f, w1, w2⟩ := A
  obtain ⟨v1, v2, v3⟩ := w2 rfl
  obtain ⟨a, T', h', k2, b, kb, X', e', E, S', hk', hZ', ho', E1, E2, E3, E4, -, -, C2, -, ne, st⟩ := RoadKit.ldcCH X hx hZ ho w wS eT S.1 S.2 v1 hmem v2.1 ht hz hl hg hd hn hbig (by omega) (by omega)
  refine ⟨a, b, kb, T', h', ⟨T'.vm, locs, k2, _, _, ⟨by omega, by omega⟩, X', e', ⟨S', hk'⟩, hZ', ho', Nf, K.ext E, O.ext E, fun x hx => ⟨(f x hx).1, (f x hx).2.1, Nat.lt_of_lt_of_le (f x hx).2.2 E.1⟩, (fun q => by cases q), fun _ => ⟨v1, v2.trans C2, fun x hx => C2.safe (f x hx).2.2 (v3 x hx)⟩⟩, E, E1, E2, E3, E4, fun x hx => ne x (C2.safe (f x hx).2.2 (v3 x hx)), st⟩
end Kit
end Jvm.OwnKit
/- laws to paste: Road.backV, Road.lenW, Road.chN, Road.codOf (cut by pick.py; bodies as the Statement names them) -/
namespace Jvm.Pilot.@@N@@
namespace StrChars
open Jvm Sem ClassFile Op Lib Jvm.Stand Jvm.Free.XT Jvm.Free.ALB Jvm.Free.JM Jvm.Free
open Jvm.Lib.Cold (StaticIs)
/-- a char array whose places are chars -/
def Ch (a : Addr) (A : Cell) (U : State) : Prop := Arr .char a A U ∧ Typed .char A
theorem Ch.mv {a : Addr} {A : Cell} {U U' : State} (h : Ch a A U) (hal : U.vm.Alike U'.vm) (hh : U'.heap = U.heap) : Ch a A U' := ⟨h.1.mv hal hh, h.2⟩
theorem Ch.keep {a : Addr} {A : Cell} {U U' : State} (h : Ch a A U) (hal : U.vm.Alike U'.vm) (hk : U'.heap[a]? = some A) : Ch a A U' := ⟨h.1.keep hal hk, h.2⟩
/-- what place i of a char[]'s cell holds -/
def cv (A : Cell) (i : Nat) : Int32 := match A.slots[i]? with | some (.int x) => x | _ => 0
theorem Ch.get {a : Addr} {A : Cell} {U : State} (h : Ch a A U) {i : Nat} (hi : i < A.slots.size) : A.slots[i]? = some (.int (cv A i)) := by
  have e := Array.getElem?_eq_getElem hi
  have f := h.2 i _ e
  unfold cv; rw [e]
  generalize A.slots[i] = v at f
  cases v <;> simp [fits] at f ⊢
/-- the byte that i2b leaves of a char -/
def lo8 (x : Int32) : Int32 := x.toInt8.toInt32
theorem fits_lo8 (y : Int32) : fits .byte (.int (lo8 y)) = true := by
  have h1 := y.toInt8.le_toInt
  have h2 := y.toInt8.toInt_lt
  simp only [lo8, fits, Bool.and_eq_true, decide_eq_true_eq, Int32.le_iff_toInt_le, Int8.toInt_toInt32, show (-128 : Int32).toInt = -128 from by decide, show (127 : Int32).toInt = 127 from by decide]
  omega
/-- A' is A but that each place j of lo .. hi - 1 holds f j -/
def Laid (A A' : Cell) (lo hi : Nat) (f : Nat → Value) : Prop := A'.cls = A.cls ∧ A'.vm = A.vm ∧ A'.slots.size = A.slots.size ∧ ∀ i, A'.slots[i]? = if lo ≤ i ∧ i < hi then some (f i) else A.slots[i]?
theorem Laid.zero (A : Cell) (lo : Nat) (f : Nat → Value) : Laid A A lo (lo + 0) f := ⟨rfl, rfl, rfl, fun i => by rw [if_neg (by omega)]⟩
theorem Laid.step {A Ak : Cell} {lo k : Nat} {f : Nat → Value} {v : Value} (h : Laid A Ak lo k f) (hlo : lo ≤ k) (hk : k < Ak.slots.size) (hv : v = f k) : Laid A (Ak.setSlot k v) lo (k + 1) f := by
  refine ⟨h.1, h.2.1, by simpa [Cell.setSlot] using h.2.2.1, fun i => ?_⟩
  by_cases e : k = i
  · subst e; rw [Cell.slots_setSlot_self v hk, if_pos (by omega), hv]
  · rw [Cell.slots_setSlot_ne v e, h.2.2.2 i]
    by_cases q : lo ≤ i ∧ i < k
    · rw [if_pos q, if_pos (by omega)]
    · rw [if_neg q, if_neg (by omega)]
def U16 : String := "java/lang/StringUTF16"
namespace Cmp5
def yN : MethodName := ⟨"java/lang/StringUTF16", "compress", "([CI[BII)I"⟩
abbrev yB : ByteArray := jdk_52_method_21_code
theorem d0 : decode yB 0 = .ok (.iconst 0, 1) := by decide +kernel
theorem d1 : decode yB 1 = .ok (.istore 5, 2) := by decide +kernel
theorem d3 : decode yB 3 = .ok (.iload 5, 2) := by decide +kernel
theorem d5 : decode yB 5 = .ok (.iload 4, 2) := by decide +kernel
theorem d7 : decode yB 7 = .ok (.if_icmp (.ge) 37, 3) := by decide +kernel
theorem d10 : decode yB 10 = .ok (.aload_n 0, 1) := by decide +kernel
theorem d11 : decode yB 11 = .ok (.iload_n 1, 1) := by decide +kernel
theorem d12 : decode yB 12 = .ok (.caload, 1) := by decide +kernel
theorem d13 : decode yB 13 = .ok (.istore 6, 2) := by decide +kernel
theorem d15 : decode yB 15 = .ok (.iload 6, 2) := by decide +kernel
theorem d17 : decode yB 17 = .ok (.sipush 255, 3) := by decide +kernel
theorem d20 : decode yB 20 = .ok (.if_icmp (.le) 6, 3) := by decide +kernel
theorem d26 : decode yB 26 = .ok (.aload_n 2, 1) := by decide +kernel
theorem d27 : decode yB 27 = .ok (.iload_n 3, 1) := by decide +kernel
theorem d28 : decode yB 28 = .ok (.iload 6, 2) := by decide +kernel
theorem d30 : decode yB 30 = .ok (.i2b, 1) := by decide +kernel
theorem d31 : decode yB 31 = .ok (.bastore, 1) := by decide +kernel
theorem d32 : decode yB 32 = .ok (.iinc 1 1, 3) := by decide +kernel
theorem d35 : decode yB 35 = .ok (.iinc 3 1, 3) := by decide +kernel
theorem d38 : decode yB 38 = .ok (.iinc 5 1, 3) := by decide +kernel
theorem d41 : decode yB 41 = .ok (.goto (-38), 3) := by decide +kernel
theorem d44 : decode yB 44 = .ok (.iload 4, 2) := by decide +kernel
theorem d46 : decode yB 46 = .ok (.ireturn, 1) := by decide +kernel
def site : List Cond := []
def tab : Cond := tabOf yN yB 7 (some .int) site
def P (b : Addr) (A : Cell) (d : Addr) (B : Cell) (o q len : Nat) (args : Array Value) (s : State) : Prop := args = #[.ref b, .int (Int32.ofNat o), .ref d, .int (Int32.ofNat q), .int (Int32.ofNat len)] ∧ Ch b A s ∧ Arr .byte d B s ∧ b ≠ d ∧ o + len ≤ A.slots.size ∧ q + len ≤ B.slots.size ∧ ∀ i, i < len → ¬ 255 < cv A (o + i)
def E (b : Addr) (A : Cell) (d : Addr) (B : Cell) (o q len : Nat) (r : Option Value) (s u : State) : Prop := r = some (.int (Int32.ofNat len)) ∧ ∃ B', Put d B' s u ∧ Laid B B' q (q + len) (fun j => Value.int (lo8 (cv A (o + (j - q)))))
/-- no char of the range above 255: len; the places written hold each char's low byte -/
theorem law (l : Launch) (b : Addr) (A : Cell) (d : Addr) (B : Cell) (o q len : Nat) : Law l yN 5 5 0 0 yB 7 (some .int) site (P b A d B o q len) (E b A d B o q len) (copyLocs d q len) 0 0 := by
  refine Law.of_walk (plainFor_of_name (by decide +kernel)) (by decide +kernel) (by decide +kernel) (by decide) (fun _ _ h => by rw [h.1]; rfl) (fun _ U U' hal hh h => ⟨h.1, h.2.1.mv hal hh, h.2.2.1.mv hal hh, h.2.2.2⟩) (fun r U U' V V' h1 hal h2 h => ⟨h.1, h.2.elim fun B' q => ⟨B', q.1.mv h1 h2, q.2⟩⟩) ?_
  intro p e s m args below meth c s₁ X0 hexec hbytes hml hret hlk hnm hown hh0 W hP
  obtain ⟨rfl, hA, hB, hne, l1, l2, hp⟩ := hP
  have c1 : Steps p.tables e below (s₁.setTop (entryFrame m #[.ref b, .int (Int32.ofNat o), .ref d, .int (Int32.ofNat q), .int (Int32.ofNat len)] 7)) (s₁.setTop (mkF m 0 #[.val (.ref b), .val (.int (Int32.ofNat o)), .val (.ref d), .val (.int (Int32.ofNat q)), .val (.int (Int32.ofNat len)), .unset, .unset] [])) := entry rfl
  have hA0 := hA.1.mv X0.warmed.alike hh0
  have hB0 := hB.mv X0.warmed.alike hh0
  have a31 := hA.1.2.2.2
  have c2 : Steps p.tables e below (s₁.setTop (entryFrame m #[.ref b, .int (Int32.ofNat o), .ref d, .int (Int32.ofNat q), .int (Int32.ofNat len)] 7)) (s₁.setTop (mkF m 3 #[.val (.ref b), .val (.int (Int32.ofNat o)), .val (.ref d), .val (.int (Int32.ofNat q)), .val (.int (Int32.ofNat len)), .val (.int 0), .unset] [])) := c1.trans (by
    refine iconstV X0.here hexec rfl 0 (hb hbytes d0) (by decide) ?_
    refine XS.istore X0.here hexec rfl (hb hbytes d1) rfl rfl ?_
    exact Steps.refl _)
  have loop : ∀ (r i : Nat), i + r = len → ∀ (z : Slot), (z = .unset ∨ ∃ w, z = .val w ∧ w.category = 1) → ∀ (Tl : State) (Bk : Cell), Stand p l e { frames := 0, locals := 0, cells := 0, slots := 0 } s m #[.ref b, .int (Int32.ofNat o), .ref d, .int (Int32.ofNat q), .int (Int32.ofNat len)] below meth c Tl ([] ++ copyLocs d q i) 0 0 → Put d Bk s₁ Tl → Laid B Bk q (q + i) (fun j => Value.int (lo8 (cv A (o + (j - q))))) →
      Steps p.tables e below (s₁.setTop (entryFrame m #[.ref b, .int (Int32.ofNat o), .ref d, .int (Int32.ofNat q), .int (Int32.ofNat len)] 7)) (Tl.setTop (mkF m 3 #[.val (.ref b), .val (.int (Int32.ofNat (o + i))), .val (.ref d), .val (.int (Int32.ofNat (q + i))), .val (.int (Int32.ofNat len)), .val (.int (Int32.ofNat i)), z] [])) → ∃ (T' : State) (B' : Cell) (z' : Slot), Stand p l e { frames := 0, locals := 0, cells := 0, slots := 0 } s m #[.ref b, .int (Int32.ofNat o), .ref d, .int (Int32.ofNat q), .int (Int32.ofNat len)] below meth c T' ([] ++ copyLocs d q len) 0 0 ∧ Put d B' s₁ T' ∧ Laid B B' q (q + len) (fun j => Value.int (lo8 (cv A (o + (j - q))))) ∧
      Steps p.tables e below (s₁.setTop (entryFrame m #[.ref b, .int (Int32.ofNat o), .ref d, .int (Int32.ofNat q), .int (Int32.ofNat len)] 7)) (T'.setTop (mkF m 3 #[.val (.ref b), .val (.int (Int32.ofNat (o + len))), .val (.ref d), .val (.int (Int32.ofNat (q + len))), .val (.int (Int32.ofNat len)), .val (.int (Int32.ofNat len)), z'] [])) := by
    intro r
    induction r with
    | zero =>
      intro i hi z hz Tl Bk Xl pl fl cl
      have hil : i = len := by omega
      rw [hil] at Xl fl cl
      exact ⟨Tl, Bk, z, Xl, pl, fl, cl⟩
    | succ r ih =>
      intro i hi z hz Tl Bk Xl pl fl cl
      have all := X0.warmed.alike.symm.trans Xl.warmed.alike
      have hAl := hA0.keep all (pl.other hne hA0.1)
      have hBk := hB0.like all pl.1 fl.1 fl.2.1 fl.2.2.1
      have hlt : q + i < Bk.slots.size := by rw [fl.2.2.1]; omega
      have c3 : Steps p.tables e below (s₁.setTop (entryFrame m #[.ref b, .int (Int32.ofNat o), .ref d, .int (Int32.ofNat q), .int (Int32.ofNat len)] 7)) (Tl.setTop (mkF m 12 #[.val (.ref b), .val (.int (Int32.ofNat (o + i))), .val (.ref d), .val (.int (Int32.ofNat (q + i))), .val (.int (Int32.ofNat len)), .val (.int (Int32.ofNat i)), z] [.int (Int32.ofNat (o + i)), .ref b])) := cl.trans (by
        refine XS.iload Xl.here hexec rfl (hb hbytes d3) rfl ?_
        refine XS.iload Xl.here hexec rfl (hb hbytes d5) rfl ?_
        refine XS.icmpNo Xl.here hexec rfl (hb hbytes d7) rfl (ii_ge_f (lt32 (by omega) (by omega))) ?_
        refine XS.aloadN Xl.here hexec rfl (hb hbytes d10) rfl rfl ?_
        refine XS.iloadN Xl.here hexec rfl (hb hbytes d11) rfl ?_
        exact Steps.refl _)
      have c4 : Steps p.tables e below (s₁.setTop (entryFrame m #[.ref b, .int (Int32.ofNat o), .ref d, .int (Int32.ofNat q), .int (Int32.ofNat len)] 7)) (Tl.setTop (mkF m 13 #[.val (.ref b), .val (.int (Int32.ofNat (o + i))), .val (.ref d), .val (.int (Int32.ofNat (q + i))), .val (.int (Int32.ofNat len)), .val (.int (Int32.ofNat i)), z] [.int (cv A (o + i))])) := c3.trans (by
        refine Xl.aget hexec hAl rfl (hA.get (i := o + i) (by omega)) rfl rfl (hb hbytes d12) ?_
        exact Steps.refl _)
      have c5 : Steps p.tables e below (s₁.setTop (entryFrame m #[.ref b, .int (Int32.ofNat o), .ref d, .int (Int32.ofNat q), .int (Int32.ofNat len)] 7)) (Tl.setTop (mkF m 15 #[.val (.ref b), .val (.int (Int32.ofNat (o + i))), .val (.ref d), .val (.int (Int32.ofNat (q + i))), .val (.int (Int32.ofNat len)), .val (.int (Int32.ofNat i)), .val (.int (cv A (o + i)))] [])) := c4.trans (by
        refine XS.istoreS Xl.here hexec rfl (hb hbytes d13) rfl rfl hz ?_
        exact Steps.refl _)
      have c6 : Steps p.tables e below (s₁.setTop (entryFrame m #[.ref b, .int (Int32.ofNat o), .ref d, .int (Int32.ofNat q), .int (Int32.ofNat len)] 7)) (Tl.setTop (mkF m 31 #[.val (.ref b), .val (.int (Int32.ofNat (o + i))), .val (.ref d), .val (.int (Int32.ofNat (q + i))), .val (.int (Int32.ofNat len)), .val (.int (Int32.ofNat i)), .val (.int (cv A (o + i)))] [.int (lo8 (cv A (o + i))), .int (Int32.ofNat (q + i)), .ref d])) := c5.trans (by
        refine XS.iload Xl.here hexec rfl (hb hbytes d15) rfl ?_
        refine sipushV Xl.here hexec rfl 255 (hb hbytes d17) (by decide) ?_
        refine XS.icmpYes Xl.here hexec rfl (pc0 := 20) rfl (hb hbytes d20) rfl (ii_le_t (hp i (by omega))) (by decide) rfl ?_
        refine XS.aloadN Xl.here hexec rfl (hb hbytes d26) rfl rfl ?_
        refine XS.iloadN Xl.here hexec rfl (hb hbytes d27) rfl ?_
        refine XS.iload Xl.here hexec rfl (hb hbytes d28) rfl ?_
        refine i2b Xl.here hexec rfl (hb hbytes d30) rfl ?_
        exact Steps.refl _)
      obtain ⟨T7, X7, p7, st7⟩ := Xl.aput hexec hBk rfl hlt rfl (fits_lo8 (cv A (o + i))) (g := (mkF m 31 #[.val (.ref b), .val (.int (Int32.ofNat (o + i))), .val (.ref d), .val (.int (Int32.ofNat (q + i))), .val (.int (Int32.ofNat len)), .val (.int (Int32.ofNat i)), .val (.int (cv A (o + i)))] [.int (lo8 (cv A (o + i))), .int (Int32.ofNat (q + i)), .ref d])) rfl (rest := []) rfl (hb hbytes d31)
      have c8 : Steps p.tables e below (s₁.setTop (entryFrame m #[.ref b, .int (Int32.ofNat o), .ref d, .int (Int32.ofNat q), .int (Int32.ofNat len)] 7)) (T7.setTop (mkF m 32 #[.val (.ref b), .val (.int (Int32.ofNat (o + i))), .val (.ref d), .val (.int (Int32.ofNat (q + i))), .val (.int (Int32.ofNat len)), .val (.int (Int32.ofNat i)), .val (.int (cv A (o + i)))] [])) := c6.trans (st7 _ (Steps.refl _))
      have c9 : Steps p.tables e below (s₁.setTop (entryFrame m #[.ref b, .int (Int32.ofNat o), .ref d, .int (Int32.ofNat q), .int (Int32.ofNat len)] 7)) (T7.setTop (mkF m 3 #[.val (.ref b), .val (.int (Int32.ofNat (o + i) + 1)), .val (.ref d), .val (.int (Int32.ofNat (q + i) + 1)), .val (.int (Int32.ofNat len)), .val (.int (Int32.ofNat i + 1)), .val (.int (cv A (o + i)))] [])) := c8.trans (by
        refine iincV X7.here hexec rfl 1 (hb hbytes d32) (by decide) rfl rfl ?_
        refine iincV X7.here hexec rfl 1 (hb hbytes d35) (by decide) rfl rfl ?_
        refine iincV X7.here hexec rfl 1 (hb hbytes d38) (by decide) rfl rfl ?_
        refine XS.goto X7.here hexec rfl (pc0 := 41) rfl (hb hbytes d41) (by decide) rfl ?_
        exact Steps.refl _)
      have c10 : Steps p.tables e below (s₁.setTop (entryFrame m #[.ref b, .int (Int32.ofNat o), .ref d, .int (Int32.ofNat q), .int (Int32.ofNat len)] 7)) (T7.setTop (mkF m 3 #[.val (.ref b), .val (.int (Int32.ofNat (o + (i + 1)))), .val (.ref d), .val (.int (Int32.ofNat (q + (i + 1)))), .val (.int (Int32.ofNat len)), .val (.int (Int32.ofNat (i + 1))), .val (.int (cv A (o + i)))] [])) := by
        have := c9
        rw [succ32, succ32, succ32] at this
        exact this
      exact ih (i + 1) (by omega) _ (Or.inr ⟨_, rfl, rfl⟩) T7 _ (by rw [copyLocs_step, ← List.append_assoc]; exact X7) (pl.trans p7) (fl.step (by omega) hlt (by simp)) c10
  obtain ⟨T9, B9, z9, X9, p9, f9, g9⟩ := loop len 0 (by omega) .unset (Or.inl rfl) s₁ B (by simpa [copyLocs] using X0) ⟨hB0.1, fun _ _ => rfl, rfl⟩ (Laid.zero _ _ _) c2
  have c11 : Steps p.tables e below (s₁.setTop (entryFrame m #[.ref b, .int (Int32.ofNat o), .ref d, .int (Int32.ofNat q), .int (Int32.ofNat len)] 7)) (T9.setTop (mkF m 46 #[.val (.ref b), .val (.int (Int32.ofNat (o + len))), .val (.ref d), .val (.int (Int32.ofNat (q + len))), .val (.int (Int32.ofNat len)), .val (.int (Int32.ofNat len)), z9] [.int (Int32.ofNat len)])) := g9.trans (by
    refine XS.iload X9.here hexec rfl (hb hbytes d3) rfl ?_
    refine XS.iload X9.here hexec rfl (hb hbytes d5) rfl ?_
    refine XS.icmpYes X9.here hexec rfl (pc0 := 7) rfl (hb hbytes d7) rfl (ii_ge_t (nlt32 (by omega) (Nat.le_refl _))) (by decide) rfl ?_
    refine XS.iload X9.here hexec rfl (hb hbytes d44) rfl ?_
    exact Steps.refl _)
  exact ⟨T9, some (.int (Int32.ofNat len)), _, _, _, X9, by simp, rfl, rfl, (fun h => by cases h), ⟨rfl, B9, p9.from hh0, f9⟩, fun fs hl => c11.trans (X9.ireturnOut hexec hret rfl (Or.inl rfl) (hb hbytes d46) hl)⟩
end Cmp5
namespace Cmp3
def yN : MethodName := ⟨"java/lang/StringUTF16", "compress", "([CII)[B"⟩
abbrev yB : ByteArray := jdk_52_method_16_code
theorem d0 : decode yB 0 = .ok (.iload_n 2, 1) := by decide +kernel
theorem d1 : decode yB 1 = .ok (.newarray .byte, 2) := by decide +kernel
theorem d3 : decode yB 3 = .ok (.astore_n 3, 1) := by decide +kernel
theorem d4 : decode yB 4 = .ok (.aload_n 0, 1) := by decide +kernel
theorem d5 : decode yB 5 = .ok (.iload_n 1, 1) := by decide +kernel
theorem d6 : decode yB 6 = .ok (.aload_n 3, 1) := by decide +kernel
theorem d7 : decode yB 7 = .ok (.iconst 0, 1) := by decide +kernel
theorem d8 : decode yB 8 = .ok (.iload_n 2, 1) := by decide +kernel
theorem d9 : decode yB 9 = .ok (.invokestatic 115, 3) := by decide +kernel
theorem d12 : decode yB 12 = .ok (.istore 4, 2) := by decide +kernel
theorem d14 : decode yB 14 = .ok (.iload 4, 2) := by decide +kernel
theorem d16 : decode yB 16 = .ok (.iload_n 2, 1) := by decide +kernel
theorem d17 : decode yB 17 = .ok (.if_icmp (.eq) 40, 3) := by decide +kernel
theorem d57 : decode yB 57 = .ok (.aload_n 3, 1) := by decide +kernel
theorem d58 : decode yB 58 = .ok (.areturn, 1) := by decide +kernel
def site : List Cond := [.arrayClass .byte, Cmp5.tab] ++ staticW U16 115 Cmp5.yN
def tab : Cond := tabOf yN yB 6 (some (.array .byte)) site
def P (b : Addr) (A : Cell) (o len : Nat) (args : Array Value) (s : State) : Prop := args = #[.ref b, .int (Int32.ofNat o), .int (Int32.ofNat len)] ∧ Ch b A s ∧ o + len ≤ A.slots.size ∧ len ≤ 536870912 ∧ ∀ i, i < len → ¬ 255 < cv A (o + i)
def E (b : Addr) (A : Cell) (o len : Nat) (r : Option Value) (s u : State) : Prop := NewArr .byte "[B" len (fun j => .int (lo8 (cv A (o + j)))) r s u ∧ u.heap.size = s.heap.size + 1
/-- no char of the range above 255: a new byte[] of their low bytes -/
theorem law (l : Launch) (b : Addr) (A : Cell) (o len : Nat) : Law l yN 3 3 1 18 yB 6 (some (.array .byte)) site (P b A o len) (E b A o len) [] 1 len := by
  refine Law.of_walk (plainFor_of_name (by decide +kernel)) (by decide +kernel) (by decide +kernel) (by decide) (fun _ _ h => by rw [h.1]; rfl) (fun _ U U' hal hh h => ⟨h.1, h.2.1.mv hal hh, h.2.2⟩) (fun r U U' V V' h1 hal h2 h => ⟨NewArr.mv r U U' V V' h1 hal h2 h.1, by rw [h1, h2]; exact h.2⟩) ?_
  intro p e s m args below meth c s₁ X0 hexec hbytes hml hret hlk hnm hown hh0 W hP
  obtain ⟨rfl, hA, l1, l2, hp⟩ := hP
  have a31 := hA.1.2.2.2
  have c1 : Steps p.tables e below (s₁.setTop (entryFrame m #[.ref b, .int (Int32.ofNat o), .int (Int32.ofNat len)] 6)) (s₁.setTop (mkF m 0 #[.val (.ref b), .val (.int (Int32.ofNat o)), .val (.int (Int32.ofNat len)), .unset, .unset, .unset] [])) := entry rfl
  have c2 : Steps p.tables e below (s₁.setTop (entryFrame m #[.ref b, .int (Int32.ofNat o), .int (Int32.ofNat len)] 6)) (s₁.setTop (mkF m 1 #[.val (.ref b), .val (.int (Int32.ofNat o)), .val (.int (Int32.ofNat len)), .unset, .unset, .unset] [.int (Int32.ofNat len)])) := c1.trans (by
    refine XS.iloadN X0.here hexec rfl (hb hbytes d0) rfl ?_
    exact Steps.refl _)
  obtain ⟨T3, B3, X3, ba3, bs3, bv3, bh3, bf3, st3⟩ := X0.anew hexec (atype := .byte) (wk W (.arrayClass .byte)) rfl (by show len * 1 ≤ _; omega) (by omega) (g := (mkF m 1 #[.val (.ref b), .val (.int (Int32.ofNat o)), .val (.int (Int32.ofNat len)), .unset, .unset, .unset] [.int (Int32.ofNat len)])) rfl (hb hbytes d1) (rest := []) rfl (Nat.le_refl _) (by show 0 + len ≤ len; omega)
  rw [hh0] at ba3 st3
  have kp3 : XT.Kept s T3 := (XT.Kept.of_eq hh0).push bh3
  have hA3 := hA.keep X3.warmed.alike (kp3 _ _ hA.1.1)
  have hne : b ≠ s.heap.size := hA.1.ne
  have c4 : Steps p.tables e below (s₁.setTop (entryFrame m #[.ref b, .int (Int32.ofNat o), .int (Int32.ofNat len)] 6)) (T3.setTop (mkF m 3 #[.val (.ref b), .val (.int (Int32.ofNat o)), .val (.int (Int32.ofNat len)), .unset, .unset, .unset] [.ref s.heap.size])) := c2.trans (st3 _ (Steps.refl _))
  have c5 : Steps p.tables e below (s₁.setTop (entryFrame m #[.ref b, .int (Int32.ofNat o), .int (Int32.ofNat len)] 6)) (T3.setTop (mkF m 9 #[.val (.ref b), .val (.int (Int32.ofNat o)), .val (.int (Int32.ofNat len)), .val (.ref s.heap.size), .unset, .unset] [.int (Int32.ofNat len), .int 0, .ref s.heap.size, .int (Int32.ofNat o), .ref b])) := c4.trans (by
    refine XS.astoreN X3.here hexec rfl (hb hbytes d3) rfl rfl rfl ?_
    refine XS.aloadN X3.here hexec rfl (hb hbytes d4) rfl rfl ?_
    refine XS.iloadN X3.here hexec rfl (hb hbytes d5) rfl ?_
    refine XS.aloadN X3.here hexec rfl (hb hbytes d6) rfl rfl ?_
    refine iconstV X3.here hexec rfl 0 (hb hbytes d7) (by decide) ?_
    refine XS.iloadN X3.here hexec rfl (hb hbytes d8) rfl ?_
    exact Steps.refl _)
  obtain ⟨v6, T6, X6, E6, g6⟩ := X3.callS hexec (Cmp5.law l b A s.heap.size B3 o 0 len) hown (wks W (staticW U16 115 Cmp5.yN)) (wk W Cmp5.tab) (W := 0) (Nat.le_of_ble_eq_true rfl) (Nat.le_of_ble_eq_true rfl) (Nat.le_refl _) (by show 0 + len + 0 ≤ len; omega) (g := (mkF m 9 #[.val (.ref b), .val (.int (Int32.ofNat o)), .val (.int (Int32.ofNat len)), .val (.ref s.heap.size), .unset, .unset] [.int (Int32.ofNat len), .int (Int32.ofNat 0), .ref s.heap.size, .int (Int32.ofNat o), .ref b])) rfl (by rw [hml]; rfl) c5 (argsL := [.ref b, .int (Int32.ofNat o), .ref s.heap.size, .int (Int32.ofNat 0), .int (Int32.ofNat len)]) (rest := []) rfl rfl (by show 2 * 0 + 0 ≤ _; decide) (hb hbytes d9) (⟨rfl, hA3, ba3, hne, l1, by rw [bs3]; simp, hp⟩)
  obtain ⟨rfl, B6, p6, f6⟩ := E6
  have c7 : Steps p.tables e below (s₁.setTop (entryFrame m #[.ref b, .int (Int32.ofNat o), .int (Int32.ofNat len)] 6)) (T6.setTop (mkF m 12 #[.val (.ref b), .val (.int (Int32.ofNat o)), .val (.int (Int32.ofNat len)), .val (.ref s.heap.size), .unset, .unset] [.int (Int32.ofNat len)])) := g6
  have c8 : Steps p.tables e below (s₁.setTop (entryFrame m #[.ref b, .int (Int32.ofNat o), .int (Int32.ofNat len)] 6)) (T6.setTop (mkF m 58 #[.val (.ref b), .val (.int (Int32.ofNat o)), .val (.int (Int32.ofNat len)), .val (.ref s.heap.size), .val (.int (Int32.ofNat len)), .unset] [.ref s.heap.size])) := c7.trans (by
    refine XS.istore X6.here hexec rfl (hb hbytes d12) rfl rfl ?_
    refine XS.iload X6.here hexec rfl (hb hbytes d14) rfl ?_
    refine XS.iloadN X6.here hexec rfl (hb hbytes d16) rfl ?_
    refine XS.icmpYes X6.here hexec rfl (pc0 := 17) rfl (hb hbytes d17) rfl (ii_eq_t rfl) (by decide) rfl ?_
    refine XS.aloadN X6.here hexec rfl (hb hbytes d57) rfl rfl ?_
    exact Steps.refl _)
  have X8 := X6.wide (L' := []) (cells' := 1) (slots' := len) (fun x hx hlt => by
    simp only [List.nil_append, copyLocs, List.mem_map, List.mem_range] at hx
    obtain ⟨i, -, rfl⟩ := hx
    exact absurd hlt (Nat.lt_irrefl _)) (Nat.le_refl _) (by omega)
  exact ⟨T6, some (.ref s.heap.size), _, _, _, X8, rfl, rfl, rfl, (fun h => by cases h), ⟨⟨rfl, B6, ba3.like (X3.warmed.alike.symm.trans X6.warmed.alike) p6.1 f6.1 f6.2.1 f6.2.2.1, f6.2.1.trans bv3, by rw [X6.warmed.alike.findClass, f6.1]; exact bf3, by rw [f6.2.2.1, bs3]; simp, fun j hj => by rw [f6.2.2.2 j, if_pos (by omega)]; rfl, kp3.put p6 (Nat.le_refl _)⟩, by rw [p6.2.2, bh3, hh0]; simp⟩, fun fs hl => c8.trans (X8.areturnOut hexec rfl hret rfl (hb hbytes d58) hl)⟩
end Cmp3
namespace CodL
def yN : MethodName := ⟨"java/lang/StringUTF16", "coderFromArrayLen", "([BI)B"⟩
abbrev yB : ByteArray := jdk_52_method_15_code
theorem d0 : decode yB 0 = .ok (.iload_n 1, 1) := by decide +kernel
theorem d1 : decode yB 1 = .ok (.aload_n 0, 1) := by decide +kernel
theorem d2 : decode yB 2 = .ok (.arraylength, 1) := by decide +kernel
theorem d3 : decode yB 3 = .ok (.isub, 1) := by decide +kernel
theorem d4 : decode yB 4 = .ok (.bipush 31, 2) := by decide +kernel
theorem d6 : decode yB 6 = .ok (.iushr, 1) := by decide +kernel
theorem d7 : decode yB 7 = .ok (.i2b, 1) := by decide +kernel
theorem d8 : decode yB 8 = .ok (.ireturn, 1) := by decide +kernel
def site : List Cond := []
def tab : Cond := tabOf yN yB 2 (some .byte) site
def P (d : Addr) (B : Cell) (args : Array Value) (s : State) : Prop := args = #[.ref d, .int (Int32.ofNat B.slots.size)] ∧ Arr .byte d B s
def E (r : Option Value) (s u : State) : Prop := XT.PureE (some (.int 0)) r s u
/-- an array as long as the number of chars: LATIN1 -/
theorem law (l : Launch) (d : Addr) (B : Cell) : Law l yN 2 2 0 0 yB 2 (some .byte) site (P d B) E [] 0 0 := by
  refine Law.of_walk (plainFor_of_name (by decide +kernel)) (by decide +kernel) (by decide +kernel) (by decide) (fun _ _ h => by rw [h.1]; rfl) (fun _ U U' hal hh h => ⟨h.1, h.2.mv hal hh⟩) (fun r U U' V V' h1 hal h2 h => XT.PureE.mv r U U' V V' h1 hal h2 h) ?_
  intro p e s m args below meth c s₁ X0 hexec hbytes hml hret hlk hnm hown hh0 W hP
  obtain ⟨rfl, hB⟩ := hP
  have hB0 := hB.mv X0.warmed.alike hh0
  have c1 : Steps p.tables e below (s₁.setTop (entryFrame m #[.ref d, .int (Int32.ofNat B.slots.size)] 2)) (s₁.setTop (mkF m 0 #[.val (.ref d), .val (.int (Int32.ofNat B.slots.size))] [])) := entry rfl
  have c2 : Steps p.tables e below (s₁.setTop (entryFrame m #[.ref d, .int (Int32.ofNat B.slots.size)] 2)) (s₁.setTop (mkF m 2 #[.val (.ref d), .val (.int (Int32.ofNat B.slots.size))] [.ref d, .int (Int32.ofNat B.slots.size)])) := c1.trans (by
    refine XS.iloadN X0.here hexec rfl (hb hbytes d0) rfl ?_
    refine XS.aloadN X0.here hexec rfl (hb hbytes d1) rfl rfl ?_
    exact Steps.refl _)
  have c3 : Steps p.tables e below (s₁.setTop (entryFrame m #[.ref d, .int (Int32.ofNat B.slots.size)] 2)) (s₁.setTop (mkF m 8 #[.val (.ref d), .val (.int (Int32.ofNat B.slots.size))] [.int (lo8 (ushr (Int32.ofNat B.slots.size - Int32.ofNat B.slots.size) 31))])) := c2.trans (by
    refine X0.alen hexec hB0 rfl rfl (hb hbytes d2) ?_
    refine XS.isub X0.here hexec rfl (hb hbytes d3) rfl ?_
    refine bipushV X0.here hexec rfl 31 (hb hbytes d4) (by decide) ?_
    refine iushr X0.here hexec rfl (hb hbytes d6) rfl ?_
    refine i2b X0.here hexec rfl (hb hbytes d7) rfl ?_
    exact Steps.refl _)
  have e0 : lo8 (ushr (Int32.ofNat B.slots.size - Int32.ofNat B.slots.size) 31) = 0 := by rw [Int32.sub_self]; decide
  rw [e0] at c3
  exact ⟨s₁, some (.int 0), _, _, _, X0, rfl, rfl, rfl, (fun h => by cases h), ⟨rfl, hh0⟩, fun fs hl => c3.trans (X0.ireturnOut hexec hret rfl (Or.inr (Or.inr (Or.inl rfl))) (hb hbytes d8) hl)⟩
end CodL
/-- the String at a is Latin-1 over a new byte[] (the heap's one new cell): the low bytes of the len chars of A from o on; every cell but a is kept -/
def Got (a : Addr) (D : Cell) (fV fC : Field) (A : Cell) (o len : Nat) (r : Option Value) (s u : State) : Prop := r = none ∧ ∃ D' V : Cell, Blank "java/lang/String" a D' u ∧ Same D D' [fV.slot, fC.slot] ∧ D'.slots[fV.slot]? = some (.ref s.heap.size) ∧ D'.slots[fC.slot]? = some (.int 0) ∧ Arr .byte s.heap.size V u ∧ V.vm = .none ∧ u.vm.findClass "[B" = some V.cls ∧ V.slots.size = len ∧ (∀ j, j < len → V.slots[j]? = some (.int (lo8 (cv A (o + j))))) ∧ (∀ (y : Addr) (c : Cell), y ≠ a → s.heap[y]? = some c → u.heap[y]? = some c) ∧ u.heap.size = s.heap.size + 1
theorem Got.mv {a : Addr} {D A : Cell} {fV fC : Field} {o len : Nat} : ∀ r (U U' V V' : State), U'.heap = U.heap → V.vm.Alike V'.vm → V'.heap = V.heap → Got a D fV fC A o len r U V → Got a D fV fC A o len r U' V' :=
  fun r U U' V V' h1 hal h2 ⟨e0, D', X, a1, a2, a3, a4, a5, a6, a7, a8, a9, a10, a11⟩ => ⟨e0, D', X, a1.mv hal h2, a2, by rw [h1]; exact a3, a4, by rw [h1]; exact a5.mv hal h2, a6, by rw [hal.findClass]; exact a7, a8, a9, by rw [h1, h2]; exact a10, by rw [h1, h2]; exact a11⟩
namespace New4
def yN : MethodName := ⟨"java/lang/String", "<init>", "([CIILjava/lang/Void;)V"⟩
abbrev yB : ByteArray := jdk_42_method_149_code
theorem d0 : decode yB 0 = .ok (.aload_n 0, 1) := by decide +kernel
theorem d1 : decode yB 1 = .ok (.invokespecial 1, 3) := by decide +kernel
theorem d4 : decode yB 4 = .ok (.iload_n 3, 1) := by decide +kernel
theorem d5 : decode yB 5 = .ok (.ifCond (.ne) 22, 3) := by decide +kernel
theorem d27 : decode yB 27 = .ok (.getstatic 38, 3) := by decide +kernel
theorem d30 : decode yB 30 = .ok (.ifCond (.eq) 28, 3) := by decide +kernel
theorem d33 : decode yB 33 = .ok (.aload_n 1, 1) := by decide +kernel
theorem d34 : decode yB 34 = .ok (.iload_n 2, 1) := by decide +kernel
theorem d35 : decode yB 35 = .ok (.iload_n 3, 1) := by decide +kernel
theorem d36 : decode yB 36 = .ok (.invokestatic 177, 3) := by decide +kernel
theorem d39 : decode yB 39 = .ok (.astore 5, 2) := by decide +kernel
theorem d41 : decode yB 41 = .ok (.aload_n 0, 1) := by decide +kernel
theorem d42 : decode yB 42 = .ok (.aload 5, 2) := by decide +kernel
theorem d44 : decode yB 44 = .ok (.iload_n 3, 1) := by decide +kernel
theorem d45 : decode yB 45 = .ok (.invokestatic 47, 3) := by decide +kernel
theorem d48 : decode yB 48 = .ok (.putfield 15, 3) := by decide +kernel
theorem d51 : decode yB 51 = .ok (.aload_n 0, 1) := by decide +kernel
theorem d52 : decode yB 52 = .ok (.aload 5, 2) := by decide +kernel
theorem d54 : decode yB 54 = .ok (.putfield 9, 3) := by decide +kernel
theorem d57 : decode yB 57 = .ok (.return_, 1) := by decide +kernel
def site : List Cond := [.fieldLink "java/lang/String" 38 "java/lang/String" "COMPACT_STRINGS" "Z", Cmp3.tab, CodL.tab, .laysFinal "java/lang/String" "java/lang/String" "value" "[B", .fieldLink "java/lang/String" 9 "java/lang/String" "value" "[B", .laysFinal "java/lang/String" "java/lang/String" "coder" "B", .fieldLink "java/lang/String" 15 "java/lang/String" "coder" "B"] ++ objW "java/lang/String" 1 ++ staticW "java/lang/String" 177 Cmp3.yN ++ staticW "java/lang/String" 47 CodL.yN
def tab : Cond := tabOf yN yB 6 none site
def P (a : Addr) (D : Cell) (fV fC : Field) (b : Addr) (A : Cell) (z : Int32) (o len : Nat) (args : Array Value) (s : State) : Prop := args = #[.ref a, .ref b, .int (Int32.ofNat o), .int (Int32.ofNat len), .null] ∧ Blank "java/lang/String" a D s ∧ Found "java/lang/String" "value" "[B" fV s ∧ Found "java/lang/String" "coder" "B" fC s ∧ Ch b A s ∧ StaticIs s "java/lang/String" "COMPACT_STRINGS" "Z" (.int z) ∧ ¬ z = 0 ∧ 0 < len ∧ o + len ≤ A.slots.size ∧ len ≤ 536870912 ∧ ∀ i, i < len → ¬ 255 < cv A (o + i)
def E (a : Addr) (D : Cell) (fV fC : Field) (A : Cell) (o len : Nat) (r : Option Value) (s u : State) : Prop := Got a D fV fC A o len r s u
/-- len > 0, no char of the range above 255: a Latin-1 String of their low bytes -/
theorem law (l : Launch) (a : Addr) (D : Cell) (fV fC : Field) (b : Addr) (A : Cell) (z : Int32) (o len : Nat) : Law l yN 5 4 2 35 yB 6 none site (P a D fV fC b A z o len) (E a D fV fC A o len) [⟨a, fC.slot⟩, ⟨a, fV.slot⟩] 1 len := by
  refine Law.of_walk (plainFor_of_name (by decide +kernel)) (by decide +kernel) (by decide +kernel) (by decide) (fun _ _ h => by rw [h.1]; rfl) (fun _ U U' hal hh h => ⟨h.1, h.2.1.mv hal hh, h.2.2.1.al hal, h.2.2.2.1.al hal, h.2.2.2.2.1.mv hal hh, h.2.2.2.2.2.1.there hal hh, h.2.2.2.2.2.2⟩) (fun r U U' V V' h1 hal h2 h => Got.mv r U U' V V' h1 hal h2 h) ?_
  intro p e s m args below meth c s₁ X0 hexec hbytes hml hret hlk hnm hown hh0 W hP
  obtain ⟨rfl, hB, f1, f2, hA, s1, hz, l0, l1, l2, hp⟩ := hP
  have a31 := hA.1.2.2.2
  have c1 : Steps p.tables e below (s₁.setTop (entryFrame m #[.ref a, .ref b, .int (Int32.ofNat o), .int (Int32.ofNat len), .null] 6)) (s₁.setTop (mkF m 0 #[.val (.ref a), .val (.ref b), .val (.int (Int32.ofNat o)), .val (.int (Int32.ofNat len)), .val .null, .unset] [])) := entry rfl
  have c2 : Steps p.tables e below (s₁.setTop (entryFrame m #[.ref a, .ref b, .int (Int32.ofNat o), .int (Int32.ofNat len), .null] 6)) (s₁.setTop (mkF m 1 #[.val (.ref a), .val (.ref b), .val (.int (Int32.ofNat o)), .val (.int (Int32.ofNat len)), .val .null, .unset] [.ref a])) := c1.trans (by
    refine XS.aloadN X0.here hexec rfl (hb hbytes d0) rfl rfl ?_
    exact Steps.refl _)
  obtain ⟨T3, X3, q3, st3⟩ := X0.oinit hexec hown (wks W (objW "java/lang/String" 1)) (g := (mkF m 1 #[.val (.ref a), .val (.ref b), .val (.int (Int32.ofNat o)), .val (.int (Int32.ofNat len)), .val .null, .unset] [.ref a])) rfl (by rw [hml]; rfl) (rest := []) rfl (hb hbytes d1) (W := 0) (by show 2 * 0 + 0 ≤ _; decide) (Nat.le_of_ble_eq_true rfl) (Nat.le_of_ble_eq_true rfl)
  have hh3 := q3.trans hh0
  have c4 : Steps p.tables e below (s₁.setTop (entryFrame m #[.ref a, .ref b, .int (Int32.ofNat o), .int (Int32.ofNat len), .null] 6)) (T3.setTop (mkF m 27 #[.val (.ref a), .val (.ref b), .val (.int (Int32.ofNat o)), .val (.int (Int32.ofNat len)), .val .null, .unset] [])) := (c2.trans (st3 _ (Steps.refl _))).trans (by
    refine XS.iloadN X3.here hexec rfl (hb hbytes d4) rfl ?_
    refine XS.ifYes X3.here hexec rfl (pc0 := 5) rfl (hb hbytes d5) rfl (i0_ne_t (nz32 (by omega) l0)) (by decide) rfl ?_
    exact Steps.refl _)
  obtain ⟨T5, X5, q5, st5⟩ := X3.sget hexec hown (wk W (.fieldLink "java/lang/String" 38 "java/lang/String" "COMPACT_STRINGS" "Z")) s1 (fun _ _ h => by rw [hh3]; exact h) (g := (mkF m 27 #[.val (.ref a), .val (.ref b), .val (.int (Int32.ofNat o)), .val (.int (Int32.ofNat len)), .val .null, .unset] [])) rfl (hb hbytes d27)
  have hh5 := q5.trans hh3
  have c6 : Steps p.tables e below (s₁.setTop (entryFrame m #[.ref a, .ref b, .int (Int32.ofNat o), .int (Int32.ofNat len), .null] 6)) (T5.setTop (mkF m 30 #[.val (.ref a), .val (.ref b), .val (.int (Int32.ofNat o)), .val (.int (Int32.ofNat len)), .val .null, .unset] [.int z])) := c4.trans (st5 _ (Steps.refl _))
  have c7 : Steps p.tables e below (s₁.setTop (entryFrame m #[.ref a, .ref b, .int (Int32.ofNat o), .int (Int32.ofNat len), .null] 6)) (T5.setTop (mkF m 36 #[.val (.ref a), .val (.ref b), .val (.int (Int32.ofNat o)), .val (.int (Int32.ofNat len)), .val .null, .unset] [.int (Int32.ofNat len), .int (Int32.ofNat o), .ref b])) := c6.trans (by
    refine XS.ifNo X5.here hexec rfl (hb hbytes d30) rfl (i0_eq_f hz) ?_
    refine XS.aloadN X5.here hexec rfl (hb hbytes d33) rfl rfl ?_
    refine XS.iloadN X5.here hexec rfl (hb hbytes d34) rfl ?_
    refine XS.iloadN X5.here hexec rfl (hb hbytes d35) rfl ?_
    exact Steps.refl _)
  obtain ⟨v8, T8, X8, E8, g8⟩ := X5.callS hexec (Cmp3.law l b A o len) hown (wks W (staticW "java/lang/String" 177 Cmp3.yN)) (wk W Cmp3.tab) (W := 0) (Nat.le_of_ble_eq_true rfl) (Nat.le_of_ble_eq_true rfl) (Nat.le_refl _) (by show 0 + len ≤ len; omega) (g := (mkF m 36 #[.val (.ref a), .val (.ref b), .val (.int (Int32.ofNat o)), .val (.int (Int32.ofNat len)), .val .null, .unset] [.int (Int32.ofNat len), .int (Int32.ofNat o), .ref b])) rfl (by rw [hml]; rfl) c7 (argsL := [.ref b, .int (Int32.ofNat o), .int (Int32.ofNat len)]) (rest := []) rfl rfl (by show 2 * 0 + 0 ≤ _; decide) (hb hbytes d36) (⟨rfl, hA.mv X5.warmed.alike hh5, l1, l2, hp⟩)
  obtain ⟨e8, z8⟩ := E8
  obtain ⟨rfl, N, n1, n2, n3, n4, n5, n6⟩ := NewArr.mv _ T5 s _ _ hh5.symm (Vm.Alike.refl _) rfl e8
  rw [hh5] at z8
  have hB1 := hB.keep X8.warmed.alike (n6 _ _ hB.1)
  have hne : s.heap.size ≠ a := (Nat.ne_of_lt (Array.getElem?_eq_some_iff.mp hB.1).1).symm
  have c9 : Steps p.tables e below (s₁.setTop (entryFrame m #[.ref a, .ref b, .int (Int32.ofNat o), .int (Int32.ofNat len), .null] 6)) (T8.setTop (mkF m 39 #[.val (.ref a), .val (.ref b), .val (.int (Int32.ofNat o)), .val (.int (Int32.ofNat len)), .val .null, .unset] [.ref s.heap.size])) := g8
  have c10 : Steps p.tables e below (s₁.setTop (entryFrame m #[.ref a, .ref b, .int (Int32.ofNat o), .int (Int32.ofNat len), .null] 6)) (T8.setTop (mkF m 45 #[.val (.ref a), .val (.ref b), .val (.int (Int32.ofNat o)), .val (.int (Int32.ofNat len)), .val .null, .val (.ref s.heap.size)] [.int (Int32.ofNat N.slots.size), .ref s.heap.size, .ref a])) := by
    have hc : Steps p.tables e below (s₁.setTop (entryFrame m #[.ref a, .ref b, .int (Int32.ofNat o), .int (Int32.ofNat len), .null] 6)) (T8.setTop (mkF m 45 #[.val (.ref a), .val (.ref b), .val (.int (Int32.ofNat o)), .val (.int (Int32.ofNat len)), .val .null, .val (.ref s.heap.size)] [.int (Int32.ofNat len), .ref s.heap.size, .ref a])) := c9.trans (by
      refine XS.astore X8.here hexec rfl (hb hbytes d39) rfl rfl rfl ?_
      refine XS.aloadN X8.here hexec rfl (hb hbytes d41) rfl rfl ?_
      refine XS.aload X8.here hexec rfl (hb hbytes d42) rfl rfl ?_
      refine XS.iloadN X8.here hexec rfl (hb hbytes d44) rfl ?_
      exact Steps.refl _)
    rw [n4]; exact hc
  obtain ⟨v11, T11, X11, E11, g11⟩ := X8.callS hexec (CodL.law l s.heap.size N) hown (wks W (staticW "java/lang/String" 47 CodL.yN)) (wk W CodL.tab) (W := 1) (Nat.le_of_ble_eq_true rfl) (Nat.le_of_ble_eq_true rfl) (Nat.le_refl _) (by show 0 + len + 0 ≤ len; omega) (g := (mkF m 45 #[.val (.ref a), .val (.ref b), .val (.int (Int32.ofNat o)), .val (.int (Int32.ofNat len)), .val .null, .val (.ref s.heap.size)] [.int (Int32.ofNat N.slots.size), .ref s.heap.size, .ref a])) rfl (by rw [hml]; rfl) c10 (argsL := [.ref s.heap.size, .int (Int32.ofNat N.slots.size)]) (rest := [.ref a]) rfl rfl (by show 2 * 0 + (1 + 0) ≤ _; decide) (hb hbytes d45) (⟨rfl, n1⟩)
  obtain ⟨rfl, q11⟩ := E11
  have hB11 := hB1.mv (X8.warmed.alike.symm.trans X11.warmed.alike) q11
  have c12 : Steps p.tables e below (s₁.setTop (entryFrame m #[.ref a, .ref b, .int (Int32.ofNat o), .int (Int32.ofNat len), .null] 6)) (T11.setTop (mkF m 48 #[.val (.ref a), .val (.ref b), .val (.int (Int32.ofNat o)), .val (.int (Int32.ofNat len)), .val .null, .val (.ref s.heap.size)] [.int 0, .ref a])) := g11
  obtain ⟨T13, X13, p13, bl13, sl13, st13⟩ := X11.finit hexec hown (wk W (.fieldLink "java/lang/String" 15 "java/lang/String" "coder" "B")) (Or.inr ⟨_, (wk W (.laysFinal "java/lang/String" "java/lang/String" "coder" "B"))⟩) (Or.inl ⟨rfl, hnm⟩) f2 (Or.inl rfl) hB11 (t := .byte) (by decide +kernel) rfl (g := (mkF m 48 #[.val (.ref a), .val (.ref b), .val (.int (Int32.ofNat o)), .val (.int (Int32.ofNat len)), .val .null, .val (.ref s.heap.size)] [.int 0, .ref a])) rfl (rest := []) rfl (hb hbytes d48)
  have c14 : Steps p.tables e below (s₁.setTop (entryFrame m #[.ref a, .ref b, .int (Int32.ofNat o), .int (Int32.ofNat len), .null] 6)) (T13.setTop (mkF m 54 #[.val (.ref a), .val (.ref b), .val (.int (Int32.ofNat o)), .val (.int (Int32.ofNat len)), .val .null, .val (.ref s.heap.size)] [.ref s.heap.size, .ref a])) := (c12.trans (st13 _ (Steps.refl _))).trans (by
    refine XS.aloadN X13.here hexec rfl (hb hbytes d51) rfl rfl ?_
    refine XS.aload X13.here hexec rfl (hb hbytes d52) rfl rfl ?_
    exact Steps.refl _)
  obtain ⟨T15, X15, p15, bl15, sl15, st15⟩ := X13.finit hexec hown (wk W (.fieldLink "java/lang/String" 9 "java/lang/String" "value" "[B")) (Or.inr ⟨_, (wk W (.laysFinal "java/lang/String" "java/lang/String" "value" "[B"))⟩) (Or.inl ⟨rfl, hnm⟩) f1 (Or.inl rfl) bl13 (t := (.array .byte)) (by decide +kernel) rfl (g := (mkF m 54 #[.val (.ref a), .val (.ref b), .val (.int (Int32.ofNat o)), .val (.int (Int32.ofNat len)), .val .null, .val (.ref s.heap.size)] [.ref s.heap.size, .ref a])) rfl (rest := []) rfl (hb hbytes d54)
  have c16 : Steps p.tables e below (s₁.setTop (entryFrame m #[.ref a, .ref b, .int (Int32.ofNat o), .int (Int32.ofNat len), .null] 6)) (T15.setTop (mkF m 57 #[.val (.ref a), .val (.ref b), .val (.int (Int32.ofNat o)), .val (.int (Int32.ofNat len)), .val .null, .val (.ref s.heap.size)] [])) := c14.trans (st15 _ (Steps.refl _))
  have ap := apart (Or.inr ⟨_, (wk W (.laysFinal "java/lang/String" "java/lang/String" "value" "[B"))⟩) (Or.inr ⟨_, (wk W (.laysFinal "java/lang/String" "java/lang/String" "coder" "B"))⟩) f1 f2 (t₁ := .array .byte) (t₂ := .byte) (by decide +kernel) (by decide +kernel) (by decide)
  have al := X8.warmed.alike.symm.trans X15.warmed.alike
  have n7 : T11.heap[s.heap.size]? = some N := by rw [q11]; exact n1.1
  exact ⟨T15, none, _, _, _, X15, by simp, rfl, by omega, (fun _ => rfl), ⟨rfl, _, N, bl15, ((Same.refl D _).set _ (by simp)).set _ (by simp), sl15, (Cell.slots_setSlot_ne _ ap).trans sl13, n1.keep al (p15.other hne (p13.other hne n7)), n2, by rw [al.findClass]; exact n3, n4, n5, fun y c h1 h2 => p15.other h1 (p13.other h1 (by rw [q11]; exact n6 y c h2)), by rw [p15.2.2, p13.2.2, q11]; exact z8⟩, fun fs hl => c16.trans (X15.returnOut hexec hret (hb hbytes d57) hl)⟩
end New4
namespace New1
def yN : MethodName := ⟨"java/lang/String", "<init>", "([C)V"⟩
abbrev yB : ByteArray := jdk_42_method_3_code
theorem d0 : decode yB 0 = .ok (.aload_n 0, 1) := by decide +kernel
theorem d1 : decode yB 1 = .ok (.aload_n 1, 1) := by decide +kernel
theorem d2 : decode yB 2 = .ok (.iconst 0, 1) := by decide +kernel
theorem d3 : decode yB 3 = .ok (.aload_n 1, 1) := by decide +kernel
theorem d4 : decode yB 4 = .ok (.arraylength, 1) := by decide +kernel
theorem d5 : decode yB 5 = .ok (.aconst_null, 1) := by decide +kernel
theorem d6 : decode yB 6 = .ok (.invokespecial 27, 3) := by decide +kernel
theorem d9 : decode yB 9 = .ok (.return_, 1) := by decide +kernel
def site : List Cond := [New4.tab] ++ initW "java/lang/String" 27 New4.yN
def tab : Cond := tabOf yN yB 2 none site
def P (a : Addr) (D : Cell) (fV fC : Field) (b : Addr) (A : Cell) (z : Int32) (args : Array Value) (s : State) : Prop := args = #[.ref a, .ref b] ∧ Blank "java/lang/String" a D s ∧ Found "java/lang/String" "value" "[B" fV s ∧ Found "java/lang/String" "coder" "B" fC s ∧ Ch b A s ∧ StaticIs s "java/lang/String" "COMPACT_STRINGS" "Z" (.int z) ∧ ¬ z = 0 ∧ 0 < A.slots.size ∧ A.slots.size ≤ 536870912 ∧ ∀ i, i < A.slots.size → ¬ 255 < cv A i
def E (a : Addr) (D : Cell) (fV fC : Field) (A : Cell) (r : Option Value) (s u : State) : Prop := Got a D fV fC A 0 A.slots.size r s u
/-- new String(chars), not empty, no char above 255: a Latin-1 String of their low bytes -/
theorem law (l : Launch) (a : Addr) (D : Cell) (fV fC : Field) (b : Addr) (A : Cell) (z : Int32) : Law l yN 2 1 3 52 yB 2 none site (P a D fV fC b A z) (E a D fV fC A) [⟨a, fC.slot⟩, ⟨a, fV.slot⟩] 1 A.slots.size := by
  refine Law.of_walk (plainFor_of_name (by decide +kernel)) (by decide +kernel) (by decide +kernel) (by decide) (fun _ _ h => by rw [h.1]; rfl) (fun _ U U' hal hh h => ⟨h.1, h.2.1.mv hal hh, h.2.2.1.al hal, h.2.2.2.1.al hal, h.2.2.2.2.1.mv hal hh, h.2.2.2.2.2.1.there hal hh, h.2.2.2.2.2.2⟩) (fun r U U' V V' h1 hal h2 h => Got.mv r U U' V V' h1 hal h2 h) ?_
  intro p e s m args below meth c s₁ X0 hexec hbytes hml hret hlk hnm hown hh0 W hP
  obtain ⟨rfl, hB, f1, f2, hA, s1, hz, l0, l2, hp⟩ := hP
  have c1 : Steps p.tables e below (s₁.setTop (entryFrame m #[.ref a, .ref b] 2)) (s₁.setTop (mkF m 0 #[.val (.ref a), .val (.ref b)] [])) := entry rfl
  have c2 : Steps p.tables e below (s₁.setTop (entryFrame m #[.ref a, .ref b] 2)) (s₁.setTop (mkF m 6 #[.val (.ref a), .val (.ref b)] [.null, .int (Int32.ofNat A.slots.size), .int 0, .ref b, .ref a])) := c1.trans (by
    refine XS.aloadN X0.here hexec rfl (hb hbytes d0) rfl rfl ?_
    refine XS.aloadN X0.here hexec rfl (hb hbytes d1) rfl rfl ?_
    refine iconstV X0.here hexec rfl 0 (hb hbytes d2) (by decide) ?_
    refine XS.aloadN X0.here hexec rfl (hb hbytes d3) rfl rfl ?_
    refine X0.alen hexec (hA.1.mv X0.warmed.alike hh0) rfl rfl (hb hbytes d4) ?_
    refine XS.aconstNull X0.here hexec rfl (hb hbytes d5) ?_
    exact Steps.refl _)
  obtain ⟨v3, T3, X3, E3, g3⟩ := X0.callN hexec (New4.law l a D fV fC b A z 0 A.slots.size) rfl hown (wks W (initW "java/lang/String" 27 New4.yN)) (W New4.tab (by simp only [site, List.mem_cons, List.mem_append, true_or, or_true])) (W := 0) (Nat.le_of_ble_eq_true rfl) (Nat.le_of_ble_eq_true rfl) (Nat.le_refl _) (by show 0 + A.slots.size ≤ A.slots.size; omega) (g := (mkF m 6 #[.val (.ref a), .val (.ref b)] [.null, .int (Int32.ofNat A.slots.size), .int (Int32.ofNat 0), .ref b, .ref a])) rfl (by rw [hml]; rfl) c2 (argsL := [.ref b, .int (Int32.ofNat 0), .int (Int32.ofNat A.slots.size), .null]) (rest := []) rfl rfl (by show 2 * 0 + 0 ≤ _; decide) (hb hbytes d6) (⟨rfl, hB.mv X0.warmed.alike hh0, f1.al X0.warmed.alike, f2.al X0.warmed.alike, hA.mv X0.warmed.alike hh0, s1.there X0.warmed.alike hh0, hz, l0, by omega, l2, fun i hi => by rw [Nat.zero_add]; exact hp i hi⟩)
  have e0 := Got.mv _ s₁ s _ _ hh0.symm (Vm.Alike.refl _) rfl E3
  obtain rfl := e0.1
  have c4 : Steps p.tables e below (s₁.setTop (entryFrame m #[.ref a, .ref b] 2)) (T3.setTop (mkF m 9 #[.val (.ref a), .val (.ref b)] [])) := g3
  exact ⟨T3, none, _, _, _, X3, by simp, rfl, by omega, (fun _ => rfl), e0, fun fs hl => c4.trans (X3.returnOut hexec hret (hb hbytes d9) hl)⟩
theorem pays {l : Launch} {R : Room} {p : Program} {e : Env} {below : List Frame} {s : State} {sargs : Array Value} {len W : Nat} (a : Addr) (D : Cell) (fV fC : Field) (b : Addr) (A : Cell) (z : Int32) (htab : tab.before sargs s = true) (hfr : 4 ≤ R.frames) (hlo : W + 65 ≤ R.locals) :
    Back l R p e below s sargs yN len W (fun A₁ a₁ => A₁.cells + 1 ≤ R.cells ∧ A₁.slots + A.slots.size ≤ R.slots ∧ P a D fV fC b A z a₁ A₁.U) (fun A₁ _ v₁ B₁ => E a D fV fC A v₁ A₁.U B₁.U ∧ B₁.locs = A₁.locs ++ [⟨a, fC.slot⟩, ⟨a, fV.slot⟩] ∧ B₁.cells = A₁.cells + 1 ∧ B₁.slots = A₁.slots + A.slots.size) :=
  (law l a D fV fC b A z).pays htab hfr (by omega)
end New1
/-- the byte, read back as charAt reads it, is the char -/
theorem lo8_mask {x : Int32} (h0 : ¬ x < 0) (h1 : ¬ 255 < x) : lo8 x &&& 255 = x := by
  have t : ∀ k : Fin 256, lo8 (Int32.ofNat k.val) &&& 255 = Int32.ofNat k.val := by decide +kernel
  rw [Int32.lt_iff_toInt_lt] at h0 h1
  have e0 : (0 : Int32).toInt = 0 := rfl
  have e1 : (255 : Int32).toInt = 255 := rfl
  obtain ⟨k, hk⟩ : ∃ k : Nat, x.toInt = k := ⟨x.toInt.toNat, by omega⟩
  have hx : x = Int32.ofNat k := Int32.toInt_inj.mp (by rw [hk, Int32.toInt_ofNat_small (by omega)])
  rw [hx]
  exact t ⟨k, by omega⟩
end StrChars
namespace StrChars.Road
open Jvm Sem ClassFile Op Lib Jvm.Stand Jvm.Free Jvm.Free.XT
open Jvm.Lib.Cold (StaticIs)
abbrev ST : String := "java/lang/String"
/-- every table word that New1's law asks, flat -/
abbrev words : List Jvm.Cond := [.code New1.yN New1.yB 2 none, .initialized ST, .methodLink ST 27 New4.yN, .instanceMethod New4.yN,
  .code New4.yN New4.yB 6 none, .fieldLink ST 38 ST "COMPACT_STRINGS" "Z", .laysFinal ST ST "value" "[B", .fieldLink ST 9 ST "value" "[B", .laysFinal ST ST "coder" "B", .fieldLink ST 15 ST "coder" "B",
  .methodLink ST 1 Lib.objectInit, .instanceMethod Lib.objectInit, .code Lib.objectInit ⟨#[0xb1]⟩ 1 none, .methodLink ST 177 Cmp3.yN, .static Cmp3.yN, .methodLink ST 47 CodL.yN, .static CodL.yN,
  .code Cmp3.yN Cmp3.yB 6 (some (.array .byte)), .initialized U16, .arrayClass .byte, .methodLink U16 115 Cmp5.yN, .static Cmp5.yN, .code Cmp5.yN Cmp5.yB 7 (some .int), .code CodL.yN CodL.yB 2 (some .byte)]
theorem tab_of {a : Array Value} {s : State} (h : ∀ w ∈ words, w.before a s = true) : New1.tab.before a s = true := by
  have h5 : Cmp5.tab.before a s = true := unparts (wk h (.code Cmp5.yN Cmp5.yB 7 (some .int))) (wks h (.initialized Cmp5.yN.cls :: Cmp5.site))
  have hc : CodL.tab.before a s = true := unparts (wk h (.code CodL.yN CodL.yB 2 (some .byte))) (wks h (.initialized CodL.yN.cls :: CodL.site))
  have q5 : ∀ w ∈ Cmp5.tab :: words, w.before a s = true := fun w hw => (List.mem_cons.mp hw).elim (fun e => e ▸ h5) (h w)
  have h3 : Cmp3.tab.before a s = true := unparts (wk q5 (.code Cmp3.yN Cmp3.yB 6 (some (.array .byte)))) (wks q5 (.initialized Cmp3.yN.cls :: Cmp3.site))
  have q3 : ∀ w ∈ Cmp3.tab :: CodL.tab :: words, w.before a s = true := fun w hw => (List.mem_cons.mp hw).elim (fun e => e ▸ h3) fun hw => (List.mem_cons.mp hw).elim (fun e => e ▸ hc) (h w)
  have h4 : New4.tab.before a s = true := unparts (wk q3 (.code New4.yN New4.yB 6 none)) (wks q3 (.initialized New4.yN.cls :: New4.site))
  have q4 : ∀ w ∈ New4.tab :: words, w.before a s = true := fun w hw => (List.mem_cons.mp hw).elim (fun e => e ▸ h4) (h w)
  exact unparts (wk q4 (.code New1.yN New1.yB 2 none)) (wks q4 (.initialized New1.yN.cls :: New1.site))
/-- the words ride from the start Z to the walk's own state -/
theorem moved {Z s : State} {a0 args : Array Value} (hZ : Z.Warmed39 s.vm) (hw : ∀ d ∈ words, d.before a0 Z = true) : ∀ d ∈ words, d.before args s = true := fun d hd => by
  have q := hw d hd
  have t : ∀ d ∈ words, d = .arrayClass .byte ∨ (d.onTables && d.keepsFace) = true := by decide +kernel
  rcases t d hd with rfl | t
  · exact RoadKit.mvA hZ q
  · exact RoadKit.mv hZ q t
/-- WHAT COMES BACK, over the tables of the start Z: h the heap at the call, h' behind it -/
def Q (Z : State) (x : Addr) (A : Cell) (h : Heap) (v : Option Value) (h' : Heap) (L : List Loc) : Prop := v = none ∧ (∀ y ∈ L, y.base = x) ∧ RoadKit.Keep h h' [x] ∧ h'.size = h.size + 1 ∧ RoadKit.Exa Z h' x ST ∧ RoadKit.Fld Z h' x ST "value" "[B" (.ref h.size) ∧ RoadKit.Fld Z h' x ST "coder" "B" (.int 0) ∧
  (∃ V : Cell, RoadKit.Arr Z h' h.size V .byte ∧ V.vm = .none ∧ Z.vm.findClass "[B" = some V.cls ∧ V.slots.size = A.slots.size ∧ ∀ j, j < A.slots.size → V.slots[j]? = some (.int (lo8 (cv A j)))) ∧
  ∀ (O n d : String) (w : Value), RoadKit.Fld Z h x O n d w → RoadKit.slotOf Z O n d ≠ RoadKit.slotOf Z ST "value" "[B" → RoadKit.slotOf Z O n d ≠ RoadKit.slotOf Z ST "coder" "B" → RoadKit.Fld Z h' x O n d w
/-- **new String(chars) AT A CALL, IN THE ROAD'S FORM**: for specialBack behind newO: x the fresh String, b the char[] with the cell A -/
theorem back {p : Program} {l : Launch} {e : Env} {R : Room} {s : State} {args : Array Value} {below : List Frame} {len W : Nat} {Z : State} {a0 : Array Value} {h : Heap} (hZ : Z.Warmed39 s.vm) (hw : ∀ d ∈ words, d.before a0 Z = true) {kI : Nat} (wi : (Jvm.Cond.instantiable ST kI).before a0 Z = true)
    {x b : Addr} {A : Cell} {z : Int32} {v0 c0 : Value} (E : RoadKit.Exa Z h x ST) (V : RoadKit.Fld Z h x ST "value" "[B" v0) (C : RoadKit.Fld Z h x ST "coder" "B" c0) (K : RoadKit.Arr Z h b A .char) (hty : Typed .char A) (S : RoadKit.Sta Z h ST "COMPACT_STRINGS" "Z" (.int z)) (hz : ¬ z = 0)
    (l0 : 0 < A.slots.size) (l2 : A.slots.size ≤ 536870912) (hp : ∀ i, i < A.slots.size → ¬ 255 < cv A i) (hfr : 4 ≤ R.frames) (hlo : W + 65 ≤ R.locals) :
    Back l R p e below s args New1.yN len W (fun P a => a = #[.ref x, .ref b] ∧ P.U.heap = h ∧ P.cells + 1 ≤ R.cells ∧ P.slots + A.slots.size ≤ R.slots)
      (fun P _ v B => ∃ L, Q Z x A h v B.U.heap L ∧ B.locs = P.locs ++ L ∧ B.cells = P.cells + 1 ∧ B.slots = P.slots + A.slots.size) := by
  intro m meth c P g ig mk a X hg hsize hdg hW hn hp'
  obtain ⟨rfl, rfl, r1, r2⟩ := hp'
  have al : Z.vm.Alike P.U.vm := hZ.alike.trans X.warmed.alike
  obtain ⟨D, cfV, kV, iV, fV, hD, gV, stV, knV, obV, asV, slV⟩ := id V
  obtain ⟨D', cfC, kC, iC, fC, hD', gC, stC, -, -, asC, slC⟩ := id C
  cases hD.symm.trans hD'
  obtain ⟨D2, kD, e1, e2, e3, e4, e5⟩ := id E
  cases hD.symm.trans e1
  obtain ⟨c2, k2, i1, i2, i3, -⟩ := Cond.instantiable_spec wi
  cases e2.symm.trans i1
  cases e3.symm.trans i2
  obtain ⟨kU, u1, u2⟩ := al.2.2 _ _ e3
  have hB : Blank ST x D P.U := ⟨hD, ⟨knV, fun q hq => by rw [hq] at obV; cases obV⟩, by rw [al.findClass]; exact e2, kU, u1, by rw [u2]; exact i3, by rw [u2]; exact e5 i3⟩
  have F1 : Found ST "value" "[B" fV P.U := ⟨SBG.found_only al ⟨cfV, kV, iV, gV⟩, stV⟩
  have F2 : Found ST "coder" "B" fC P.U := ⟨SBG.found_only al ⟨cfC, kC, iC, gC⟩, stC⟩
  have hA : Ch b A P.U := ⟨⟨K.1, State.isArrayOf_alike al K.2.1, K.2.2, by omega⟩, hty⟩
  have hS : StaticIs P.U ST "COMPACT_STRINGS" "Z" (.int z) := by
    obtain ⟨cfS, iS, kS, fS, st, cS, t1, t2, t3, t4, t5, t6, t7⟩ := S
    exact StaticIs.there (s := { Z with heap := P.U.heap }) ⟨cfS, iS, kS, fS, st, cS, t1, t2, t3, t4, t5, (fun q => by rw [q] at t6; cases t6), t7⟩ al rfl
  obtain ⟨v, B, X', ⟨⟨hv, E', V', q1, q2, q3, q4, q5, q6, q7, q8, q9, q10, q11⟩, hl, hc, hs⟩, st⟩ := New1.pays x D fV fC b A z (tab_of (moved hZ hw)) hfr hlo m meth c P g ig mk _ X hg hsize hdg hW hn ⟨r1, r2, rfl, hB, F1, F2, hA, hS, hz, l0, l2, hp⟩
  have al' : Z.vm.Alike B.U.vm := hZ.alike.trans X'.warmed.alike
  have hsz : E'.slots.size = D.slots.size := by
    obtain ⟨-, -, -, kB, w1, w2, w3⟩ := q1
    obtain ⟨kB', y1, y2⟩ := al'.2.2 _ _ e3
    rw [q2.2.1] at w1
    cases w1.symm.trans y1
    rw [w3, e5 i3, y2]
  refine ⟨v, B, X', ⟨_, ⟨hv, ?_, ⟨by omega, fun y cy hy hn' => q10 y cy (by simpa using hn') hy, fun y cy hy => ?_⟩, q11, ⟨E', _, q1.1, by rw [q2.2.1]; exact e2, by rw [q2.2.1]; exact e3, by rw [q2.1]; exact obV, fun _ => by rw [hsz]; exact e5 i3⟩,
    ⟨E', cfV, kV, iV, fV, q1.1, gV, stV, by rw [q2.1]; exact knV, by rw [q2.1]; exact obV, by rw [q2.2.1]; exact asV, q3⟩, ⟨E', cfC, kC, iC, fC, q1.1, gC, stC, by rw [q2.1]; exact knV, by rw [q2.1]; exact obV, by rw [q2.2.1]; exact asC, q4⟩,
    ⟨V', ⟨q5.1, State.isArrayOf_alike al'.symm q5.2.1, q5.2.2.1⟩, q6, by rw [← al'.findClass]; exact q7, q8, fun j hj => by have := q9 j hj; rwa [Nat.zero_add] at this⟩, fun O n d w F n1 n2 => ?_⟩, hl, hc, hs⟩, st⟩
  · intro y hy
    simp only [List.mem_cons, List.not_mem_nil, or_false] at hy
    rcases hy with rfl | rfl <;> rfl
  · by_cases q : y = x
    · subst q
      cases hD.symm.trans hy
      exact ⟨E', q1.1, q2.2.1, q2.1, hsz⟩
    · exact ⟨cy, q10 y cy q hy, rfl, rfl, rfl⟩
  · obtain ⟨D3, cf, k, i, f, g1, g2, g3, g4, g5, g6, g7⟩ := F
    cases hD.symm.trans g1
    simp only [RoadKit.slotOf, g2, gV, gC, Option.map_some, Option.getD_some] at n1 n2
    exact ⟨E', cf, k, i, f, q1.1, g2, g3, by rw [q2.1]; exact g4, by rw [q2.1]; exact g5, by rw [q2.2.1]; exact g6, by rw [q2.2.2 f.slot (by simp [n1, n2])]; exact g7⟩
end StrChars.Road
namespace StrChars.Road
open Jvm Sem ClassFile Op Lib Jvm.Stand Jvm.Free Jvm.Free.XT
/-- WHAT COMES BACK, the byte[] as a list of values -/
def QA (Z : State) (x : Addr) (zn : Int32) (cs : List Int32) (h : Heap) (v : Option Value) (h' : Heap) (L : List Loc) : Prop := v = none ∧ (∀ y ∈ L, y.base = x) ∧ RoadKit.Keep h h' [x] ∧ h'.size = h.size + 1 ∧ RoadKit.Exa Z h' x ST ∧ RoadKit.Fld Z h' x ST "value" "[B" (.ref h.size) ∧ RoadKit.Fld Z h' x ST "coder" "B" (.int 0) ∧
  (∃ kb, Z.vm.findClass "[B" = some kb ∧ RoadKit.Arv Z h' h.size kb .byte zn (cs.map fun c => .int (lo8 c)) (.int 0)) ∧
  ∀ (O n d : String) (w : Value), RoadKit.Fld Z h x O n d w → RoadKit.slotOf Z O n d ≠ RoadKit.slotOf Z ST "value" "[B" → RoadKit.slotOf Z O n d ≠ RoadKit.slotOf Z ST "coder" "B" → RoadKit.Fld Z h' x O n d w
/-- **new String(chars) AT A CALL, THE ARRAYS AS LISTS**: the char[] at b holds cs, not empty, no char above 255 -/
theorem backArv {p : Program} {l : Launch} {e : Env} {R : Room} {s : State} {args : Array Value} {below : List Frame} {len W : Nat} {Z : State} {a0 : Array Value} {h : Heap} (hZ : Z.Warmed39 s.vm) (hw : ∀ d ∈ words, d.before a0 Z = true) {kI : Nat} (wi : (Jvm.Cond.instantiable ST kI).before a0 Z = true)
    {x b : Addr} {k : ClassId} {zn z : Int32} {cs : List Int32} {dv v0 c0 : Value} (E : RoadKit.Exa Z h x ST) (V : RoadKit.Fld Z h x ST "value" "[B" v0) (C : RoadKit.Fld Z h x ST "coder" "B" c0) (K : RoadKit.Arv Z h b k .char zn (cs.map Value.int) dv) (S : RoadKit.Sta Z h ST "COMPACT_STRINGS" "Z" (.int z)) (hz : ¬ z = 0)
    (hlen : zn.toNatClampNeg = cs.length) (h0 : 0 < cs.length) (hbig : cs.length ≤ 536870912) (hall : ∀ c ∈ cs, ¬ 255 < c) (hfr : 4 ≤ R.frames) (hlo : W + 65 ≤ R.locals) :
    Back l R p e below s args New1.yN len W (fun P a => a = #[.ref x, .ref b] ∧ P.U.heap = h ∧ P.cells + 1 ≤ R.cells ∧ P.slots + cs.length ≤ R.slots)
      (fun P _ v B => ∃ L, QA Z x zn cs h v B.U.heap L ∧ B.locs = P.locs ++ L ∧ B.cells = P.cells + 1 ∧ B.slots = P.slots + cs.length) := by
  obtain ⟨A, K1, K2, K3, K4, K5, K6⟩ := K
  have e : A.slots.size = cs.length := K3.trans hlen
  have hat : ∀ (i : Nat) (hi : i < cs.length), A.slots[i]? = some (.int cs[i]) := fun i hi => by rw [K5 i (by omega)]; simp [List.getD_eq_getElem?_getD, hi]
  have hcv : ∀ (i : Nat) (hi : i < cs.length), cv A i = cs[i] := fun i hi => by unfold cv; rw [hat i hi]
  have hty : Typed .char A := fun i v hv => by
    have hi : i < A.slots.size := (Array.getElem?_eq_some_iff.mp hv).1
    have q := K5 i hi
    rw [hv] at q
    rw [Option.some.inj q]
    exact K6 i hi
  refine Back.mono (back hZ hw wi E V C K1 hty S hz (by omega) (by omega) (fun i hi => by rw [hcv i (by omega)]; exact hall _ (List.getElem_mem _)) hfr hlo) (fun P a hp => ⟨hp.1, hp.2.1, hp.2.2.1, by rw [e]; exact hp.2.2.2⟩) (fun P a v B hp hq => ?_)
  obtain ⟨L, ⟨q1, q2, q3, q4, q5, q6, q7, ⟨V', v1, v2, v3, v4, v5⟩, q9⟩, hl, hc, hs⟩ := hq
  refine ⟨L, ⟨q1, q2, q3, q4, q5, q6, q7, ⟨V'.cls, v3, V', v1, rfl, by rw [v4, e, hlen], K4, fun i hi => ?_, fun i hi => ?_⟩, q9⟩, hl, hc, by rw [hs, e]⟩
  · have hi' : i < cs.length := by omega
    rw [v5 i (by omega), hcv i hi']; simp [List.getD_eq_getElem?_getD, hi']
  · have hi' : i < cs.length := by omega
    simp only [List.getD_eq_getElem?_getD, List.getElem?_map, List.getElem?_eq_getElem hi', Option.map_some, Option.getD_some]
    exact fits_lo8 _
end StrChars.Road
namespace StrChars.Road
open Jvm Sem ClassFile Op Lib Jvm.Stand Jvm.Free Jvm.Free.XT
/-- WHAT COMES BACK, in the writer's own shape -/
def QV (Z : State) (x : Addr) (N : Int32) (bs : List Int32) (h : Heap) (n0 : Nat) (v : Option Value) (h' : Heap) (L : List Loc) : Prop := v = none ∧ RoadKit.Fr n0 L ∧ RoadKit.Keep h h' [x] ∧ RoadKit.Exa Z h' x ST ∧ RoadKit.Fld Z h' x ST "coder" "B" (.int 0) ∧
  ∃ (t : Addr) (kb : ClassId), n0 ≤ t ∧ h.size ≤ t ∧ ¬ t = x ∧ RoadKit.Fld Z h' x ST "value" "[B" (.ref t) ∧ RoadKit.Arv Z h' t kb .byte N (bs.map Value.int) (.int 0)
/-- **new String(chars) AT A CALL, FOR THE WRITER**: a char[] of n known ints, each 0 to 255 -/
theorem backV {p : Program} {l : Launch} {e : Env} {R : Room} {s : State} {args : Array Value} {below : List Frame} {len W : Nat} {Z : State} {a0 : Array Value} {h : Heap} (hZ : Z.Warmed39 s.vm) (hw : ∀ d ∈ words, d.before a0 Z = true) {kI : Nat} (wi : (Jvm.Cond.instantiable ST kI).before a0 Z = true)
    {x b : Addr} {kC : ClassId} {cs bs : List Int32} {d v0 c0 : Value} {z N : Int32} {n n0 : Nat} (hx0 : n0 ≤ x) (hh0 : n0 ≤ h.size) (E : RoadKit.Exa Z h x ST) (V : RoadKit.Fld Z h x ST "value" "[B" v0) (C : RoadKit.Fld Z h x ST "coder" "B" c0) (K : RoadKit.Arv Z h b kC .char N (cs.map Value.int) d) (S : RoadKit.Sta Z h ST "COMPACT_STRINGS" "Z" (.int z)) (hz : ¬ z = 0)
    (hn : cs.length = n) (hN : N = Int32.ofNat n) (l0 : 0 < n) (l2 : n ≤ 4000) (hp : ∀ c ∈ cs, ¬ c < 0 ∧ ¬ (255 : Int32) < c) (hb : bs = cs.map (fun c => c.toInt8.toInt32)) (hfr : 4 ≤ R.frames) (hlo : W + 65 ≤ R.locals) :
    Back l R p e below s args (⟨"java/lang/String", "<init>", "([C)V"⟩ : MethodName) len W (fun P a => a = #[.ref x, .ref b] ∧ P.U.heap = h ∧ P.cells + 1 ≤ R.cells ∧ P.slots + n ≤ R.slots)
      (fun P _ v B => ∃ L, QV Z x N bs h n0 v B.U.heap L ∧ B.locs = P.locs ++ L ∧ B.cells = P.cells + 1 ∧ B.slots = P.slots + n) := by
  subst hn hN hb
  refine Back.mono (backArv hZ hw wi E V C K S hz (n32 (by omega)) l0 (by omega) (fun c hc => (hp c hc).2) hfr hlo) (fun P a hp => hp) (fun P a v B hp hq => ?_)
  obtain ⟨L, ⟨q1, q2, q3, q4, q5, q6, q7, ⟨kb, v1, v2⟩, q9⟩, hl, hc, hs⟩ := hq
  exact ⟨L, ⟨q1, fun y hy => by rw [q2 y hy]; exact hx0, q3, q5, q7, h.size, kb, hh0, Nat.le_refl _, Nat.ne_of_gt E.lt, q6, by rw [List.map_map]; exact v2⟩, hl, hc, hs⟩
end StrChars.Road
namespace StrChars
open Jvm Sem ClassFile Op Lib Jvm.Stand Jvm.Free.XT Jvm.Free.ALB Jvm.Free.JM Jvm.Free
open Jvm.Lib.Cold (StaticIs)
def hi8 (x : Int32) : Int32 := lo8 (x >>> ((8 : Int32) &&& 31))
/-- what StringUTF16.getChar makes of two bytes -/
def pairCh (u v : Int32) : Int32 := (((u &&& 255) <<< ((0 : Int32) &&& 31)) ||| ((v &&& 255) <<< ((8 : Int32) &&& 31))).toUInt32.toUInt16.toUInt32.toInt32
theorem shr0 (c : Int32) : c >>> ((0 : Int32) &&& 31) = c := by
  have e : ((0 : Int32) &&& 31) = 0 := by decide
  rw [e]
  apply Int32.toBitVec_inj.mp
  rw [Int32.toBitVec_shiftRight]
  have e1 : ((0 : Int32).toBitVec.smod 32) = 0#32 := by decide
  rw [e1, BitVec.sshiftRight_eq']
  exact BitVec.sshiftRight_zero
theorem lo8_and (x : Int32) : (lo8 x &&& 255).toBitVec.toNat = x.toBitVec.toNat % 256 := by
  have h : (lo8 x).toBitVec = (x.toBitVec.signExtend 8).signExtend 32 := by rw [lo8, Int8.toBitVec_toInt32, Int32.toBitVec_toInt8]
  rw [Int32.toBitVec_and, BitVec.toNat_and, h]
  have e : ((x.toBitVec.signExtend 8).signExtend 32).toNat % 256 = x.toBitVec.toNat % 256 := by
    rw [BitVec.toNat_signExtend]
    have hlt := x.toBitVec.isLt
    simp only [BitVec.toNat_setWidth, BitVec.toNat_signExtend]
    split <;> split <;> omega
  rw [← e]
  exact Nat.and_two_pow_sub_one_eq_mod _ 8
theorem pair_says {c : Int32} (h0 : ¬ c < 0) (h1 : ¬ 65535 < c) : pairCh (lo8 c) (hi8 c) = c := by
  rw [Int32.lt_iff_toInt_lt] at h0 h1
  have e0 : (0 : Int32).toInt = 0 := rfl
  have e1 : (65535 : Int32).toInt = 65535 := rfl
  have hc : c.toInt = c.toBitVec.toNat := by
    have := c.toBitVec.isLt
    have e : c.toInt = c.toBitVec.toInt := rfl
    rw [e] at h0 h1
    rw [e]
    rw [BitVec.toInt_eq_toNat_cond] at h0 h1 ⊢
    split at h0 <;> split <;> omega
  have hn : c.toBitVec.toNat < 65536 := by omega
  have a1 := lo8_and c
  have a2 : (hi8 c &&& 255).toBitVec.toNat = c.toBitVec.toNat / 256 := by
    rw [hi8, lo8_and]
    have e : ((8 : Int32) &&& 31) = 8 := by decide
    rw [e, Int32.toBitVec_shiftRight]
    have e2 : ((8 : Int32).toBitVec.smod 32) = 8#32 := by decide
    rw [e2, BitVec.sshiftRight_eq', BitVec.toNat_sshiftRight_of_msb_false (by rw [BitVec.msb_eq_false_iff_two_mul_lt]; omega)]
    show c.toBitVec.toNat >>> 8 % 256 = _
    rw [Nat.shiftRight_eq_div_pow]
    omega
  unfold pairCh
  apply Int32.toBitVec_inj.mp
  apply BitVec.eq_of_toNat_eq
  have f0 : ((0 : Int32) &&& 31) = 0 := by decide
  have f8 : ((8 : Int32) &&& 31) = 8 := by decide
  rw [f0, f8]
  have g : (((lo8 c &&& 255) <<< (0 : Int32)) ||| ((hi8 c &&& 255) <<< (8 : Int32))).toBitVec.toNat = c.toBitVec.toNat := by
    rw [Int32.toBitVec_or, Int32.toBitVec_shiftLeft, Int32.toBitVec_shiftLeft]
    have s0 : ((0 : Int32).toBitVec.smod 32) = 0#32 := by decide
    have s8 : ((8 : Int32).toBitVec.smod 32) = 8#32 := by decide
    rw [s0, s8, BitVec.toNat_or]
    simp only [BitVec.shiftLeft_eq', BitVec.toNat_shiftLeft, a1, a2]
    show (c.toBitVec.toNat % 256) <<< 0 % 2 ^ 32 ||| (c.toBitVec.toNat / 256) <<< 8 % 2 ^ 32 = _
    rw [Nat.shiftLeft_zero, Nat.mod_eq_of_lt (show c.toBitVec.toNat % 256 < 2 ^ 32 by omega), Nat.mod_eq_of_lt (show (c.toBitVec.toNat / 256) <<< 8 < 2 ^ 32 by rw [Nat.shiftLeft_eq]; omega), Nat.or_comm, ← Nat.shiftLeft_add_eq_or_of_lt (by omega), Nat.shiftLeft_eq]
    omega
  show BitVec.toNat (((((lo8 c &&& 255) <<< (0 : Int32)) ||| ((hi8 c &&& 255) <<< (8 : Int32))).toBitVec.setWidth 16).setWidth 32) = _
  rw [BitVec.toNat_setWidth, BitVec.toNat_setWidth, g]
  omega
end StrChars
namespace StrChars
open Jvm Sem ClassFile Op Lib Jvm.Stand Jvm.Free.XT Jvm.Free.ALB Jvm.Free.JM Jvm.Free
open Jvm.Lib.Cold (StaticIs)
theorem shr1 {n : Nat} (h : 2 * n < 2 ^ 31) : Int32.ofNat (2 * n) >>> ((1 : Int32) &&& 31) = Int32.ofNat n := by
  have e : ((1 : Int32) &&& 31) = 1 := by decide
  rw [e]
  apply Int32.toBitVec_inj.mp
  rw [Int32.toBitVec_shiftRight]
  have e1 : ((1 : Int32).toBitVec.smod 32) = 1#32 := by decide
  have hm : (BitVec.ofNat 32 (2 * n)).toNat = 2 * n := by rw [BitVec.toNat_ofNat, Nat.mod_eq_of_lt (by omega)]
  rw [e1, BitVec.sshiftRight_eq']
  apply BitVec.eq_of_toNat_eq
  show ((BitVec.ofNat 32 (2 * n)).sshiftRight 1).toNat = (BitVec.ofNat 32 n).toNat
  rw [BitVec.toNat_sshiftRight_of_msb_false (by rw [BitVec.msb_eq_false_iff_two_mul_lt, hm]; omega), hm, BitVec.toNat_ofNat, Nat.shiftRight_eq_div_pow]
  omega
/-- charAt's cast of a byte read back -/
def chr8 (u : Int32) : Int32 := (u &&& 255).toUInt32.toUInt16.toUInt32.toInt32
theorem chr8_lo8 {c : Int32} (h0 : ¬ c < 0) (h1 : ¬ 255 < c) : chr8 (lo8 c) = c := by
  have t : ∀ k : Fin 256, (Int32.ofNat k.val).toUInt32.toUInt16.toUInt32.toInt32 = Int32.ofNat k.val := by decide +kernel
  unfold chr8
  rw [lo8_mask h0 h1]
  rw [Int32.lt_iff_toInt_lt] at h0 h1
  have e0 : (0 : Int32).toInt = 0 := rfl
  have e1 : (255 : Int32).toInt = 255 := rfl
  obtain ⟨k, hk⟩ : ∃ k : Nat, c.toInt = k := ⟨c.toInt.toNat, by omega⟩
  have hx : c = Int32.ofNat k := Int32.toInt_inj.mp (by rw [hk, Int32.toInt_ofNat_small (by omega)])
  rw [hx]
  exact t ⟨k, by omega⟩
theorem narrow_ch {c : Int32} (h0 : ¬ c < 0) (h1 : ¬ 65535 < c) : narrow .char (.int c) = .int c := by
  have q : narrow .char (.int (pairCh (lo8 c) (hi8 c))) = .int (pairCh (lo8 c) (hi8 c)) := narrow_c _
  rwa [pair_says h0 h1] at q
/-- the array's cell V codes the n chars f 0 .. f (n - 1) by the coder cd, as the JDK does: coder 1 just where some char is above 255 -/
def Cod (cd : Int32) (n : Nat) (f : Nat → Int32) (V : Cell) : Prop := (cd = 0 ∧ V.slots.size = n ∧ ∀ j, j < n → V.slots[j]? = some (.int (lo8 (f j))) ∧ ¬ 255 < f j) ∨ (cd = 1 ∧ V.slots.size = 2 * n ∧ (∀ j, j < n → V.slots[2 * j]? = some (.int (lo8 (f j))) ∧ V.slots[2 * j + 1]? = some (.int (hi8 (f j)))) ∧ ∃ j, j < n ∧ 255 < f j)
theorem Cod.cd {cd : Int32} {n : Nat} {f : Nat → Int32} {V : Cell} (h : Cod cd n f V) : cd = 0 ∨ cd = 1 := h.imp (fun q => q.1) fun q => q.1
theorem Cod.len {cd : Int32} {n : Nat} {f : Nat → Int32} {V : Cell} (h : Cod cd n f V) (hs : V.slots.size < 2 ^ 31) : Int32.ofNat V.slots.size >>> (cd &&& 31) = Int32.ofNat n := by
  rcases h with ⟨rfl, h, -⟩ | ⟨rfl, h, -⟩
  · rw [shr0, h]
  · rw [h, shr1 (by omega)]
/-- **x is a String of the n chars f 0 .. f (n - 1)**, Latin-1 or UTF-16; its array at t has the cell V -/
def Txt (x t : Addr) (V : Cell) (cd : Int32) (n : Nat) (f : Nat → Int32) (U : State) : Prop := Exact "java/lang/String" x U ∧ Has x "java/lang/String" "value" "[B" (.ref t) U ∧ Has x "java/lang/String" "coder" "B" (.int cd) U ∧ XT.Arr .byte t V U ∧ Cod cd n f V ∧ ∀ j, j < n → ¬ f j < 0 ∧ ¬ 65535 < f j
theorem Txt.mv {x t : Addr} {V : Cell} {cd : Int32} {n : Nat} {f : Nat → Int32} {U U' : State} (h : Txt x t V cd n f U) (hal : U.vm.Alike U'.vm) (hh : U'.heap = U.heap) : Txt x t V cd n f U' := ⟨h.1.mv hal hh, h.2.1.mv hal hh, h.2.2.1.mv hal hh, h.2.2.2.1.mv hal hh, h.2.2.2.2⟩
namespace Cdr
def yN : MethodName := ⟨"java/lang/String", "coder", "()B"⟩
abbrev yB : ByteArray := jdk_42_method_152_code
theorem d0 : decode yB 0 = .ok (.getstatic 38, 3) := by decide +kernel
theorem d3 : decode yB 3 = .ok (.ifCond (.eq) 10, 3) := by decide +kernel
theorem d6 : decode yB 6 = .ok (.aload_n 0, 1) := by decide +kernel
theorem d7 : decode yB 7 = .ok (.getfield 15, 3) := by decide +kernel
theorem d10 : decode yB 10 = .ok (.goto 4, 3) := by decide +kernel
theorem d14 : decode yB 14 = .ok (.ireturn, 1) := by decide +kernel
def site : List Cond := [.fieldLink "java/lang/String" 38 "java/lang/String" "COMPACT_STRINGS" "Z", .fieldLink "java/lang/String" 15 "java/lang/String" "coder" "B"]
def tab : Cond := tabOf yN yB 1 (some .byte) site
def P (x : Addr) (cd z : Int32) (args : Array Value) (s : State) : Prop := args = #[.ref x] ∧ Has x "java/lang/String" "coder" "B" (.int cd) s ∧ (cd = 0 ∨ cd = 1) ∧ StaticIs s "java/lang/String" "COMPACT_STRINGS" "Z" (.int z) ∧ ¬ z = 0
def E (cd : Int32) (r : Option Value) (s u : State) : Prop := XT.PureE (some (.int cd)) r s u
theorem law (l : Launch) (x : Addr) (cd z : Int32) : Law l yN 1 0 0 0 yB 1 (some .byte) site (P x cd z) (E cd) [] 0 0 := by
  refine Law.of_walk (plainFor_of_name (by decide +kernel)) (by decide +kernel) (by decide +kernel) (by decide) (fun _ _ h => by rw [h.1]; rfl) (fun _ U U' hal hh h => ⟨h.1, h.2.1.mv hal hh, h.2.2.1, h.2.2.2.1.there hal hh, h.2.2.2.2⟩) (fun r U U' V V' h1 hal h2 h => XT.PureE.mv r U U' V V' h1 hal h2 h) ?_
  intro p e s m args below meth c s₁ X0 hexec hbytes hml hret hlk hnm hown hh0 W hP
  obtain ⟨rfl, hx, hc, s1, hz⟩ := hP
  have c1 : Steps p.tables e below (s₁.setTop (entryFrame m #[.ref x] 1)) (s₁.setTop (mkF m 0 #[.val (.ref x)] [])) := entry rfl
  obtain ⟨T2, X2, q2, st2⟩ := X0.sget hexec hown (wk W (.fieldLink "java/lang/String" 38 "java/lang/String" "COMPACT_STRINGS" "Z")) s1 (fun _ _ h => by rw [hh0]; exact h) (g := (mkF m 0 #[.val (.ref x)] [])) rfl (hb hbytes d0)
  have hh2 := q2.trans hh0
  have c3 : Steps p.tables e below (s₁.setTop (entryFrame m #[.ref x] 1)) (T2.setTop (mkF m 7 #[.val (.ref x)] [.ref x])) := (c1.trans (st2 _ (Steps.refl _))).trans (by
    refine XS.ifNo X2.here hexec rfl (hb hbytes d3) rfl (i0_eq_f hz) ?_
    refine XS.aloadN X2.here hexec rfl (hb hbytes d6) rfl rfl ?_
    exact Steps.refl _)
  obtain ⟨T4, X4, q4, st4⟩ := X2.hget hexec hown (wk W (.fieldLink "java/lang/String" 15 "java/lang/String" "coder" "B")) (hx.mv X2.warmed.alike hh2) (g := (mkF m 7 #[.val (.ref x)] [.ref x])) rfl (rest := []) rfl (hb hbytes d7)
  have c5 : Steps p.tables e below (s₁.setTop (entryFrame m #[.ref x] 1)) (T4.setTop (mkF m 14 #[.val (.ref x)] [.int cd])) := (c3.trans (st4 _ (Steps.refl _))).trans (by
    refine XS.goto X4.here hexec rfl (pc0 := 10) rfl (hb hbytes d10) (by decide) rfl ?_
    exact Steps.refl _)
  exact ⟨T4, some (.int cd), _, _, _, X4, rfl, rfl, rfl, (fun h => by cases h), ⟨rfl, q4.trans hh2⟩, fun fs hl => c5.trans (X4.ireturnOut hexec hret (by rcases hc with rfl | rfl <;> rfl) (Or.inr (Or.inr (Or.inl rfl))) (hb hbytes d14) hl)⟩
end Cdr
namespace Len
def yN : MethodName := ⟨"java/lang/String", "length", "()I"⟩
abbrev yB : ByteArray := jdk_42_method_54_code
theorem d0 : decode yB 0 = .ok (.aload_n 0, 1) := by decide +kernel
theorem d1 : decode yB 1 = .ok (.getfield 9, 3) := by decide +kernel
theorem d4 : decode yB 4 = .ok (.arraylength, 1) := by decide +kernel
theorem d5 : decode yB 5 = .ok (.aload_n 0, 1) := by decide +kernel
theorem d6 : decode yB 6 = .ok (.invokevirtual 335, 3) := by decide +kernel
theorem d9 : decode yB 9 = .ok (.ishr, 1) := by decide +kernel
theorem d10 : decode yB 10 = .ok (.ireturn, 1) := by decide +kernel
def site : List Cond := [.fieldLink "java/lang/String" 9 "java/lang/String" "value" "[B", Cdr.tab] ++ virtW "java/lang/String" 335 "java/lang/String" Cdr.yN Cdr.yN
def tab : Cond := tabOf yN yB 1 (some .int) site
def P (x t : Addr) (V : Cell) (cd : Int32) (n : Nat) (f : Nat → Int32) (z : Int32) (args : Array Value) (s : State) : Prop := args = #[.ref x] ∧ Txt x t V cd n f s ∧ StaticIs s "java/lang/String" "COMPACT_STRINGS" "Z" (.int z) ∧ ¬ z = 0
def E (n : Nat) (r : Option Value) (s u : State) : Prop := XT.PureE (some (.int (Int32.ofNat n))) r s u
/-- length() of a String of n chars, in either coding -/
theorem law (l : Launch) (x t : Addr) (V : Cell) (cd : Int32) (n : Nat) (f : Nat → Int32) (z : Int32) : Law l yN 1 0 1 13 yB 1 (some .int) site (P x t V cd n f z) (E n) [] 0 0 := by
  refine Law.of_walk (plainFor_of_name (by decide +kernel)) (by decide +kernel) (by decide +kernel) (by decide) (fun _ _ h => by rw [h.1]; rfl) (fun _ U U' hal hh h => ⟨h.1, h.2.1.mv hal hh, h.2.2.1.there hal hh, h.2.2.2⟩) (fun r U U' V V' h1 hal h2 h => XT.PureE.mv r U U' V V' h1 hal h2 h) ?_
  intro p e s m args below meth c s₁ X0 hexec hbytes hml hret hlk hnm hown hh0 W hP
  obtain ⟨rfl, hx, s1, hz⟩ := hP
  have v31 := hx.2.2.2.1.2.2.2
  have c1 : Steps p.tables e below (s₁.setTop (entryFrame m #[.ref x] 1)) (s₁.setTop (mkF m 1 #[.val (.ref x)] [.ref x])) := Steps.trans (entry rfl) (by
    show Steps p.tables e below (s₁.setTop (mkF m 0 #[.val (.ref x)] [])) _
    refine XS.aloadN X0.here hexec rfl (hb hbytes d0) rfl rfl ?_
    exact Steps.refl _)
  obtain ⟨T2, X2, q2, st2⟩ := X0.hget hexec hown (wk W (.fieldLink "java/lang/String" 9 "java/lang/String" "value" "[B")) (hx.mv X0.warmed.alike hh0).2.1 (g := (mkF m 1 #[.val (.ref x)] [.ref x])) rfl (rest := []) rfl (hb hbytes d1)
  have hh2 := q2.trans hh0
  have hx2 := hx.mv X2.warmed.alike hh2
  have c3 : Steps p.tables e below (s₁.setTop (entryFrame m #[.ref x] 1)) (T2.setTop (mkF m 6 #[.val (.ref x)] [.ref x, .int (Int32.ofNat V.slots.size)])) := (c1.trans (st2 _ (Steps.refl _))).trans (by
    refine X2.alen hexec hx2.2.2.2.1 rfl rfl (hb hbytes d4) ?_
    refine XS.aloadN X2.here hexec rfl (hb hbytes d5) rfl rfl ?_
    exact Steps.refl _)
  obtain ⟨v4, T4, X4, E4, g4⟩ := X2.callV hexec (Cdr.law l x cd z) hown (wks W (virtW "java/lang/String" 335 "java/lang/String" Cdr.yN Cdr.yN)) rfl (by decide) (wk W Cdr.tab) (W := 1) (Nat.le_of_ble_eq_true rfl) (Nat.le_of_ble_eq_true rfl) (Nat.le_refl _) (Nat.le_refl _) (hx2.1.fc X2.warmed.alike) hx2.1.is (g := (mkF m 6 #[.val (.ref x)] [.ref x, .int (Int32.ofNat V.slots.size)])) rfl (by rw [hml]; rfl) c3 (argsL := []) (rest := [.int (Int32.ofNat V.slots.size)]) rfl rfl (by show 2 * 0 + (1 + 0) ≤ _; decide) (hb hbytes d6) (⟨rfl, hx2.2.2.1, hx.2.2.2.2.1.cd, s1.there X2.warmed.alike hh2, hz⟩)
  obtain ⟨rfl, q4⟩ := E4
  have c5 : Steps p.tables e below (s₁.setTop (entryFrame m #[.ref x] 1)) (T4.setTop (mkF m 10 #[.val (.ref x)] [.int (Int32.ofNat V.slots.size >>> (cd &&& 31))])) := Steps.trans g4 (by
    refine ishr X4.here hexec rfl (hb hbytes d9) rfl ?_
    exact Steps.refl _)
  rw [hx.2.2.2.2.1.len v31] at c5
  exact ⟨T4, some (.int (Int32.ofNat n)), _, _, _, X4, rfl, rfl, rfl, (fun h => by cases h), ⟨rfl, q4.trans hh2⟩, fun fs hl => c5.trans (X4.ireturnOut hexec hret rfl (Or.inl rfl) (hb hbytes d10) hl)⟩
theorem pays {l : Launch} {R : Room} {p : Program} {e : Env} {below : List Frame} {s : State} {sargs : Array Value} {len W : Nat} (x t : Addr) (V : Cell) (cd : Int32) (n : Nat) (f : Nat → Int32) (z : Int32) (htab : tab.before sargs s = true) (hfr : 2 ≤ R.frames) (hlo : W + 25 ≤ R.locals) :
    Back l R p e below s sargs yN len W (fun A₁ a₁ => A₁.cells + 0 ≤ R.cells ∧ A₁.slots + 0 ≤ R.slots ∧ P x t V cd n f z a₁ A₁.U) (fun A₁ _ v₁ B₁ => E n v₁ A₁.U B₁.U ∧ B₁.locs = A₁.locs ++ [] ∧ B₁.cells = A₁.cells + 0 ∧ B₁.slots = A₁.slots + 0) :=
  (law l x t V cd n f z).pays htab hfr (by omega)
end Len
namespace IsL
def yN : MethodName := ⟨"java/lang/String", "isLatin1", "()Z"⟩
abbrev yB : ByteArray := jdk_42_method_154_code
theorem d0 : decode yB 0 = .ok (.getstatic 38, 3) := by decide +kernel
theorem d3 : decode yB 3 = .ok (.ifCond (.eq) 14, 3) := by decide +kernel
theorem d6 : decode yB 6 = .ok (.aload_n 0, 1) := by decide +kernel
theorem d7 : decode yB 7 = .ok (.getfield 15, 3) := by decide +kernel
theorem d10 : decode yB 10 = .ok (.ifCond (.ne) 7, 3) := by decide +kernel
theorem d13 : decode yB 13 = .ok (.iconst 1, 1) := by decide +kernel
theorem d14 : decode yB 14 = .ok (.goto 4, 3) := by decide +kernel
theorem d17 : decode yB 17 = .ok (.iconst 0, 1) := by decide +kernel
theorem d18 : decode yB 18 = .ok (.ireturn, 1) := by decide +kernel
def site : List Cond := [.fieldLink "java/lang/String" 38 "java/lang/String" "COMPACT_STRINGS" "Z", .fieldLink "java/lang/String" 15 "java/lang/String" "coder" "B"]
def tab : Cond := tabOf yN yB 1 (some .boolean) site
def P (x : Addr) (cd z : Int32) (args : Array Value) (s : State) : Prop := args = #[.ref x] ∧ Has x "java/lang/String" "coder" "B" (.int cd) s ∧ (cd = 0 ∨ cd = 1) ∧ StaticIs s "java/lang/String" "COMPACT_STRINGS" "Z" (.int z) ∧ ¬ z = 0
def E (cd : Int32) (r : Option Value) (s u : State) : Prop := XT.PureE (some (.int (1 - cd))) r s u
theorem law (l : Launch) (x : Addr) (cd z : Int32) : Law l yN 1 0 0 0 yB 1 (some .boolean) site (P x cd z) (E cd) [] 0 0 := by
  refine Law.of_walk (plainFor_of_name (by decide +kernel)) (by decide +kernel) (by decide +kernel) (by decide) (fun _ _ h => by rw [h.1]; rfl) (fun _ U U' hal hh h => ⟨h.1, h.2.1.mv hal hh, h.2.2.1, h.2.2.2.1.there hal hh, h.2.2.2.2⟩) (fun r U U' V V' h1 hal h2 h => XT.PureE.mv r U U' V V' h1 hal h2 h) ?_
  intro p e s m args below meth c s₁ X0 hexec hbytes hml hret hlk hnm hown hh0 W hP
  obtain ⟨rfl, hx, hc, s1, hz⟩ := hP
  have c1 : Steps p.tables e below (s₁.setTop (entryFrame m #[.ref x] 1)) (s₁.setTop (mkF m 0 #[.val (.ref x)] [])) := entry rfl
  obtain ⟨T2, X2, q2, st2⟩ := X0.sget hexec hown (wk W (.fieldLink "java/lang/String" 38 "java/lang/String" "COMPACT_STRINGS" "Z")) s1 (fun _ _ h => by rw [hh0]; exact h) (g := (mkF m 0 #[.val (.ref x)] [])) rfl (hb hbytes d0)
  have hh2 := q2.trans hh0
  have c3 : Steps p.tables e below (s₁.setTop (entryFrame m #[.ref x] 1)) (T2.setTop (mkF m 7 #[.val (.ref x)] [.ref x])) := (c1.trans (st2 _ (Steps.refl _))).trans (by
    refine XS.ifNo X2.here hexec rfl (hb hbytes d3) rfl (i0_eq_f hz) ?_
    refine XS.aloadN X2.here hexec rfl (hb hbytes d6) rfl rfl ?_
    exact Steps.refl _)
  obtain ⟨T4, X4, q4, st4⟩ := X2.hget hexec hown (wk W (.fieldLink "java/lang/String" 15 "java/lang/String" "coder" "B")) (hx.mv X2.warmed.alike hh2) (g := (mkF m 7 #[.val (.ref x)] [.ref x])) rfl (rest := []) rfl (hb hbytes d7)
  have c5 : Steps p.tables e below (s₁.setTop (entryFrame m #[.ref x] 1)) (T4.setTop (mkF m 10 #[.val (.ref x)] [.int cd])) := c3.trans (st4 _ (Steps.refl _))
  have c6 : Steps p.tables e below (s₁.setTop (entryFrame m #[.ref x] 1)) (T4.setTop (mkF m 18 #[.val (.ref x)] [.int (1 - cd)])) := by
    rcases hc with rfl | rfl
    · exact c5.trans (by
        refine XS.ifNo X4.here hexec rfl (hb hbytes d10) rfl (i0_ne_f rfl) ?_
        refine iconstV X4.here hexec rfl 1 (hb hbytes d13) (by decide) ?_
        refine XS.goto X4.here hexec rfl (pc0 := 14) rfl (hb hbytes d14) (by decide) rfl ?_
        exact Steps.refl _)
    · exact c5.trans (by
        refine XS.ifYes X4.here hexec rfl (pc0 := 10) rfl (hb hbytes d10) rfl (i0_ne_t (by decide)) (by decide) rfl ?_
        refine iconstV X4.here hexec rfl 0 (hb hbytes d17) (by decide) ?_
        exact Steps.refl _)
  exact ⟨T4, some (.int (1 - cd)), _, _, _, X4, rfl, rfl, rfl, (fun h => by cases h), ⟨rfl, q4.trans hh2⟩, fun fs hl => c6.trans (X4.ireturnOut hexec hret (by rcases hc with rfl | rfl <;> rfl) (Or.inr (Or.inl rfl)) (hb hbytes d18) hl)⟩
end IsL
namespace LChA
def yN : MethodName := ⟨"java/lang/StringLatin1", "charAt", "([BI)C"⟩
abbrev yB : ByteArray := jdk_43_method_2_code
theorem d0 : decode yB 0 = .ok (.iload_n 1, 1) := by decide +kernel
theorem d1 : decode yB 1 = .ok (.aload_n 0, 1) := by decide +kernel
theorem d2 : decode yB 2 = .ok (.arraylength, 1) := by decide +kernel
theorem d3 : decode yB 3 = .ok (.invokestatic 9, 3) := by decide +kernel
theorem d6 : decode yB 6 = .ok (.aload_n 0, 1) := by decide +kernel
theorem d7 : decode yB 7 = .ok (.iload_n 1, 1) := by decide +kernel
theorem d8 : decode yB 8 = .ok (.baload, 1) := by decide +kernel
theorem d9 : decode yB 9 = .ok (.sipush 255, 3) := by decide +kernel
theorem d12 : decode yB 12 = .ok (.iand, 1) := by decide +kernel
theorem d13 : decode yB 13 = .ok (.i2c, 1) := by decide +kernel
theorem d14 : decode yB 14 = .ok (.ireturn, 1) := by decide +kernel
def site : List Cond := [JO.Str_checkIndex.tab] ++ staticW "java/lang/StringLatin1" 9 JO.Str_checkIndex.yN
def tab : Cond := tabOf yN yB 2 (some .char) site
def P (t : Addr) (V : Cell) (i : Nat) (u : Int32) (fm : Value) (args : Array Value) (s : State) : Prop := args = #[.ref t, .int (Int32.ofNat i)] ∧ XT.Arr .byte t V s ∧ V.slots[i]? = some (.int u) ∧ (StaticIs s "jdk/internal/util/Preconditions" "SIOOBE_FORMATTER" "Ljava/util/function/BiFunction;" fm ∧ fm.isRef = true)
def E (u : Int32) (r : Option Value) (s w : State) : Prop := XT.PureE (some (.int (chr8 u))) r s w
theorem law (l : Launch) (t : Addr) (V : Cell) (i : Nat) (u : Int32) (fm : Value) : Law l yN 2 2 2 27 yB 2 (some .char) site (P t V i u fm) (E u) [] 0 0 := by
  refine Law.of_walk (plainFor_of_name (by decide +kernel)) (by decide +kernel) (by decide +kernel) (by decide) (fun _ _ h => by rw [h.1]; rfl) (fun _ U U' hal hh h => ⟨h.1, h.2.1.mv hal hh, h.2.2.1, h.2.2.2.1.there hal hh, h.2.2.2.2⟩) (fun r U U' V V' h1 hal h2 h => XT.PureE.mv r U U' V V' h1 hal h2 h) ?_
  intro p e s m args below meth c s₁ X0 hexec hbytes hml hret hlk hnm hown hh0 W hP
  obtain ⟨rfl, hV, hu, s1, rf⟩ := hP
  have v31 := hV.2.2.2
  have hi : i < V.slots.size := (Array.getElem?_eq_some_iff.mp hu).1
  have c1 : Steps p.tables e below (s₁.setTop (entryFrame m #[.ref t, .int (Int32.ofNat i)] 2)) (s₁.setTop (mkF m 0 #[.val (.ref t), .val (.int (Int32.ofNat i))] [])) := entry rfl
  have c2 : Steps p.tables e below (s₁.setTop (entryFrame m #[.ref t, .int (Int32.ofNat i)] 2)) (s₁.setTop (mkF m 3 #[.val (.ref t), .val (.int (Int32.ofNat i))] [.int (Int32.ofNat V.slots.size), .int (Int32.ofNat i)])) := c1.trans (by
    refine XS.iloadN X0.here hexec rfl (hb hbytes d0) rfl ?_
    refine XS.aloadN X0.here hexec rfl (hb hbytes d1) rfl rfl ?_
    refine X0.alen hexec (hV.mv X0.warmed.alike hh0) rfl rfl (hb hbytes d2) ?_
    exact Steps.refl _)
  obtain ⟨v3, T3, X3, E3, g3⟩ := X0.callS hexec (JO.Str_checkIndex.law l (Int32.ofNat i) (Int32.ofNat V.slots.size) fm) hown (wks W (staticW "java/lang/StringLatin1" 9 JO.Str_checkIndex.yN)) (wk W JO.Str_checkIndex.tab) (W := 0) (Nat.le_of_ble_eq_true rfl) (Nat.le_of_ble_eq_true rfl) (Nat.le_refl _) (Nat.le_refl _) (g := (mkF m 3 #[.val (.ref t), .val (.int (Int32.ofNat i))] [.int (Int32.ofNat V.slots.size), .int (Int32.ofNat i)])) rfl (by rw [hml]; rfl) c2 (argsL := [.int (Int32.ofNat i), .int (Int32.ofNat V.slots.size)]) (rest := []) rfl rfl (by show 2 * 0 + 0 ≤ _; decide) (hb hbytes d3) (⟨rfl, rf, s1.there X0.warmed.alike hh0, Int32.ofNat_not_neg (by omega), lt32 v31 hi⟩)
  obtain ⟨rfl, q3⟩ := E3
  have hh3 := q3.trans hh0
  have c4 : Steps p.tables e below (s₁.setTop (entryFrame m #[.ref t, .int (Int32.ofNat i)] 2)) (T3.setTop (mkF m 14 #[.val (.ref t), .val (.int (Int32.ofNat i))] [.int (chr8 u)])) := Steps.trans g3 (by
    refine XS.aloadN X3.here hexec rfl (hb hbytes d6) rfl rfl ?_
    refine XS.iloadN X3.here hexec rfl (hb hbytes d7) rfl ?_
    refine X3.aget hexec (hV.mv X3.warmed.alike hh3) rfl hu rfl rfl (hb hbytes d8) ?_
    refine sipushV X3.here hexec rfl 255 (hb hbytes d9) (by decide) ?_
    refine XS.iand X3.here hexec rfl (hb hbytes d12) rfl ?_
    refine i2c X3.here hexec rfl (hb hbytes d13) rfl ?_
    exact Steps.refl _)
  exact ⟨T3, some (.int (chr8 u)), _, _, _, X3, rfl, rfl, rfl, (fun h => by cases h), ⟨rfl, hh3⟩, fun fs hl => c4.trans (X3.ireturnOut hexec hret (narrow_c _) (Or.inr (Or.inr (Or.inr (Or.inl rfl)))) (hb hbytes d14) hl)⟩
end LChA
end StrChars
namespace StrChars.Road
open Jvm Sem ClassFile Op Lib Jvm.Stand Jvm.Free Jvm.Free.XT
open Jvm.Lib.Cold (StaticIs)
theorem consq {a : Array Value} {s : State} {c : Jvm.Cond} {L : List Jvm.Cond} (h0 : c.before a s = true) (h : ∀ w ∈ L, w.before a s = true) : ∀ w ∈ c :: L, w.before a s = true := fun w hw => (List.mem_cons.mp hw).elim (fun e => e ▸ h0) (h w)
/-- the words of String.length(), either coding -/
abbrev wordsLen : List Jvm.Cond := [.code Len.yN Len.yB 1 (some .int), .initialized ST, .fieldLink ST 9 ST "value" "[B", .fieldLink ST 38 ST "COMPACT_STRINGS" "Z", .fieldLink ST 15 ST "coder" "B", .code Cdr.yN Cdr.yB 1 (some .byte), .methodLink ST 335 Cdr.yN, .declares Cdr.yN, .selects ST Cdr.yN Cdr.yN, .instanceMethod Cdr.yN]
theorem tabLen_of {a : Array Value} {s : State} (h : ∀ w ∈ wordsLen, w.before a s = true) : Len.tab.before a s = true := by
  have hc : Cdr.tab.before a s = true := unparts (wk h (.code Cdr.yN Cdr.yB 1 (some .byte))) (wks h (.initialized Cdr.yN.cls :: Cdr.site))
  have q := consq hc h
  exact unparts (wk q (.code Len.yN Len.yB 1 (some .int))) (wks q (.initialized Len.yN.cls :: Len.site))
theorem movedLen {Z s : State} {a0 args : Array Value} (hZ : Z.Warmed39 s.vm) (hw : ∀ d ∈ wordsLen, d.before a0 Z = true) : ∀ d ∈ wordsLen, d.before args s = true := fun d hd => by
  have q := hw d hd
  have t : ∀ d ∈ wordsLen, d = .arrayClass .byte ∨ (d.onTables && d.keepsFace) = true := by decide +kernel
  rcases t d hd with rfl | t
  · exact RoadKit.mvA hZ q
  · exact RoadKit.mv hZ q t
/-- the bytes of the chars cs, low before high -/
def wideBytes : List Int32 → List Value
  | [] => []
  | c :: cs => .int (lo8 c) :: .int (hi8 c) :: wideBytes cs
theorem wide_lo (d : Value) : ∀ (cs : List Int32) (j : Nat), j < cs.length → (wideBytes cs).getD (2 * j) d = .int (lo8 (cs.getD j 0))
  | [], j, h => absurd h (Nat.not_lt_zero j)
  | c :: cs, 0, _ => rfl
  | c :: cs, j + 1, h => by
    have q := wide_lo d cs j (by simpa using h)
    rw [show 2 * (j + 1) = 2 * j + 1 + 1 from by omega]
    simpa [wideBytes] using q
theorem wide_hi (d : Value) : ∀ (cs : List Int32) (j : Nat), j < cs.length → (wideBytes cs).getD (2 * j + 1) d = .int (hi8 (cs.getD j 0))
  | [], j, h => absurd h (Nat.not_lt_zero j)
  | c :: cs, 0, _ => rfl
  | c :: cs, j + 1, h => by
    have q := wide_hi d cs j (by simpa using h)
    rw [show 2 * (j + 1) + 1 = 2 * j + 1 + 1 + 1 from by omega]
    simpa [wideBytes] using q
theorem low_at (d : Value) (cs : List Int32) (j : Nat) (h : j < cs.length) : (cs.map fun c => Value.int (lo8 c)).getD j d = .int (lo8 (cs.getD j 0)) := by
  simp [List.getD_eq_getElem?_getD, h]
/-- an array of N2 bytes vs codes the chars cs by the coder cd -/
def CodA (cs : List Int32) (cd N2 : Int32) (vs : List Value) : Prop := (cd = 0 ∧ N2 = Int32.ofNat cs.length ∧ vs = (cs.map fun c => Value.int (lo8 c)) ∧ ∀ c ∈ cs, ¬ 255 < c) ∨ (cd = 1 ∧ N2 = Int32.ofNat (2 * cs.length) ∧ vs = wideBytes cs ∧ ∃ c ∈ cs, 255 < c)
theorem CodA.cod {cs : List Int32} {cd N2 : Int32} {vs : List Value} {V : Cell} (h : CodA cs cd N2 vs) (hn : 2 * cs.length < 2 ^ 31) (hs : V.slots.size = N2.toNatClampNeg) (hv : RoadKit.Has V vs (.int 0)) : Cod cd cs.length (fun j => cs.getD j 0) V := by
  rcases h with ⟨rfl, rfl, rfl, h⟩ | ⟨rfl, rfl, rfl, c, hc, hw⟩
  · rw [n32 (by omega)] at hs
    exact Or.inl ⟨rfl, hs, fun j hj => ⟨by rw [hv j (by omega), low_at _ _ _ hj], by
      have e : cs.getD j 0 = cs[j] := by simp [List.getD_eq_getElem?_getD, hj]
      show ¬ 255 < cs.getD j 0
      rw [e]; exact h _ (List.getElem_mem _)⟩⟩
  · rw [n32 (by omega)] at hs
    obtain ⟨j, hj, rfl⟩ := List.getElem_of_mem hc
    exact Or.inr ⟨rfl, hs, fun j hj => ⟨by rw [hv _ (by omega), wide_lo _ _ _ hj], by rw [hv _ (by omega), wide_hi _ _ _ hj]⟩, j, hj, by
      have e : cs.getD j 0 = cs[j] := by simp [List.getD_eq_getElem?_getD, hj]
      show 255 < cs.getD j 0
      rw [e]; exact hw⟩
/-- an object of exactly java/lang/String, its two fields found: as the laws ask it -/
theorem strObj {Z U : State} {a0 : Array Value} {kI : Nat} (wi : (Jvm.Cond.instantiable ST kI).before a0 Z = true) (al : Z.vm.Alike U.vm) {x : Addr} {v0 c0 : Value} (E : RoadKit.Exa Z U.heap x ST) (V : RoadKit.Fld Z U.heap x ST "value" "[B" v0) (C : RoadKit.Fld Z U.heap x ST "coder" "B" c0) :
    ∃ (D : Cell) (fV fC : Field), Blank ST x D U ∧ Found ST "value" "[B" fV U ∧ Found ST "coder" "B" fC U ∧ D.slots[fV.slot]? = some v0 ∧ D.slots[fC.slot]? = some c0 ∧ RoadKit.slotOf Z ST "value" "[B" = fV.slot ∧ RoadKit.slotOf Z ST "coder" "B" = fC.slot := by
  obtain ⟨D, cfV, kV, iV, fV, hD, gV, stV, knV, obV, asV, slV⟩ := V
  obtain ⟨D', cfC, kC, iC, fC, hD', gC, stC, -, -, asC, slC⟩ := C
  cases hD.symm.trans hD'
  obtain ⟨D2, kD, e1, e2, e3, e4, e5⟩ := E
  cases hD.symm.trans e1
  obtain ⟨c2, k2, i1, i2, i3, -⟩ := Cond.instantiable_spec wi
  cases e2.symm.trans i1
  cases e3.symm.trans i2
  obtain ⟨kU, u1, u2⟩ := al.2.2 _ _ e3
  exact ⟨D, fV, fC, ⟨hD, ⟨knV, fun q hq => by rw [hq] at obV; cases obV⟩, by rw [al.findClass]; exact e2, kU, u1, by rw [u2]; exact i3, by rw [u2]; exact e5 i3⟩, ⟨SBG.found_only al ⟨cfV, kV, iV, gV⟩, stV⟩, ⟨SBG.found_only al ⟨cfC, kC, iC, gC⟩, stC⟩, slV, slC, by simp [RoadKit.slotOf, gV], by simp [RoadKit.slotOf, gC]⟩
theorem sta_is {Z U : State} (al : Z.vm.Alike U.vm) {C n d : String} {v : Value} (S : RoadKit.Sta Z U.heap C n d v) : StaticIs U C n d v := by
  obtain ⟨cfS, iS, kS, fS, st, cS, t1, t2, t3, t4, t5, t6, t7⟩ := S
  exact StaticIs.there (s := { Z with heap := U.heap }) ⟨cfS, iS, kS, fS, st, cS, t1, t2, t3, t4, t5, (fun q => by rw [q] at t6; cases t6), t7⟩ al rfl
/-- **length() OF SUCH A STRING** -/
theorem lenW {p : Program} {l : Launch} {e : Env} {R : Room} {s : State} {args : Array Value} {below : List Frame} {len W : Nat} {Z : State} {a0 : Array Value} {h : Heap} (hZ : Z.Warmed39 s.vm) (hw : ∀ d ∈ wordsLen, d.before a0 Z = true) {kI : Nat} (wi : (Jvm.Cond.instantiable ST kI).before a0 Z = true)
    {x t : Addr} {kb : ClassId} {cs : List Int32} {cd N2 z : Int32} {vs : List Value} (E : RoadKit.Exa Z h x ST) (V : RoadKit.Fld Z h x ST "value" "[B" (.ref t)) (C : RoadKit.Fld Z h x ST "coder" "B" (.int cd)) (K : RoadKit.Arv Z h t kb .byte N2 vs (.int 0)) (hc : CodA cs cd N2 vs) (hb : ∀ c ∈ cs, ¬ c < 0 ∧ ¬ (65535 : Int32) < c)
    (S : RoadKit.Sta Z h ST "COMPACT_STRINGS" "Z" (.int z)) (hz : ¬ z = 0) (l2 : cs.length ≤ 4000) (hfr : 2 ≤ R.frames) (hlo : W + 25 ≤ R.locals) :
    Back l R p e below s args (⟨"java/lang/String", "length", "()I"⟩ : MethodName) len W (fun P a => a = #[.ref x] ∧ P.U.heap = h ∧ P.cells + 0 ≤ R.cells ∧ P.slots + 0 ≤ R.slots)
      (fun P _ v B => ∃ L, (v = some (.int (Int32.ofNat cs.length)) ∧ L = [] ∧ B.U.heap = h) ∧ B.locs = P.locs ++ L ∧ B.cells = P.cells + 0 ∧ B.slots = P.slots + 0) := by
  obtain ⟨A, K1, K2, K3, K4, K5, K6⟩ := K
  have hcod := hc.cod (by omega) K3 K5
  intro m meth c P g ig mk a X hg hsize hdg hW hn hp'
  obtain ⟨rfl, rfl, r1, r2⟩ := hp'
  have al : Z.vm.Alike P.U.vm := hZ.alike.trans X.warmed.alike
  obtain ⟨D, fV, fC, hB, F1, F2, g1, g2, -, -⟩ := strObj wi al E V C
  have hx : Txt x t A cd cs.length (fun j => cs.getD j 0) P.U := ⟨⟨_, hB.2.2.1, D, hB.1, rfl, by cases q : D.vm <;> first | rfl | exact absurd q (hB.2.1.2 _)⟩, Has.of hB F1 g1, Has.of hB F2 g2, ⟨K1.1, State.isArrayOf_alike al K1.2.1, K1.2.2, by rcases hcod with ⟨-, q, -⟩ | ⟨-, q, -⟩ <;> omega⟩, hcod, fun j hj => by
    have e : cs.getD j 0 = cs[j] := by simp [List.getD_eq_getElem?_getD, hj]
    show ¬ cs.getD j 0 < 0 ∧ ¬ 65535 < cs.getD j 0
    rw [e]; exact hb _ (List.getElem_mem _)⟩
  obtain ⟨v, B, X', ⟨⟨hv, hh⟩, hl, hk, hs⟩, st⟩ := Len.pays x t A cd cs.length (fun j => cs.getD j 0) z (tabLen_of (movedLen hZ hw)) hfr hlo m meth c P g ig mk _ X hg hsize hdg hW hn ⟨r1, r2, rfl, hx, sta_is al S, hz⟩
  exact ⟨v, B, X', ⟨[], ⟨hv, rfl, hh⟩, hl, hk, hs⟩, st⟩
end StrChars.Road
namespace StrChars.Road
open Jvm Sem ClassFile Op Lib Jvm.Stand Jvm.Free Jvm.Free.XT
open Jvm.Lib.Cold (StaticIs)
/-- the road's facts of a String, as the laws ask it -/
theorem txt_of {Z U : State} {a0 : Array Value} {kI : Nat} (wi : (Jvm.Cond.instantiable ST kI).before a0 Z = true) (al : Z.vm.Alike U.vm) {x t : Addr} {kb : ClassId} {cs : List Int32} {cd N2 : Int32} {vs : List Value} (E : RoadKit.Exa Z U.heap x ST) (V : RoadKit.Fld Z U.heap x ST "value" "[B" (.ref t)) (C : RoadKit.Fld Z U.heap x ST "coder" "B" (.int cd)) (K : RoadKit.Arv Z U.heap t kb .byte N2 vs (.int 0)) (hc : CodA cs cd N2 vs) (hb : ∀ c ∈ cs, ¬ c < 0 ∧ ¬ (65535 : Int32) < c) (l2 : cs.length ≤ 4000) :
    ∃ A, Txt x t A cd cs.length (fun j => cs.getD j 0) U := by
  obtain ⟨A, K1, K2, K3, K4, K5, K6⟩ := K
  have hcod := hc.cod (by omega) K3 K5
  obtain ⟨D, fV, fC, hB, F1, F2, g1, g2, -, -⟩ := strObj wi al E V C
  exact ⟨A, ⟨_, hB.2.2.1, D, hB.1, rfl, by cases q : D.vm <;> first | rfl | exact absurd q (hB.2.1.2 _)⟩, Has.of hB F1 g1, Has.of hB F2 g2, ⟨K1.1, State.isArrayOf_alike al K1.2.1, K1.2.2, by rcases hcod with ⟨-, q, -⟩ | ⟨-, q, -⟩ <;> omega⟩, hcod, fun j hj => by
    have e : cs.getD j 0 = cs[j] := by simp [List.getD_eq_getElem?_getD, hj]
    show ¬ cs.getD j 0 < 0 ∧ ¬ 65535 < cs.getD j 0
    rw [e]; exact hb _ (List.getElem_mem _)⟩
end StrChars.Road
namespace StrChars
open Jvm Sem ClassFile Op Lib Jvm.Stand Jvm.Free.XT Jvm.Free.ALB Jvm.Free.JM Jvm.Free
open Jvm.Lib.Cold (StaticIs)
namespace ChN
def yN : MethodName := ⟨"java/lang/String", "charAt", "(I)C"⟩
abbrev yB : ByteArray := jdk_42_method_56_code
theorem d0 : decode yB 0 = .ok (.aload_n 0, 1) := by decide +kernel
theorem d1 : decode yB 1 = .ok (.invokevirtual 492, 3) := by decide +kernel
theorem d4 : decode yB 4 = .ok (.ifCond (.eq) 12, 3) := by decide +kernel
theorem d7 : decode yB 7 = .ok (.aload_n 0, 1) := by decide +kernel
theorem d8 : decode yB 8 = .ok (.getfield 9, 3) := by decide +kernel
theorem d11 : decode yB 11 = .ok (.iload_n 1, 1) := by decide +kernel
theorem d12 : decode yB 12 = .ok (.invokestatic 495, 3) := by decide +kernel
theorem d15 : decode yB 15 = .ok (.ireturn, 1) := by decide +kernel
def site : List Cond := [.fieldLink "java/lang/String" 9 "java/lang/String" "value" "[B", IsL.tab, LChA.tab] ++ virtW "java/lang/String" 492 "java/lang/String" IsL.yN IsL.yN ++ staticW "java/lang/String" 495 LChA.yN
def tab : Cond := tabOf yN yB 2 (some .char) site
def P (x t : Addr) (V : Cell) (n : Nat) (f : Nat → Int32) (z : Int32) (fm : Value) (i : Nat) (args : Array Value) (s : State) : Prop := args = #[.ref x, .int (Int32.ofNat i)] ∧ Txt x t V 0 n f s ∧ i < n ∧ StaticIs s "java/lang/String" "COMPACT_STRINGS" "Z" (.int z) ∧ ¬ z = 0 ∧ StaticIs s "jdk/internal/util/Preconditions" "SIOOBE_FORMATTER" "Ljava/util/function/BiFunction;" fm ∧ fm.isRef = true
def E (f : Nat → Int32) (i : Nat) (r : Option Value) (s u : State) : Prop := XT.PureE (some (.int (f i))) r s u
/-- charAt(i) of a Latin-1 String of n chars, i < n: f i -/
theorem law (l : Launch) (x t : Addr) (V : Cell) (n : Nat) (f : Nat → Int32) (z : Int32) (fm : Value) (i : Nat) : Law l yN 2 1 3 40 yB 2 (some .char) site (P x t V n f z fm i) (E f i) [] 0 0 := by
  refine Law.of_walk (plainFor_of_name (by decide +kernel)) (by decide +kernel) (by decide +kernel) (by decide) (fun _ _ h => by rw [h.1]; rfl) (fun _ U U' hal hh h => ⟨h.1, h.2.1.mv hal hh, h.2.2.1, h.2.2.2.1.there hal hh, h.2.2.2.2.1, h.2.2.2.2.2.1.there hal hh, h.2.2.2.2.2.2⟩) (fun r U U' V V' h1 hal h2 h => XT.PureE.mv r U U' V V' h1 hal h2 h) ?_
  intro p e s m args below meth c s₁ X0 hexec hbytes hml hret hlk hnm hown hh0 W hP
  obtain ⟨rfl, hx, hi, s1, hz, s3, rf⟩ := hP
  have v31 := hx.2.2.2.1.2.2.2
  have hr := hx.2.2.2.2.2 i hi
  have hx0 := hx.mv X0.warmed.alike hh0
  have c1 : Steps p.tables e below (s₁.setTop (entryFrame m #[.ref x, .int (Int32.ofNat i)] 2)) (s₁.setTop (mkF m 1 #[.val (.ref x), .val (.int (Int32.ofNat i))] [.ref x])) := Steps.trans (entry rfl) (by
    show Steps p.tables e below (s₁.setTop (mkF m 0 #[.val (.ref x), .val (.int (Int32.ofNat i))] [])) _
    refine XS.aloadN X0.here hexec rfl (hb hbytes d0) rfl rfl ?_
    exact Steps.refl _)
  obtain ⟨v2, T2, X2, E2, g2⟩ := X0.callV hexec (IsL.law l x 0 z) hown (wks W (virtW "java/lang/String" 492 "java/lang/String" IsL.yN IsL.yN)) rfl (by decide) (wk W IsL.tab) (W := 0) (Nat.le_of_ble_eq_true rfl) (Nat.le_of_ble_eq_true rfl) (Nat.le_refl _) (Nat.le_refl _) (hx0.1.fc X0.warmed.alike) hx0.1.is (g := (mkF m 1 #[.val (.ref x), .val (.int (Int32.ofNat i))] [.ref x])) rfl (by rw [hml]; rfl) c1 (argsL := []) (rest := []) rfl rfl (by show 2 * 0 + 0 ≤ _; decide) (hb hbytes d1) (⟨rfl, hx0.2.2.1, hx.2.2.2.2.1.cd, s1.there X0.warmed.alike hh0, hz⟩)
  obtain ⟨rfl, q2⟩ := E2
  have hh2 := q2.trans hh0
  have hx2 := hx.mv X2.warmed.alike hh2
  obtain ⟨-, k1, k2⟩ | ⟨k0, -⟩ := hx.2.2.2.2.1
  · have c3 : Steps p.tables e below (s₁.setTop (entryFrame m #[.ref x, .int (Int32.ofNat i)] 2)) (T2.setTop (mkF m 8 #[.val (.ref x), .val (.int (Int32.ofNat i))] [.ref x])) := Steps.trans g2 (by
      refine XS.ifNo X2.here hexec rfl (hb hbytes d4) rfl (i0_eq_f (by decide)) ?_
      refine XS.aloadN X2.here hexec rfl (hb hbytes d7) rfl rfl ?_
      exact Steps.refl _)
    obtain ⟨T4, X4, q4, st4⟩ := X2.hget hexec hown (wk W (.fieldLink "java/lang/String" 9 "java/lang/String" "value" "[B")) hx2.2.1 (g := (mkF m 8 #[.val (.ref x), .val (.int (Int32.ofNat i))] [.ref x])) rfl (rest := []) rfl (hb hbytes d8)
    have hh4 := q4.trans hh2
    have c5 : Steps p.tables e below (s₁.setTop (entryFrame m #[.ref x, .int (Int32.ofNat i)] 2)) (T4.setTop (mkF m 12 #[.val (.ref x), .val (.int (Int32.ofNat i))] [.int (Int32.ofNat i), .ref t])) := (c3.trans (st4 _ (Steps.refl _))).trans (by
      refine XS.iloadN X4.here hexec rfl (hb hbytes d11) rfl ?_
      exact Steps.refl _)
    obtain ⟨v6, T6, X6, E6, g6⟩ := X4.callS hexec (LChA.law l t V i (lo8 (f i)) fm) hown (wks W (staticW "java/lang/String" 495 LChA.yN)) (wk W LChA.tab) (W := 0) (Nat.le_of_ble_eq_true rfl) (Nat.le_of_ble_eq_true rfl) (Nat.le_refl _) (Nat.le_refl _) (g := (mkF m 12 #[.val (.ref x), .val (.int (Int32.ofNat i))] [.int (Int32.ofNat i), .ref t])) rfl (by rw [hml]; rfl) c5 (argsL := [.ref t, .int (Int32.ofNat i)]) (rest := []) rfl rfl (by show 2 * 0 + 0 ≤ _; decide) (hb hbytes d12) (⟨rfl, hx.2.2.2.1.mv X4.warmed.alike hh4, (k2 i hi).1, s3.there X4.warmed.alike hh4, rf⟩)
    obtain ⟨rfl, q6⟩ := E6
    rw [chr8_lo8 hr.1 (k2 i hi).2] at g6
    exact ⟨T6, some (.int (f i)), _, _, _, X6, rfl, rfl, rfl, (fun h => by cases h), ⟨rfl, q6.trans hh4⟩, fun fs hl => Steps.trans g6 (X6.ireturnOut hexec hret (narrow_ch hr.1 hr.2) (Or.inr (Or.inr (Or.inr (Or.inl rfl)))) (hb hbytes d15) hl)⟩
  · exact absurd k0 (by decide)
theorem pays {l : Launch} {R : Room} {p : Program} {e : Env} {below : List Frame} {s : State} {sargs : Array Value} {len W : Nat} (x t : Addr) (V : Cell) (n : Nat) (f : Nat → Int32) (z : Int32) (fm : Value) (i : Nat) (htab : tab.before sargs s = true) (hfr : 4 ≤ R.frames) (hlo : W + 53 ≤ R.locals) :
    Back l R p e below s sargs yN len W (fun A₁ a₁ => A₁.cells + 0 ≤ R.cells ∧ A₁.slots + 0 ≤ R.slots ∧ P x t V n f z fm i a₁ A₁.U) (fun A₁ _ v₁ B₁ => E f i v₁ A₁.U B₁.U ∧ B₁.locs = A₁.locs ++ [] ∧ B₁.cells = A₁.cells + 0 ∧ B₁.slots = A₁.slots + 0) :=
  (law l x t V n f z fm i).pays htab hfr (by omega)
end ChN
end StrChars
namespace StrChars.Road
open Jvm Sem ClassFile Op Lib Jvm.Stand Jvm.Free Jvm.Free.XT
open Jvm.Lib.Cold (StaticIs)
/-- the words of String.charAt(int), the Latin-1 road alone -/
abbrev wordsChN : List Jvm.Cond := [.code ChN.yN ChN.yB 2 (some .char), .initialized ST, .fieldLink ST 9 ST "value" "[B", .fieldLink ST 38 ST "COMPACT_STRINGS" "Z", .fieldLink ST 15 ST "coder" "B", .code IsL.yN IsL.yB 1 (some .boolean), .methodLink ST 492 IsL.yN, .declares IsL.yN, .selects ST IsL.yN IsL.yN, .instanceMethod IsL.yN,
  .methodLink ST 495 LChA.yN, .static LChA.yN, .code LChA.yN LChA.yB 2 (some .char), .initialized "java/lang/StringLatin1", .methodLink "java/lang/StringLatin1" 9 JO.Str_checkIndex.yN, .static JO.Str_checkIndex.yN, .code JO.Str_checkIndex.yN JO.Str_checkIndex.yB 2 none,
  .fieldLink ST 1053 "jdk/internal/util/Preconditions" "SIOOBE_FORMATTER" "Ljava/util/function/BiFunction;", .methodLink ST 1059 JC.PreCheck.yN, .static JC.PreCheck.yN, .code JC.PreCheck.yN JC.PreCheck.yB 3 (some .int), .initialized "jdk/internal/util/Preconditions"]
theorem tabChN_of {a : Array Value} {s : State} (h : ∀ w ∈ wordsChN, w.before a s = true) : ChN.tab.before a s = true := by
  have hp : JC.PreCheck.tab.before a s = true := unparts (wk h (.code JC.PreCheck.yN JC.PreCheck.yB 3 (some .int))) (wks h (.initialized JC.PreCheck.yN.cls :: JC.PreCheck.site))
  have qk := consq hp h
  have hk : JO.Str_checkIndex.tab.before a s = true := unparts (wk qk (.code JO.Str_checkIndex.yN JO.Str_checkIndex.yB 2 none)) (wks qk (.initialized JO.Str_checkIndex.yN.cls :: JO.Str_checkIndex.site))
  have ql := consq hk h
  have hl : LChA.tab.before a s = true := unparts (wk ql (.code LChA.yN LChA.yB 2 (some .char))) (wks ql (.initialized LChA.yN.cls :: LChA.site))
  have hi : IsL.tab.before a s = true := unparts (wk h (.code IsL.yN IsL.yB 1 (some .boolean))) (wks h (.initialized IsL.yN.cls :: IsL.site))
  have q := consq hi (consq hl h)
  exact unparts (wk q (.code ChN.yN ChN.yB 2 (some .char))) (wks q (.initialized ChN.yN.cls :: ChN.site))
theorem movedChN {Z s : State} {a0 args : Array Value} (hZ : Z.Warmed39 s.vm) (hw : ∀ d ∈ wordsChN, d.before a0 Z = true) : ∀ d ∈ wordsChN, d.before args s = true := fun d hd => by
  have t : ∀ d ∈ wordsChN, (d.onTables && d.keepsFace) = true := by decide +kernel
  exact RoadKit.mv hZ (hw d hd) (t d hd)
/-- **charAt(i) OF A LATIN-1 STRING**, i < n: the char -/
theorem chN {p : Program} {l : Launch} {e : Env} {R : Room} {s : State} {args : Array Value} {below : List Frame} {len W : Nat} {Z : State} {a0 : Array Value} {h : Heap} (hZ : Z.Warmed39 s.vm) (hw : ∀ d ∈ wordsChN, d.before a0 Z = true) {kI : Nat} (wi : (Jvm.Cond.instantiable ST kI).before a0 Z = true)
    {x t : Addr} {kb : ClassId} {cs : List Int32} {N2 z : Int32} {vs : List Value} {fm : Value} {i : Nat} {j : Int32} (E : RoadKit.Exa Z h x ST) (V : RoadKit.Fld Z h x ST "value" "[B" (.ref t)) (C : RoadKit.Fld Z h x ST "coder" "B" (.int 0)) (K : RoadKit.Arv Z h t kb .byte N2 vs (.int 0)) (hc : CodA cs 0 N2 vs) (hb : ∀ c ∈ cs, ¬ c < 0 ∧ ¬ (65535 : Int32) < c)
    (S : RoadKit.Sta Z h ST "COMPACT_STRINGS" "Z" (.int z)) (hz : ¬ z = 0) (F : RoadKit.Sta Z h "jdk/internal/util/Preconditions" "SIOOBE_FORMATTER" "Ljava/util/function/BiFunction;" fm) (rf : fm.isRef = true) (l2 : cs.length ≤ 4000) (hi : i < cs.length) (hj : j = Int32.ofNat i) (hfr : 4 ≤ R.frames) (hlo : W + 53 ≤ R.locals) :
    Back l R p e below s args (⟨"java/lang/String", "charAt", "(I)C"⟩ : MethodName) len W (fun P a => a = #[.ref x, .int j] ∧ P.U.heap = h ∧ P.cells + 0 ≤ R.cells ∧ P.slots + 0 ≤ R.slots)
      (fun P _ v B => ∃ L, (v = some (.int (cs.getD i 0)) ∧ L = [] ∧ B.U.heap = h) ∧ B.locs = P.locs ++ L ∧ B.cells = P.cells + 0 ∧ B.slots = P.slots + 0) := by
  subst hj
  intro m meth c P g ig mk a X hg hsize hdg hW hn hp'
  obtain ⟨rfl, rfl, r1, r2⟩ := hp'
  have al : Z.vm.Alike P.U.vm := hZ.alike.trans X.warmed.alike
  obtain ⟨A, hx⟩ := txt_of wi al E V C K hc hb l2
  obtain ⟨v, B, X', ⟨⟨hv, hh⟩, hl, hk, hs⟩, st⟩ := ChN.pays x t A cs.length (fun j => cs.getD j 0) z fm i (tabChN_of (movedChN hZ hw)) hfr hlo m meth c P g ig mk _ X hg hsize hdg hW hn ⟨r1, r2, rfl, hx, hi, sta_is al S, hz, sta_is al F, rf⟩
  exact ⟨v, B, X', ⟨[], ⟨hv, rfl, hh⟩, hl, hk, hs⟩, st⟩
/-- what backV says of its String, as the contracts of this text ask it: cs's low bytes, coder 0 -/
theorem codOf {cs : List Int32} {n : Nat} (hn : cs.length = n) (hb : ∀ c ∈ cs, ¬ 255 < c) : CodA cs 0 (Int32.ofNat n) ((cs.map lo8).map Value.int) := Or.inl ⟨rfl, by rw [hn], by simp [List.map_map, Function.comp_def], hb⟩
end StrChars.Road
end Jvm.Pilot.@@N@@
namespace Jvm.Pilot.@@N@@
open Jvm Jvm.ClassFile Sem Op Lib Jvm.Free Jvm.Stand Jvm.LawKit Jvm.RoadKit Jvm.OwnKit Bundle Jvm.Pilot.@@N@@.Jvm.D
def Ev (Z : State) (a0 : Array Value) : Prop := (∀ d ∈ tables_1, d.before a0 Z = true) ∧ (∃ z : Int32, Sta Z Z.heap "java/lang/String" "COMPACT_STRINGS" "Z" (.int z) ∧ ¬ z = 0) ∧ (∃ fm : Value, Sta Z Z.heap "jdk/internal/util/Preconditions" "SIOOBE_FORMATTER" "Ljava/util/function/BiFunction;" fm ∧ fm.isRef = true)
theorem tw0 {Z : State} {a0 : Array Value} (hw : ∀ d ∈ tables_1, d.before a0 Z = true) : (Jvm.Cond.methodLink "com/example/gate_to_handlers/gatetohandlers/ObjectErrorToStringPinLaw" (22 : Nat) ({ cls := "com/example/gate_to_handlers/gatetohandlers/ObjectErrorToStringPinLaw", name := "make", desc := "(II)Ljava/lang/String;" } : Jvm.MethodName)).before a0 Z = true := hw _ (List.mem_of_getElem? (i := 0) rfl)
theorem tw1 {Z : State} {a0 : Array Value} (hw : ∀ d ∈ tables_1, d.before a0 Z = true) : (Jvm.Cond.static ({ cls := "com/example/gate_to_handlers/gatetohandlers/ObjectErrorToStringPinLaw", name := "make", desc := "(II)Ljava/lang/String;" } : Jvm.MethodName)).before a0 Z = true := hw _ (List.mem_of_getElem? (i := 1) rfl)
theorem tw2 {Z : State} {a0 : Array Value} (hw : ∀ d ∈ tables_1, d.before a0 Z = true) : (Jvm.Cond.initialized "com/example/gate_to_handlers/gatetohandlers/ObjectErrorToStringPinLaw").before a0 Z = true := hw _ (List.mem_of_getElem? (i := 2) rfl)
theorem tw3 {Z : State} {a0 : Array Value} (hw : ∀ d ∈ tables_1, d.before a0 Z = true) : (Jvm.Cond.code ({ cls := "com/example/gate_to_handlers/gatetohandlers/ObjectErrorToStringPinLaw", name := "make", desc := "(II)Ljava/lang/String;" } : Jvm.MethodName) method_2_code (4 : Nat) (Option.some (Jvm.ClassFile.FieldType.object "java/lang/String"))).before a0 Z = true := hw _ (List.mem_of_getElem? (i := 3) rfl)
theorem tw4 {Z : State} {a0 : Array Value} (hw : ∀ d ∈ tables_1, d.before a0 Z = true) : (Jvm.Cond.classLink "com/example/gate_to_handlers/gatetohandlers/ObjectErrorToStringPinLaw" (7 : Nat) "java/lang/String").before a0 Z = true := hw _ (List.mem_of_getElem? (i := 4) rfl)
theorem tw5 {Z : State} {a0 : Array Value} (hw : ∀ d ∈ tables_1, d.before a0 Z = true) : (Jvm.Cond.instantiable "java/lang/String" (4 : Nat)).before a0 Z = true := hw _ (List.mem_of_getElem? (i := 5) rfl)
theorem tw6 {Z : State} {a0 : Array Value} (hw : ∀ d ∈ tables_1, d.before a0 Z = true) : (Jvm.Cond.initialized "java/lang/String").before a0 Z = true := hw _ (List.mem_of_getElem? (i := 6) rfl)
theorem tw7 {Z : State} {a0 : Array Value} (hw : ∀ d ∈ tables_1, d.before a0 Z = true) : (Jvm.Cond.arrayClass Jvm.ClassFile.FieldType.char).before a0 Z = true := hw _ (List.mem_of_getElem? (i := 7) rfl)
theorem tw8 {Z : State} {a0 : Array Value} (hw : ∀ d ∈ tables_1, d.before a0 Z = true) : (Jvm.Cond.methodLink "com/example/gate_to_handlers/gatetohandlers/ObjectErrorToStringPinLaw" (9 : Nat) ({ cls := "java/lang/String", name := "<init>", desc := "([C)V" } : Jvm.MethodName)).before a0 Z = true := hw _ (List.mem_of_getElem? (i := 8) rfl)
theorem tw9 {Z : State} {a0 : Array Value} (hw : ∀ d ∈ tables_1, d.before a0 Z = true) : (Jvm.Cond.instanceMethod ({ cls := "java/lang/String", name := "<init>", desc := "([C)V" } : Jvm.MethodName)).before a0 Z = true := hw _ (List.mem_of_getElem? (i := 9) rfl)
theorem tw10 {Z : State} {a0 : Array Value} (hw : ∀ d ∈ tables_1, d.before a0 Z = true) : (Jvm.Cond.code ({ cls := "java/lang/String", name := "<init>", desc := "([C)V" } : Jvm.MethodName) jdk_42_method_3_code (2 : Nat) (Option.none : Option Jvm.ClassFile.FieldType)).before a0 Z = true := hw _ (List.mem_of_getElem? (i := 10) rfl)
theorem tw11 {Z : State} {a0 : Array Value} (hw : ∀ d ∈ tables_1, d.before a0 Z = true) : (Jvm.Cond.methodLink "java/lang/String" (27 : Nat) ({ cls := "java/lang/String", name := "<init>", desc := "([CIILjava/lang/Void;)V" } : Jvm.MethodName)).before a0 Z = true := hw _ (List.mem_of_getElem? (i := 11) rfl)
theorem tw12 {Z : State} {a0 : Array Value} (hw : ∀ d ∈ tables_1, d.before a0 Z = true) : (Jvm.Cond.instanceMethod ({ cls := "java/lang/String", name := "<init>", desc := "([CIILjava/lang/Void;)V" } : Jvm.MethodName)).before a0 Z = true := hw _ (List.mem_of_getElem? (i := 12) rfl)
theorem tw14 {Z : State} {a0 : Array Value} (hw : ∀ d ∈ tables_1, d.before a0 Z = true) : (Jvm.Cond.code ({ cls := "java/lang/String", name := "<init>", desc := "([CIILjava/lang/Void;)V" } : Jvm.MethodName) jdk_42_method_149_code (6 : Nat) (Option.none : Option Jvm.ClassFile.FieldType)).before a0 Z = true := hw _ (List.mem_of_getElem? (i := 14) rfl)
theorem tw15 {Z : State} {a0 : Array Value} (hw : ∀ d ∈ tables_1, d.before a0 Z = true) : (Jvm.Cond.methodLink "java/lang/String" (1 : Nat) ({ cls := "java/lang/Object", name := "<init>", desc := "()V" } : Jvm.MethodName)).before a0 Z = true := hw _ (List.mem_of_getElem? (i := 15) rfl)
theorem tw16 {Z : State} {a0 : Array Value} (hw : ∀ d ∈ tables_1, d.before a0 Z = true) : (Jvm.Cond.instanceMethod ({ cls := "java/lang/Object", name := "<init>", desc := "()V" } : Jvm.MethodName)).before a0 Z = true := hw _ (List.mem_of_getElem? (i := 16) rfl)
theorem tw17 {Z : State} {a0 : Array Value} (hw : ∀ d ∈ tables_1, d.before a0 Z = true) : (Jvm.Cond.code ({ cls := "java/lang/Object", name := "<init>", desc := "()V" } : Jvm.MethodName) object_method_1_code (1 : Nat) (Option.none : Option Jvm.ClassFile.FieldType)).before a0 Z = true := hw _ (List.mem_of_getElem? (i := 17) rfl)
theorem tw18 {Z : State} {a0 : Array Value} (hw : ∀ d ∈ tables_1, d.before a0 Z = true) : (Jvm.Cond.stringLink "java/lang/String" (7 : Nat) "").before a0 Z = true := hw _ (List.mem_of_getElem? (i := 18) rfl)
theorem tw19 {Z : State} {a0 : Array Value} (hw : ∀ d ∈ tables_1, d.before a0 Z = true) : (Jvm.Cond.arrayClass Jvm.ClassFile.FieldType.byte).before a0 Z = true := hw _ (List.mem_of_getElem? (i := 19) rfl)
theorem tw20 {Z : State} {a0 : Array Value} (hw : ∀ d ∈ tables_1, d.before a0 Z = true) : (Jvm.Cond.laysFinal "java/lang/String" "java/lang/String" "value" "[B").before a0 Z = true := hw _ (List.mem_of_getElem? (i := 20) rfl)
theorem tw21 {Z : State} {a0 : Array Value} (hw : ∀ d ∈ tables_1, d.before a0 Z = true) : (Jvm.Cond.laysFinal "java/lang/String" "java/lang/String" "coder" "B").before a0 Z = true := hw _ (List.mem_of_getElem? (i := 21) rfl)
theorem tw24 {Z : State} {a0 : Array Value} (hw : ∀ d ∈ tables_1, d.before a0 Z = true) : (Jvm.Cond.fieldLink "java/lang/String" (9 : Nat) "java/lang/String" "value" "[B").before a0 Z = true := hw _ (List.mem_of_getElem? (i := 24) rfl)
theorem tw25 {Z : State} {a0 : Array Value} (hw : ∀ d ∈ tables_1, d.before a0 Z = true) : (Jvm.Cond.fieldLink "java/lang/String" (15 : Nat) "java/lang/String" "coder" "B").before a0 Z = true := hw _ (List.mem_of_getElem? (i := 25) rfl)
theorem tw26 {Z : State} {a0 : Array Value} (hw : ∀ d ∈ tables_1, d.before a0 Z = true) : (Jvm.Cond.classLink "com/example/gate_to_handlers/gatetohandlers/ObjectErrorToStringPinLaw" (28 : Nat) "com/example/gate_to_handlers/gatetohandlers/ObjectError").before a0 Z = true := hw _ (List.mem_of_getElem? (i := 26) rfl)
theorem tw27 {Z : State} {a0 : Array Value} (hw : ∀ d ∈ tables_1, d.before a0 Z = true) : (Jvm.Cond.instantiable "com/example/gate_to_handlers/gatetohandlers/ObjectError" (3 : Nat)).before a0 Z = true := hw _ (List.mem_of_getElem? (i := 27) rfl)
theorem tw28 {Z : State} {a0 : Array Value} (hw : ∀ d ∈ tables_1, d.before a0 Z = true) : (Jvm.Cond.initialized "com/example/gate_to_handlers/gatetohandlers/ObjectError").before a0 Z = true := hw _ (List.mem_of_getElem? (i := 28) rfl)
theorem tw29 {Z : State} {a0 : Array Value} (hw : ∀ d ∈ tables_1, d.before a0 Z = true) : (Jvm.Cond.methodLink "com/example/gate_to_handlers/gatetohandlers/ObjectErrorToStringPinLaw" (30 : Nat) ({ cls := "com/example/gate_to_handlers/gatetohandlers/ObjectError", name := "<init>", desc := "(Ljava/lang/String;Ljava/lang/String;Ljava/lang/String;)V" } : Jvm.MethodName)).before a0 Z = true := hw _ (List.mem_of_getElem? (i := 29) rfl)
theorem tw30 {Z : State} {a0 : Array Value} (hw : ∀ d ∈ tables_1, d.before a0 Z = true) : (Jvm.Cond.instanceMethod ({ cls := "com/example/gate_to_handlers/gatetohandlers/ObjectError", name := "<init>", desc := "(Ljava/lang/String;Ljava/lang/String;Ljava/lang/String;)V" } : Jvm.MethodName)).before a0 Z = true := hw _ (List.mem_of_getElem? (i := 30) rfl)
theorem tw31 {Z : State} {a0 : Array Value} (hw : ∀ d ∈ tables_1, d.before a0 Z = true) : (Jvm.Cond.code ({ cls := "com/example/gate_to_handlers/gatetohandlers/ObjectError", name := "<init>", desc := "(Ljava/lang/String;Ljava/lang/String;Ljava/lang/String;)V" } : Jvm.MethodName) prog_78_method_1_code (4 : Nat) (Option.none : Option Jvm.ClassFile.FieldType)).before a0 Z = true := hw _ (List.mem_of_getElem? (i := 31) rfl)
theorem tw32 {Z : State} {a0 : Array Value} (hw : ∀ d ∈ tables_1, d.before a0 Z = true) : (Jvm.Cond.methodLink "com/example/gate_to_handlers/gatetohandlers/ObjectError" (1 : Nat) ({ cls := "java/lang/Object", name := "<init>", desc := "()V" } : Jvm.MethodName)).before a0 Z = true := hw _ (List.mem_of_getElem? (i := 32) rfl)
theorem tw33 {Z : State} {a0 : Array Value} (hw : ∀ d ∈ tables_1, d.before a0 Z = true) : (Jvm.Cond.fieldLink "com/example/gate_to_handlers/gatetohandlers/ObjectError" (7 : Nat) "com/example/gate_to_handlers/gatetohandlers/ObjectError" "objectName" "Ljava/lang/String;").before a0 Z = true := hw _ (List.mem_of_getElem? (i := 33) rfl)
theorem tw34 {Z : State} {a0 : Array Value} (hw : ∀ d ∈ tables_1, d.before a0 Z = true) : (Jvm.Cond.laysFinal "com/example/gate_to_handlers/gatetohandlers/ObjectError" "com/example/gate_to_handlers/gatetohandlers/ObjectError" "objectName" "Ljava/lang/String;").before a0 Z = true := hw _ (List.mem_of_getElem? (i := 34) rfl)
theorem tw35 {Z : State} {a0 : Array Value} (hw : ∀ d ∈ tables_1, d.before a0 Z = true) : (Jvm.Cond.fieldLink "com/example/gate_to_handlers/gatetohandlers/ObjectError" (13 : Nat) "com/example/gate_to_handlers/gatetohandlers/ObjectError" "code" "Ljava/lang/String;").before a0 Z = true := hw _ (List.mem_of_getElem? (i := 35) rfl)
theorem tw36 {Z : State} {a0 : Array Value} (hw : ∀ d ∈ tables_1, d.before a0 Z = true) : (Jvm.Cond.laysFinal "com/example/gate_to_handlers/gatetohandlers/ObjectError" "com/example/gate_to_handlers/gatetohandlers/ObjectError" "code" "Ljava/lang/String;").before a0 Z = true := hw _ (List.mem_of_getElem? (i := 36) rfl)
theorem tw37 {Z : State} {a0 : Array Value} (hw : ∀ d ∈ tables_1, d.before a0 Z = true) : (Jvm.Cond.fieldLink "com/example/gate_to_handlers/gatetohandlers/ObjectError" (16 : Nat) "com/example/gate_to_handlers/gatetohandlers/ObjectError" "defaultMessage" "Ljava/lang/String;").before a0 Z = true := hw _ (List.mem_of_getElem? (i := 37) rfl)
theorem tw38 {Z : State} {a0 : Array Value} (hw : ∀ d ∈ tables_1, d.before a0 Z = true) : (Jvm.Cond.laysFinal "com/example/gate_to_handlers/gatetohandlers/ObjectError" "com/example/gate_to_handlers/gatetohandlers/ObjectError" "defaultMessage" "Ljava/lang/String;").before a0 Z = true := hw _ (List.mem_of_getElem? (i := 38) rfl)
theorem tw39 {Z : State} {a0 : Array Value} (hw : ∀ d ∈ tables_1, d.before a0 Z = true) : (Jvm.Cond.methodLink "com/example/gate_to_handlers/gatetohandlers/ObjectErrorToStringPinLaw" (33 : Nat) ({ cls := "com/example/gate_to_handlers/gatetohandlers/ObjectError", name := "toString", desc := "()Ljava/lang/String;" } : Jvm.MethodName)).before a0 Z = true := hw _ (List.mem_of_getElem? (i := 39) rfl)
theorem tw40 {Z : State} {a0 : Array Value} (hw : ∀ d ∈ tables_1, d.before a0 Z = true) : (Jvm.Cond.declares ({ cls := "com/example/gate_to_handlers/gatetohandlers/ObjectError", name := "toString", desc := "()Ljava/lang/String;" } : Jvm.MethodName)).before a0 Z = true := hw _ (List.mem_of_getElem? (i := 40) rfl)
theorem tw41 {Z : State} {a0 : Array Value} (hw : ∀ d ∈ tables_1, d.before a0 Z = true) : (Jvm.Cond.instanceMethod ({ cls := "com/example/gate_to_handlers/gatetohandlers/ObjectError", name := "toString", desc := "()Ljava/lang/String;" } : Jvm.MethodName)).before a0 Z = true := hw _ (List.mem_of_getElem? (i := 41) rfl)
theorem tw42 {Z : State} {a0 : Array Value} (hw : ∀ d ∈ tables_1, d.before a0 Z = true) : (Jvm.Cond.selects "com/example/gate_to_handlers/gatetohandlers/ObjectError" ({ cls := "com/example/gate_to_handlers/gatetohandlers/ObjectError", name := "toString", desc := "()Ljava/lang/String;" } : Jvm.MethodName) ({ cls := "com/example/gate_to_handlers/gatetohandlers/ObjectError", name := "toString", desc := "()Ljava/lang/String;" } : Jvm.MethodName)).before a0 Z = true := hw _ (List.mem_of_getElem? (i := 42) rfl)
theorem tw43 {Z : State} {a0 : Array Value} (hw : ∀ d ∈ tables_1, d.before a0 Z = true) : (Jvm.Cond.code ({ cls := "com/example/gate_to_handlers/gatetohandlers/ObjectError", name := "toString", desc := "()Ljava/lang/String;" } : Jvm.MethodName) prog_78_method_5_code (1 : Nat) (Option.some (Jvm.ClassFile.FieldType.object "java/lang/String"))).before a0 Z = true := hw _ (List.mem_of_getElem? (i := 43) rfl)
theorem tw44 {Z : State} {a0 : Array Value} (hw : ∀ d ∈ tables_1, d.before a0 Z = true) : (Jvm.Cond.classLink "com/example/gate_to_handlers/gatetohandlers/ObjectError" (19 : Nat) "java/lang/StringBuilder").before a0 Z = true := hw _ (List.mem_of_getElem? (i := 44) rfl)
theorem tw45 {Z : State} {a0 : Array Value} (hw : ∀ d ∈ tables_1, d.before a0 Z = true) : (Jvm.Cond.instantiable "java/lang/StringBuilder" (4 : Nat)).before a0 Z = true := hw _ (List.mem_of_getElem? (i := 45) rfl)
theorem tw46 {Z : State} {a0 : Array Value} (hw : ∀ d ∈ tables_1, d.before a0 Z = true) : (Jvm.Cond.initialized "java/lang/StringBuilder").before a0 Z = true := hw _ (List.mem_of_getElem? (i := 46) rfl)
theorem tw47 {Z : State} {a0 : Array Value} (hw : ∀ d ∈ tables_1, d.before a0 Z = true) : (Jvm.Cond.methodLink "com/example/gate_to_handlers/gatetohandlers/ObjectError" (21 : Nat) ({ cls := "java/lang/StringBuilder", name := "<init>", desc := "()V" } : Jvm.MethodName)).before a0 Z = true := hw _ (List.mem_of_getElem? (i := 47) rfl)
theorem tw48 {Z : State} {a0 : Array Value} (hw : ∀ d ∈ tables_1, d.before a0 Z = true) : (Jvm.Cond.instanceMethod ({ cls := "java/lang/StringBuilder", name := "<init>", desc := "()V" } : Jvm.MethodName)).before a0 Z = true := hw _ (List.mem_of_getElem? (i := 48) rfl)
theorem tw49 {Z : State} {a0 : Array Value} (hw : ∀ d ∈ tables_1, d.before a0 Z = true) : (Jvm.Cond.code ({ cls := "java/lang/StringBuilder", name := "<init>", desc := "()V" } : Jvm.MethodName) jdk_67_method_1_code (1 : Nat) (Option.none : Option Jvm.ClassFile.FieldType)).before a0 Z = true := hw _ (List.mem_of_getElem? (i := 49) rfl)
theorem tw50 {Z : State} {a0 : Array Value} (hw : ∀ d ∈ tables_1, d.before a0 Z = true) : (Jvm.Cond.methodLink "java/lang/StringBuilder" (1 : Nat) ({ cls := "java/lang/AbstractStringBuilder", name := "<init>", desc := "(I)V" } : Jvm.MethodName)).before a0 Z = true := hw _ (List.mem_of_getElem? (i := 50) rfl)
theorem tw51 {Z : State} {a0 : Array Value} (hw : ∀ d ∈ tables_1, d.before a0 Z = true) : (Jvm.Cond.instanceMethod ({ cls := "java/lang/AbstractStringBuilder", name := "<init>", desc := "(I)V" } : Jvm.MethodName)).before a0 Z = true := hw _ (List.mem_of_getElem? (i := 51) rfl)
theorem tw54 {Z : State} {a0 : Array Value} (hw : ∀ d ∈ tables_1, d.before a0 Z = true) : (Jvm.Cond.initialized "java/lang/AbstractStringBuilder").before a0 Z = true := hw _ (List.mem_of_getElem? (i := 54) rfl)
theorem tw55 {Z : State} {a0 : Array Value} (hw : ∀ d ∈ tables_1, d.before a0 Z = true) : (Jvm.Cond.code ({ cls := "java/lang/AbstractStringBuilder", name := "<init>", desc := "(I)V" } : Jvm.MethodName) jdk_68_method_2_code (2 : Nat) (Option.none : Option Jvm.ClassFile.FieldType)).before a0 Z = true := hw _ (List.mem_of_getElem? (i := 55) rfl)
theorem tw56 {Z : State} {a0 : Array Value} (hw : ∀ d ∈ tables_1, d.before a0 Z = true) : (Jvm.Cond.methodLink "java/lang/AbstractStringBuilder" (3 : Nat) ({ cls := "java/lang/Object", name := "<init>", desc := "()V" } : Jvm.MethodName)).before a0 Z = true := hw _ (List.mem_of_getElem? (i := 56) rfl)
theorem tw57 {Z : State} {a0 : Array Value} (hw : ∀ d ∈ tables_1, d.before a0 Z = true) : (Jvm.Cond.fieldLink "java/lang/AbstractStringBuilder" (18 : Nat) "java/lang/String" "COMPACT_STRINGS" "Z").before a0 Z = true := hw _ (List.mem_of_getElem? (i := 57) rfl)
theorem tw58 {Z : State} {a0 : Array Value} (hw : ∀ d ∈ tables_1, d.before a0 Z = true) : (Jvm.Cond.fieldLink "java/lang/AbstractStringBuilder" (15 : Nat) "java/lang/AbstractStringBuilder" "value" "[B").before a0 Z = true := hw _ (List.mem_of_getElem? (i := 58) rfl)
theorem tw59 {Z : State} {a0 : Array Value} (hw : ∀ d ∈ tables_1, d.before a0 Z = true) : (Jvm.Cond.lays "java/lang/StringBuilder" "java/lang/AbstractStringBuilder" "value" "[B").before a0 Z = true := hw _ (List.mem_of_getElem? (i := 59) rfl)
theorem tw60 {Z : State} {a0 : Array Value} (hw : ∀ d ∈ tables_1, d.before a0 Z = true) : (Jvm.Cond.fieldLink "java/lang/AbstractStringBuilder" (22 : Nat) "java/lang/AbstractStringBuilder" "coder" "B").before a0 Z = true := hw _ (List.mem_of_getElem? (i := 60) rfl)
theorem tw61 {Z : State} {a0 : Array Value} (hw : ∀ d ∈ tables_1, d.before a0 Z = true) : (Jvm.Cond.lays "java/lang/StringBuilder" "java/lang/AbstractStringBuilder" "coder" "B").before a0 Z = true := hw _ (List.mem_of_getElem? (i := 61) rfl)
theorem tw62 {Z : State} {a0 : Array Value} (hw : ∀ d ∈ tables_1, d.before a0 Z = true) : (Jvm.Cond.stringLink "com/example/gate_to_handlers/gatetohandlers/ObjectError" (22 : Nat) "error ").before a0 Z = true := hw _ (List.mem_of_getElem? (i := 62) rfl)
theorem tw63 {Z : State} {a0 : Array Value} (hw : ∀ d ∈ tables_1, d.before a0 Z = true) : (Jvm.Cond.methodLink "com/example/gate_to_handlers/gatetohandlers/ObjectError" (24 : Nat) ({ cls := "java/lang/StringBuilder", name := "append", desc := "(Ljava/lang/String;)Ljava/lang/StringBuilder;" } : Jvm.MethodName)).before a0 Z = true := hw _ (List.mem_of_getElem? (i := 63) rfl)
theorem tw64 {Z : State} {a0 : Array Value} (hw : ∀ d ∈ tables_1, d.before a0 Z = true) : (Jvm.Cond.declares ({ cls := "java/lang/StringBuilder", name := "append", desc := "(Ljava/lang/String;)Ljava/lang/StringBuilder;" } : Jvm.MethodName)).before a0 Z = true := hw _ (List.mem_of_getElem? (i := 64) rfl)
theorem tw65 {Z : State} {a0 : Array Value} (hw : ∀ d ∈ tables_1, d.before a0 Z = true) : (Jvm.Cond.instanceMethod ({ cls := "java/lang/StringBuilder", name := "append", desc := "(Ljava/lang/String;)Ljava/lang/StringBuilder;" } : Jvm.MethodName)).before a0 Z = true := hw _ (List.mem_of_getElem? (i := 65) rfl)
theorem tw66 {Z : State} {a0 : Array Value} (hw : ∀ d ∈ tables_1, d.before a0 Z = true) : (Jvm.Cond.selects "java/lang/StringBuilder" ({ cls := "java/lang/StringBuilder", name := "append", desc := "(Ljava/lang/String;)Ljava/lang/StringBuilder;" } : Jvm.MethodName) ({ cls := "java/lang/StringBuilder", name := "append", desc := "(Ljava/lang/String;)Ljava/lang/StringBuilder;" } : Jvm.MethodName)).before a0 Z = true := hw _ (List.mem_of_getElem? (i := 66) rfl)
theorem tw67 {Z : State} {a0 : Array Value} (hw : ∀ d ∈ tables_1, d.before a0 Z = true) : (Jvm.Cond.code ({ cls := "java/lang/StringBuilder", name := "append", desc := "(Ljava/lang/String;)Ljava/lang/StringBuilder;" } : Jvm.MethodName) jdk_67_method_7_code (2 : Nat) (Option.some (Jvm.ClassFile.FieldType.object "java/lang/StringBuilder"))).before a0 Z = true := hw _ (List.mem_of_getElem? (i := 67) rfl)
theorem tw68 {Z : State} {a0 : Array Value} (hw : ∀ d ∈ tables_1, d.before a0 Z = true) : (Jvm.Cond.methodLink "java/lang/StringBuilder" (29 : Nat) ({ cls := "java/lang/AbstractStringBuilder", name := "append", desc := "(Ljava/lang/String;)Ljava/lang/AbstractStringBuilder;" } : Jvm.MethodName)).before a0 Z = true := hw _ (List.mem_of_getElem? (i := 68) rfl)
theorem tw69 {Z : State} {a0 : Array Value} (hw : ∀ d ∈ tables_1, d.before a0 Z = true) : (Jvm.Cond.instanceMethod ({ cls := "java/lang/AbstractStringBuilder", name := "append", desc := "(Ljava/lang/String;)Ljava/lang/AbstractStringBuilder;" } : Jvm.MethodName)).before a0 Z = true := hw _ (List.mem_of_getElem? (i := 69) rfl)
theorem tw70 {Z : State} {a0 : Array Value} (hw : ∀ d ∈ tables_1, d.before a0 Z = true) : (Jvm.Cond.superclass "java/lang/StringBuilder" "java/lang/AbstractStringBuilder").before a0 Z = true := hw _ (List.mem_of_getElem? (i := 70) rfl)
theorem tw71 {Z : State} {a0 : Array Value} (hw : ∀ d ∈ tables_1, d.before a0 Z = true) : (Jvm.Cond.declares ({ cls := "java/lang/AbstractStringBuilder", name := "append", desc := "(Ljava/lang/String;)Ljava/lang/AbstractStringBuilder;" } : Jvm.MethodName)).before a0 Z = true := hw _ (List.mem_of_getElem? (i := 71) rfl)
theorem tw72 {Z : State} {a0 : Array Value} (hw : ∀ d ∈ tables_1, d.before a0 Z = true) : (Jvm.Cond.code ({ cls := "java/lang/AbstractStringBuilder", name := "append", desc := "(Ljava/lang/String;)Ljava/lang/AbstractStringBuilder;" } : Jvm.MethodName) jdk_68_method_22_code (3 : Nat) (Option.some (Jvm.ClassFile.FieldType.object "java/lang/AbstractStringBuilder"))).before a0 Z = true := hw _ (List.mem_of_getElem? (i := 72) rfl)
theorem tw73 {Z : State} {a0 : Array Value} (hw : ∀ d ∈ tables_1, d.before a0 Z = true) : (Jvm.Cond.methodLink "java/lang/AbstractStringBuilder" (32 : Nat) ({ cls := "java/lang/String", name := "length", desc := "()I" } : Jvm.MethodName)).before a0 Z = true := hw _ (List.mem_of_getElem? (i := 73) rfl)
theorem tw74 {Z : State} {a0 : Array Value} (hw : ∀ d ∈ tables_1, d.before a0 Z = true) : (Jvm.Cond.declares ({ cls := "java/lang/String", name := "length", desc := "()I" } : Jvm.MethodName)).before a0 Z = true := hw _ (List.mem_of_getElem? (i := 74) rfl)
theorem tw75 {Z : State} {a0 : Array Value} (hw : ∀ d ∈ tables_1, d.before a0 Z = true) : (Jvm.Cond.instanceMethod ({ cls := "java/lang/String", name := "length", desc := "()I" } : Jvm.MethodName)).before a0 Z = true := hw _ (List.mem_of_getElem? (i := 75) rfl)
theorem tw76 {Z : State} {a0 : Array Value} (hw : ∀ d ∈ tables_1, d.before a0 Z = true) : (Jvm.Cond.selects "java/lang/String" ({ cls := "java/lang/String", name := "length", desc := "()I" } : Jvm.MethodName) ({ cls := "java/lang/String", name := "length", desc := "()I" } : Jvm.MethodName)).before a0 Z = true := hw _ (List.mem_of_getElem? (i := 76) rfl)
theorem tw78 {Z : State} {a0 : Array Value} (hw : ∀ d ∈ tables_1, d.before a0 Z = true) : (Jvm.Cond.methodLink "java/lang/String" (335 : Nat) ({ cls := "java/lang/String", name := "coder", desc := "()B" } : Jvm.MethodName)).before a0 Z = true := hw _ (List.mem_of_getElem? (i := 78) rfl)
theorem tw79 {Z : State} {a0 : Array Value} (hw : ∀ d ∈ tables_1, d.before a0 Z = true) : (Jvm.Cond.declares ({ cls := "java/lang/String", name := "coder", desc := "()B" } : Jvm.MethodName)).before a0 Z = true := hw _ (List.mem_of_getElem? (i := 79) rfl)
theorem tw80 {Z : State} {a0 : Array Value} (hw : ∀ d ∈ tables_1, d.before a0 Z = true) : (Jvm.Cond.instanceMethod ({ cls := "java/lang/String", name := "coder", desc := "()B" } : Jvm.MethodName)).before a0 Z = true := hw _ (List.mem_of_getElem? (i := 80) rfl)
theorem tw81 {Z : State} {a0 : Array Value} (hw : ∀ d ∈ tables_1, d.before a0 Z = true) : (Jvm.Cond.selects "java/lang/String" ({ cls := "java/lang/String", name := "coder", desc := "()B" } : Jvm.MethodName) ({ cls := "java/lang/String", name := "coder", desc := "()B" } : Jvm.MethodName)).before a0 Z = true := hw _ (List.mem_of_getElem? (i := 81) rfl)
theorem tw82 {Z : State} {a0 : Array Value} (hw : ∀ d ∈ tables_1, d.before a0 Z = true) : (Jvm.Cond.code ({ cls := "java/lang/String", name := "coder", desc := "()B" } : Jvm.MethodName) jdk_42_method_152_code (1 : Nat) (Option.some Jvm.ClassFile.FieldType.byte)).before a0 Z = true := hw _ (List.mem_of_getElem? (i := 82) rfl)
theorem tw83 {Z : State} {a0 : Array Value} (hw : ∀ d ∈ tables_1, d.before a0 Z = true) : (Jvm.Cond.fieldLink "java/lang/String" (38 : Nat) "java/lang/String" "COMPACT_STRINGS" "Z").before a0 Z = true := hw _ (List.mem_of_getElem? (i := 83) rfl)
theorem tw84 {Z : State} {a0 : Array Value} (hw : ∀ d ∈ tables_1, d.before a0 Z = true) : (Jvm.Cond.fieldLink "java/lang/AbstractStringBuilder" (79 : Nat) "java/lang/AbstractStringBuilder" "count" "I").before a0 Z = true := hw _ (List.mem_of_getElem? (i := 84) rfl)
theorem tw85 {Z : State} {a0 : Array Value} (hw : ∀ d ∈ tables_1, d.before a0 Z = true) : (Jvm.Cond.lays "java/lang/StringBuilder" "java/lang/AbstractStringBuilder" "count" "I").before a0 Z = true := hw _ (List.mem_of_getElem? (i := 85) rfl)
theorem tw86 {Z : State} {a0 : Array Value} (hw : ∀ d ∈ tables_1, d.before a0 Z = true) : (Jvm.Cond.methodLink "java/lang/AbstractStringBuilder" (100 : Nat) ({ cls := "java/lang/AbstractStringBuilder", name := "ensureCapacityInternal", desc := "(I)V" } : Jvm.MethodName)).before a0 Z = true := hw _ (List.mem_of_getElem? (i := 86) rfl)
theorem tw87 {Z : State} {a0 : Array Value} (hw : ∀ d ∈ tables_1, d.before a0 Z = true) : (Jvm.Cond.instanceMethod ({ cls := "java/lang/AbstractStringBuilder", name := "ensureCapacityInternal", desc := "(I)V" } : Jvm.MethodName)).before a0 Z = true := hw _ (List.mem_of_getElem? (i := 87) rfl)
theorem tw89 {Z : State} {a0 : Array Value} (hw : ∀ d ∈ tables_1, d.before a0 Z = true) : (Jvm.Cond.selects "java/lang/StringBuilder" ({ cls := "java/lang/AbstractStringBuilder", name := "ensureCapacityInternal", desc := "(I)V" } : Jvm.MethodName) ({ cls := "java/lang/AbstractStringBuilder", name := "ensureCapacityInternal", desc := "(I)V" } : Jvm.MethodName)).before a0 Z = true := hw _ (List.mem_of_getElem? (i := 89) rfl)
theorem tw90 {Z : State} {a0 : Array Value} (hw : ∀ d ∈ tables_1, d.before a0 Z = true) : (Jvm.Cond.code ({ cls := "java/lang/AbstractStringBuilder", name := "ensureCapacityInternal", desc := "(I)V" } : Jvm.MethodName) jdk_68_method_9_code (3 : Nat) (Option.none : Option Jvm.ClassFile.FieldType)).before a0 Z = true := hw _ (List.mem_of_getElem? (i := 90) rfl)
theorem tw91 {Z : State} {a0 : Array Value} (hw : ∀ d ∈ tables_1, d.before a0 Z = true) : (Jvm.Cond.methodLink "java/lang/AbstractStringBuilder" (208 : Nat) ({ cls := "java/lang/AbstractStringBuilder", name := "putStringAt", desc := "(ILjava/lang/String;)V" } : Jvm.MethodName)).before a0 Z = true := hw _ (List.mem_of_getElem? (i := 91) rfl)
theorem tw92 {Z : State} {a0 : Array Value} (hw : ∀ d ∈ tables_1, d.before a0 Z = true) : (Jvm.Cond.instanceMethod ({ cls := "java/lang/AbstractStringBuilder", name := "putStringAt", desc := "(ILjava/lang/String;)V" } : Jvm.MethodName)).before a0 Z = true := hw _ (List.mem_of_getElem? (i := 92) rfl)
theorem tw94 {Z : State} {a0 : Array Value} (hw : ∀ d ∈ tables_1, d.before a0 Z = true) : (Jvm.Cond.selects "java/lang/StringBuilder" ({ cls := "java/lang/AbstractStringBuilder", name := "putStringAt", desc := "(ILjava/lang/String;)V" } : Jvm.MethodName) ({ cls := "java/lang/AbstractStringBuilder", name := "putStringAt", desc := "(ILjava/lang/String;)V" } : Jvm.MethodName)).before a0 Z = true := hw _ (List.mem_of_getElem? (i := 94) rfl)
theorem tw95 {Z : State} {a0 : Array Value} (hw : ∀ d ∈ tables_1, d.before a0 Z = true) : (Jvm.Cond.code ({ cls := "java/lang/AbstractStringBuilder", name := "putStringAt", desc := "(ILjava/lang/String;)V" } : Jvm.MethodName) jdk_68_method_73_code (3 : Nat) (Option.none : Option Jvm.ClassFile.FieldType)).before a0 Z = true := hw _ (List.mem_of_getElem? (i := 95) rfl)
theorem tw96 {Z : State} {a0 : Array Value} (hw : ∀ d ∈ tables_1, d.before a0 Z = true) : (Jvm.Cond.methodLink "java/lang/AbstractStringBuilder" (397 : Nat) ({ cls := "java/lang/AbstractStringBuilder", name := "inflateIfNeededFor", desc := "(Ljava/lang/String;)V" } : Jvm.MethodName)).before a0 Z = true := hw _ (List.mem_of_getElem? (i := 96) rfl)
theorem tw97 {Z : State} {a0 : Array Value} (hw : ∀ d ∈ tables_1, d.before a0 Z = true) : (Jvm.Cond.instanceMethod ({ cls := "java/lang/AbstractStringBuilder", name := "inflateIfNeededFor", desc := "(Ljava/lang/String;)V" } : Jvm.MethodName)).before a0 Z = true := hw _ (List.mem_of_getElem? (i := 97) rfl)
theorem tw99 {Z : State} {a0 : Array Value} (hw : ∀ d ∈ tables_1, d.before a0 Z = true) : (Jvm.Cond.selects "java/lang/StringBuilder" ({ cls := "java/lang/AbstractStringBuilder", name := "inflateIfNeededFor", desc := "(Ljava/lang/String;)V" } : Jvm.MethodName) ({ cls := "java/lang/AbstractStringBuilder", name := "inflateIfNeededFor", desc := "(Ljava/lang/String;)V" } : Jvm.MethodName)).before a0 Z = true := hw _ (List.mem_of_getElem? (i := 99) rfl)
theorem tw100 {Z : State} {a0 : Array Value} (hw : ∀ d ∈ tables_1, d.before a0 Z = true) : (Jvm.Cond.code ({ cls := "java/lang/AbstractStringBuilder", name := "inflateIfNeededFor", desc := "(Ljava/lang/String;)V" } : Jvm.MethodName) jdk_68_method_71_code (2 : Nat) (Option.none : Option Jvm.ClassFile.FieldType)).before a0 Z = true := hw _ (List.mem_of_getElem? (i := 100) rfl)
theorem tw101 {Z : State} {a0 : Array Value} (hw : ∀ d ∈ tables_1, d.before a0 Z = true) : (Jvm.Cond.methodLink "java/lang/AbstractStringBuilder" (40 : Nat) ({ cls := "java/lang/String", name := "coder", desc := "()B" } : Jvm.MethodName)).before a0 Z = true := hw _ (List.mem_of_getElem? (i := 101) rfl)
theorem tw102 {Z : State} {a0 : Array Value} (hw : ∀ d ∈ tables_1, d.before a0 Z = true) : (Jvm.Cond.methodLink "java/lang/AbstractStringBuilder" (399 : Nat) ({ cls := "java/lang/String", name := "getBytes", desc := "([BIB)V" } : Jvm.MethodName)).before a0 Z = true := hw _ (List.mem_of_getElem? (i := 102) rfl)
theorem tw103 {Z : State} {a0 : Array Value} (hw : ∀ d ∈ tables_1, d.before a0 Z = true) : (Jvm.Cond.declares ({ cls := "java/lang/String", name := "getBytes", desc := "([BIB)V" } : Jvm.MethodName)).before a0 Z = true := hw _ (List.mem_of_getElem? (i := 103) rfl)
theorem tw104 {Z : State} {a0 : Array Value} (hw : ∀ d ∈ tables_1, d.before a0 Z = true) : (Jvm.Cond.instanceMethod ({ cls := "java/lang/String", name := "getBytes", desc := "([BIB)V" } : Jvm.MethodName)).before a0 Z = true := hw _ (List.mem_of_getElem? (i := 104) rfl)
theorem tw105 {Z : State} {a0 : Array Value} (hw : ∀ d ∈ tables_1, d.before a0 Z = true) : (Jvm.Cond.selects "java/lang/String" ({ cls := "java/lang/String", name := "getBytes", desc := "([BIB)V" } : Jvm.MethodName) ({ cls := "java/lang/String", name := "getBytes", desc := "([BIB)V" } : Jvm.MethodName)).before a0 Z = true := hw _ (List.mem_of_getElem? (i := 105) rfl)
theorem tw106 {Z : State} {a0 : Array Value} (hw : ∀ d ∈ tables_1, d.before a0 Z = true) : (Jvm.Cond.code ({ cls := "java/lang/String", name := "getBytes", desc := "([BIB)V" } : Jvm.MethodName) jdk_42_method_147_code (4 : Nat) (Option.none : Option Jvm.ClassFile.FieldType)).before a0 Z = true := hw _ (List.mem_of_getElem? (i := 106) rfl)
theorem tw107 {Z : State} {a0 : Array Value} (hw : ∀ d ∈ tables_1, d.before a0 Z = true) : (Jvm.Cond.methodLink "java/lang/String" (212 : Nat) ({ cls := "java/lang/System", name := "arraycopy", desc := "(Ljava/lang/Object;ILjava/lang/Object;II)V" } : Jvm.MethodName)).before a0 Z = true := hw _ (List.mem_of_getElem? (i := 107) rfl)
theorem tw108 {Z : State} {a0 : Array Value} (hw : ∀ d ∈ tables_1, d.before a0 Z = true) : (Jvm.Cond.static ({ cls := "java/lang/System", name := "arraycopy", desc := "(Ljava/lang/Object;ILjava/lang/Object;II)V" } : Jvm.MethodName)).before a0 Z = true := hw _ (List.mem_of_getElem? (i := 108) rfl)
theorem tw109 {Z : State} {a0 : Array Value} (hw : ∀ d ∈ tables_1, d.before a0 Z = true) : (Jvm.Cond.initialized "java/lang/System").before a0 Z = true := hw _ (List.mem_of_getElem? (i := 109) rfl)
theorem tw110 {Z : State} {a0 : Array Value} (hw : ∀ d ∈ tables_1, d.before a0 Z = true) : (Jvm.Cond.native ({ cls := "java/lang/System", name := "arraycopy", desc := "(Ljava/lang/Object;ILjava/lang/Object;II)V" } : Jvm.MethodName)).before a0 Z = true := hw _ (List.mem_of_getElem? (i := 110) rfl)
theorem tw111 {Z : State} {a0 : Array Value} (hw : ∀ d ∈ tables_1, d.before a0 Z = true) : (Jvm.Cond.stringLink "com/example/gate_to_handlers/gatetohandlers/ObjectError" (28 : Nat) " of ").before a0 Z = true := hw _ (List.mem_of_getElem? (i := 111) rfl)
theorem tw112 {Z : State} {a0 : Array Value} (hw : ∀ d ∈ tables_1, d.before a0 Z = true) : (Jvm.Cond.methodLink "java/lang/AbstractStringBuilder" (204 : Nat) ({ cls := "java/lang/AbstractStringBuilder", name := "appendNull", desc := "()Ljava/lang/AbstractStringBuilder;" } : Jvm.MethodName)).before a0 Z = true := hw _ (List.mem_of_getElem? (i := 112) rfl)
theorem tw113 {Z : State} {a0 : Array Value} (hw : ∀ d ∈ tables_1, d.before a0 Z = true) : (Jvm.Cond.instanceMethod ({ cls := "java/lang/AbstractStringBuilder", name := "appendNull", desc := "()Ljava/lang/AbstractStringBuilder;" } : Jvm.MethodName)).before a0 Z = true := hw _ (List.mem_of_getElem? (i := 113) rfl)
theorem tw115 {Z : State} {a0 : Array Value} (hw : ∀ d ∈ tables_1, d.before a0 Z = true) : (Jvm.Cond.selects "java/lang/StringBuilder" ({ cls := "java/lang/AbstractStringBuilder", name := "appendNull", desc := "()Ljava/lang/AbstractStringBuilder;" } : Jvm.MethodName) ({ cls := "java/lang/AbstractStringBuilder", name := "appendNull", desc := "()Ljava/lang/AbstractStringBuilder;" } : Jvm.MethodName)).before a0 Z = true := hw _ (List.mem_of_getElem? (i := 115) rfl)
theorem tw116 {Z : State} {a0 : Array Value} (hw : ∀ d ∈ tables_1, d.before a0 Z = true) : (Jvm.Cond.code ({ cls := "java/lang/AbstractStringBuilder", name := "appendNull", desc := "()Ljava/lang/AbstractStringBuilder;" } : Jvm.MethodName) jdk_68_method_26_code (3 : Nat) (Option.some (Jvm.ClassFile.FieldType.object "java/lang/AbstractStringBuilder"))).before a0 Z = true := hw _ (List.mem_of_getElem? (i := 116) rfl)
theorem tw117 {Z : State} {a0 : Array Value} (hw : ∀ d ∈ tables_1, d.before a0 Z = true) : (Jvm.Cond.methodLink "java/lang/AbstractStringBuilder" (83 : Nat) ({ cls := "java/lang/AbstractStringBuilder", name := "isLatin1", desc := "()Z" } : Jvm.MethodName)).before a0 Z = true := hw _ (List.mem_of_getElem? (i := 117) rfl)
theorem tw118 {Z : State} {a0 : Array Value} (hw : ∀ d ∈ tables_1, d.before a0 Z = true) : (Jvm.Cond.declares ({ cls := "java/lang/AbstractStringBuilder", name := "isLatin1", desc := "()Z" } : Jvm.MethodName)).before a0 Z = true := hw _ (List.mem_of_getElem? (i := 118) rfl)
theorem tw119 {Z : State} {a0 : Array Value} (hw : ∀ d ∈ tables_1, d.before a0 Z = true) : (Jvm.Cond.instanceMethod ({ cls := "java/lang/AbstractStringBuilder", name := "isLatin1", desc := "()Z" } : Jvm.MethodName)).before a0 Z = true := hw _ (List.mem_of_getElem? (i := 119) rfl)
theorem tw120 {Z : State} {a0 : Array Value} (hw : ∀ d ∈ tables_1, d.before a0 Z = true) : (Jvm.Cond.selects "java/lang/StringBuilder" ({ cls := "java/lang/AbstractStringBuilder", name := "isLatin1", desc := "()Z" } : Jvm.MethodName) ({ cls := "java/lang/AbstractStringBuilder", name := "isLatin1", desc := "()Z" } : Jvm.MethodName)).before a0 Z = true := hw _ (List.mem_of_getElem? (i := 120) rfl)
theorem tw121 {Z : State} {a0 : Array Value} (hw : ∀ d ∈ tables_1, d.before a0 Z = true) : (Jvm.Cond.code ({ cls := "java/lang/AbstractStringBuilder", name := "isLatin1", desc := "()Z" } : Jvm.MethodName) jdk_68_method_68_code (1 : Nat) (Option.some Jvm.ClassFile.FieldType.boolean)).before a0 Z = true := hw _ (List.mem_of_getElem? (i := 121) rfl)
theorem tw122 {Z : State} {a0 : Array Value} (hw : ∀ d ∈ tables_1, d.before a0 Z = true) : (Jvm.Cond.stringLink "com/example/gate_to_handlers/gatetohandlers/ObjectError" (30 : Nat) ": ").before a0 Z = true := hw _ (List.mem_of_getElem? (i := 122) rfl)
theorem tw123 {Z : State} {a0 : Array Value} (hw : ∀ d ∈ tables_1, d.before a0 Z = true) : (Jvm.Cond.methodLink "java/lang/AbstractStringBuilder" (104 : Nat) ({ cls := "java/lang/AbstractStringBuilder", name := "newCapacity", desc := "(I)I" } : Jvm.MethodName)).before a0 Z = true := hw _ (List.mem_of_getElem? (i := 123) rfl)
theorem tw124 {Z : State} {a0 : Array Value} (hw : ∀ d ∈ tables_1, d.before a0 Z = true) : (Jvm.Cond.instanceMethod ({ cls := "java/lang/AbstractStringBuilder", name := "newCapacity", desc := "(I)I" } : Jvm.MethodName)).before a0 Z = true := hw _ (List.mem_of_getElem? (i := 124) rfl)
theorem tw126 {Z : State} {a0 : Array Value} (hw : ∀ d ∈ tables_1, d.before a0 Z = true) : (Jvm.Cond.selects "java/lang/StringBuilder" ({ cls := "java/lang/AbstractStringBuilder", name := "newCapacity", desc := "(I)I" } : Jvm.MethodName) ({ cls := "java/lang/AbstractStringBuilder", name := "newCapacity", desc := "(I)I" } : Jvm.MethodName)).before a0 Z = true := hw _ (List.mem_of_getElem? (i := 126) rfl)
theorem tw127 {Z : State} {a0 : Array Value} (hw : ∀ d ∈ tables_1, d.before a0 Z = true) : (Jvm.Cond.code ({ cls := "java/lang/AbstractStringBuilder", name := "newCapacity", desc := "(I)I" } : Jvm.MethodName) jdk_68_method_10_code (6 : Nat) (Option.some Jvm.ClassFile.FieldType.int)).before a0 Z = true := hw _ (List.mem_of_getElem? (i := 127) rfl)
theorem tw128 {Z : State} {a0 : Array Value} (hw : ∀ d ∈ tables_1, d.before a0 Z = true) : (Jvm.Cond.methodLink "java/lang/AbstractStringBuilder" (114 : Nat) ({ cls := "jdk/internal/util/ArraysSupport", name := "newLength", desc := "(III)I" } : Jvm.MethodName)).before a0 Z = true := hw _ (List.mem_of_getElem? (i := 128) rfl)
theorem tw129 {Z : State} {a0 : Array Value} (hw : ∀ d ∈ tables_1, d.before a0 Z = true) : (Jvm.Cond.static ({ cls := "jdk/internal/util/ArraysSupport", name := "newLength", desc := "(III)I" } : Jvm.MethodName)).before a0 Z = true := hw _ (List.mem_of_getElem? (i := 129) rfl)
theorem tw130 {Z : State} {a0 : Array Value} (hw : ∀ d ∈ tables_1, d.before a0 Z = true) : (Jvm.Cond.initialized "jdk/internal/util/ArraysSupport").before a0 Z = true := hw _ (List.mem_of_getElem? (i := 130) rfl)
theorem tw131 {Z : State} {a0 : Array Value} (hw : ∀ d ∈ tables_1, d.before a0 Z = true) : (Jvm.Cond.code ({ cls := "jdk/internal/util/ArraysSupport", name := "newLength", desc := "(III)I" } : Jvm.MethodName) jdk_48_method_27_code (4 : Nat) (Option.some Jvm.ClassFile.FieldType.int)).before a0 Z = true := hw _ (List.mem_of_getElem? (i := 131) rfl)
theorem tw132 {Z : State} {a0 : Array Value} (hw : ∀ d ∈ tables_1, d.before a0 Z = true) : (Jvm.Cond.methodLink "jdk/internal/util/ArraysSupport" (194 : Nat) ({ cls := "java/lang/Math", name := "max", desc := "(II)I" } : Jvm.MethodName)).before a0 Z = true := hw _ (List.mem_of_getElem? (i := 132) rfl)
theorem tw133 {Z : State} {a0 : Array Value} (hw : ∀ d ∈ tables_1, d.before a0 Z = true) : (Jvm.Cond.static ({ cls := "java/lang/Math", name := "max", desc := "(II)I" } : Jvm.MethodName)).before a0 Z = true := hw _ (List.mem_of_getElem? (i := 133) rfl)
theorem tw134 {Z : State} {a0 : Array Value} (hw : ∀ d ∈ tables_1, d.before a0 Z = true) : (Jvm.Cond.initialized "java/lang/Math").before a0 Z = true := hw _ (List.mem_of_getElem? (i := 134) rfl)
theorem tw135 {Z : State} {a0 : Array Value} (hw : ∀ d ∈ tables_1, d.before a0 Z = true) : (Jvm.Cond.code ({ cls := "java/lang/Math", name := "max", desc := "(II)I" } : Jvm.MethodName) jdk_29_method_65_code (2 : Nat) (Option.some Jvm.ClassFile.FieldType.int)).before a0 Z = true := hw _ (List.mem_of_getElem? (i := 135) rfl)
theorem tw136 {Z : State} {a0 : Array Value} (hw : ∀ d ∈ tables_1, d.before a0 Z = true) : (Jvm.Cond.constant "jdk/internal/util/ArraysSupport" (200 : Nat) (2147483639 : Int32)).before a0 Z = true := hw _ (List.mem_of_getElem? (i := 136) rfl)
theorem tw137 {Z : State} {a0 : Array Value} (hw : ∀ d ∈ tables_1, d.before a0 Z = true) : (Jvm.Cond.constant "java/lang/AbstractStringBuilder" (39 : Nat) (2147483647 : Int32)).before a0 Z = true := hw _ (List.mem_of_getElem? (i := 137) rfl)
theorem tw138 {Z : State} {a0 : Array Value} (hw : ∀ d ∈ tables_1, d.before a0 Z = true) : (Jvm.Cond.methodLink "java/lang/AbstractStringBuilder" (108 : Nat) ({ cls := "java/util/Arrays", name := "copyOf", desc := "([BI)[B" } : Jvm.MethodName)).before a0 Z = true := hw _ (List.mem_of_getElem? (i := 138) rfl)
theorem tw139 {Z : State} {a0 : Array Value} (hw : ∀ d ∈ tables_1, d.before a0 Z = true) : (Jvm.Cond.static ({ cls := "java/util/Arrays", name := "copyOf", desc := "([BI)[B" } : Jvm.MethodName)).before a0 Z = true := hw _ (List.mem_of_getElem? (i := 139) rfl)
theorem tw140 {Z : State} {a0 : Array Value} (hw : ∀ d ∈ tables_1, d.before a0 Z = true) : (Jvm.Cond.initialized "java/util/Arrays").before a0 Z = true := hw _ (List.mem_of_getElem? (i := 140) rfl)
theorem tw141 {Z : State} {a0 : Array Value} (hw : ∀ d ∈ tables_1, d.before a0 Z = true) : (Jvm.Cond.code ({ cls := "java/util/Arrays", name := "copyOf", desc := "([BI)[B" } : Jvm.MethodName) jdk_65_method_121_code (3 : Nat) (Option.some (Jvm.ClassFile.FieldType.array Jvm.ClassFile.FieldType.byte))).before a0 Z = true := hw _ (List.mem_of_getElem? (i := 141) rfl)
theorem tw142 {Z : State} {a0 : Array Value} (hw : ∀ d ∈ tables_1, d.before a0 Z = true) : (Jvm.Cond.methodLink "java/util/Arrays" (304 : Nat) ({ cls := "java/lang/Math", name := "min", desc := "(II)I" } : Jvm.MethodName)).before a0 Z = true := hw _ (List.mem_of_getElem? (i := 142) rfl)
theorem tw143 {Z : State} {a0 : Array Value} (hw : ∀ d ∈ tables_1, d.before a0 Z = true) : (Jvm.Cond.static ({ cls := "java/lang/Math", name := "min", desc := "(II)I" } : Jvm.MethodName)).before a0 Z = true := hw _ (List.mem_of_getElem? (i := 143) rfl)
theorem tw144 {Z : State} {a0 : Array Value} (hw : ∀ d ∈ tables_1, d.before a0 Z = true) : (Jvm.Cond.code ({ cls := "java/lang/Math", name := "min", desc := "(II)I" } : Jvm.MethodName) jdk_29_method_69_code (2 : Nat) (Option.some Jvm.ClassFile.FieldType.int)).before a0 Z = true := hw _ (List.mem_of_getElem? (i := 144) rfl)
theorem tw145 {Z : State} {a0 : Array Value} (hw : ∀ d ∈ tables_1, d.before a0 Z = true) : (Jvm.Cond.methodLink "java/util/Arrays" (150 : Nat) ({ cls := "java/lang/System", name := "arraycopy", desc := "(Ljava/lang/Object;ILjava/lang/Object;II)V" } : Jvm.MethodName)).before a0 Z = true := hw _ (List.mem_of_getElem? (i := 145) rfl)
theorem tw146 {Z : State} {a0 : Array Value} (hw : ∀ d ∈ tables_1, d.before a0 Z = true) : (Jvm.Cond.methodLink "com/example/gate_to_handlers/gatetohandlers/ObjectError" (32 : Nat) ({ cls := "java/lang/StringBuilder", name := "toString", desc := "()Ljava/lang/String;" } : Jvm.MethodName)).before a0 Z = true := hw _ (List.mem_of_getElem? (i := 146) rfl)
theorem tw147 {Z : State} {a0 : Array Value} (hw : ∀ d ∈ tables_1, d.before a0 Z = true) : (Jvm.Cond.declares ({ cls := "java/lang/StringBuilder", name := "toString", desc := "()Ljava/lang/String;" } : Jvm.MethodName)).before a0 Z = true := hw _ (List.mem_of_getElem? (i := 147) rfl)
theorem tw148 {Z : State} {a0 : Array Value} (hw : ∀ d ∈ tables_1, d.before a0 Z = true) : (Jvm.Cond.instanceMethod ({ cls := "java/lang/StringBuilder", name := "toString", desc := "()Ljava/lang/String;" } : Jvm.MethodName)).before a0 Z = true := hw _ (List.mem_of_getElem? (i := 148) rfl)
theorem tw149 {Z : State} {a0 : Array Value} (hw : ∀ d ∈ tables_1, d.before a0 Z = true) : (Jvm.Cond.selects "java/lang/StringBuilder" ({ cls := "java/lang/StringBuilder", name := "toString", desc := "()Ljava/lang/String;" } : Jvm.MethodName) ({ cls := "java/lang/StringBuilder", name := "toString", desc := "()Ljava/lang/String;" } : Jvm.MethodName)).before a0 Z = true := hw _ (List.mem_of_getElem? (i := 149) rfl)
theorem tw150 {Z : State} {a0 : Array Value} (hw : ∀ d ∈ tables_1, d.before a0 Z = true) : (Jvm.Cond.code ({ cls := "java/lang/StringBuilder", name := "toString", desc := "()Ljava/lang/String;" } : Jvm.MethodName) jdk_67_method_42_code (1 : Nat) (Option.some (Jvm.ClassFile.FieldType.object "java/lang/String"))).before a0 Z = true := hw _ (List.mem_of_getElem? (i := 150) rfl)
theorem tw151 {Z : State} {a0 : Array Value} (hw : ∀ d ∈ tables_1, d.before a0 Z = true) : (Jvm.Cond.classLink "java/lang/StringBuilder" (18 : Nat) "java/lang/String").before a0 Z = true := hw _ (List.mem_of_getElem? (i := 151) rfl)
theorem tw152 {Z : State} {a0 : Array Value} (hw : ∀ d ∈ tables_1, d.before a0 Z = true) : (Jvm.Cond.methodLink "java/lang/StringBuilder" (137 : Nat) ({ cls := "java/lang/String", name := "<init>", desc := "(Ljava/lang/StringBuilder;)V" } : Jvm.MethodName)).before a0 Z = true := hw _ (List.mem_of_getElem? (i := 152) rfl)
theorem tw153 {Z : State} {a0 : Array Value} (hw : ∀ d ∈ tables_1, d.before a0 Z = true) : (Jvm.Cond.instanceMethod ({ cls := "java/lang/String", name := "<init>", desc := "(Ljava/lang/StringBuilder;)V" } : Jvm.MethodName)).before a0 Z = true := hw _ (List.mem_of_getElem? (i := 153) rfl)
theorem tw154 {Z : State} {a0 : Array Value} (hw : ∀ d ∈ tables_1, d.before a0 Z = true) : (Jvm.Cond.code ({ cls := "java/lang/String", name := "<init>", desc := "(Ljava/lang/StringBuilder;)V" } : Jvm.MethodName) jdk_42_method_53_code (2 : Nat) (Option.none : Option Jvm.ClassFile.FieldType)).before a0 Z = true := hw _ (List.mem_of_getElem? (i := 154) rfl)
theorem tw155 {Z : State} {a0 : Array Value} (hw : ∀ d ∈ tables_1, d.before a0 Z = true) : (Jvm.Cond.methodLink "java/lang/String" (489 : Nat) ({ cls := "java/lang/String", name := "<init>", desc := "(Ljava/lang/AbstractStringBuilder;Ljava/lang/Void;)V" } : Jvm.MethodName)).before a0 Z = true := hw _ (List.mem_of_getElem? (i := 155) rfl)
theorem tw156 {Z : State} {a0 : Array Value} (hw : ∀ d ∈ tables_1, d.before a0 Z = true) : (Jvm.Cond.instanceMethod ({ cls := "java/lang/String", name := "<init>", desc := "(Ljava/lang/AbstractStringBuilder;Ljava/lang/Void;)V" } : Jvm.MethodName)).before a0 Z = true := hw _ (List.mem_of_getElem? (i := 156) rfl)
theorem tw157 {Z : State} {a0 : Array Value} (hw : ∀ d ∈ tables_1, d.before a0 Z = true) : (Jvm.Cond.code ({ cls := "java/lang/String", name := "<init>", desc := "(Ljava/lang/AbstractStringBuilder;Ljava/lang/Void;)V" } : Jvm.MethodName) jdk_42_method_150_code (5 : Nat) (Option.none : Option Jvm.ClassFile.FieldType)).before a0 Z = true := hw _ (List.mem_of_getElem? (i := 157) rfl)
theorem tw158 {Z : State} {a0 : Array Value} (hw : ∀ d ∈ tables_1, d.before a0 Z = true) : (Jvm.Cond.methodLink "java/lang/String" (552 : Nat) ({ cls := "java/lang/AbstractStringBuilder", name := "getValue", desc := "()[B" } : Jvm.MethodName)).before a0 Z = true := hw _ (List.mem_of_getElem? (i := 158) rfl)
theorem tw159 {Z : State} {a0 : Array Value} (hw : ∀ d ∈ tables_1, d.before a0 Z = true) : (Jvm.Cond.declares ({ cls := "java/lang/AbstractStringBuilder", name := "getValue", desc := "()[B" } : Jvm.MethodName)).before a0 Z = true := hw _ (List.mem_of_getElem? (i := 159) rfl)
theorem tw160 {Z : State} {a0 : Array Value} (hw : ∀ d ∈ tables_1, d.before a0 Z = true) : (Jvm.Cond.instanceMethod ({ cls := "java/lang/AbstractStringBuilder", name := "getValue", desc := "()[B" } : Jvm.MethodName)).before a0 Z = true := hw _ (List.mem_of_getElem? (i := 160) rfl)
theorem tw161 {Z : State} {a0 : Array Value} (hw : ∀ d ∈ tables_1, d.before a0 Z = true) : (Jvm.Cond.selects "java/lang/StringBuilder" ({ cls := "java/lang/AbstractStringBuilder", name := "getValue", desc := "()[B" } : Jvm.MethodName) ({ cls := "java/lang/AbstractStringBuilder", name := "getValue", desc := "()[B" } : Jvm.MethodName)).before a0 Z = true := hw _ (List.mem_of_getElem? (i := 161) rfl)
theorem tw162 {Z : State} {a0 : Array Value} (hw : ∀ d ∈ tables_1, d.before a0 Z = true) : (Jvm.Cond.code ({ cls := "java/lang/AbstractStringBuilder", name := "getValue", desc := "()[B" } : Jvm.MethodName) jdk_68_method_64_code (1 : Nat) (Option.some (Jvm.ClassFile.FieldType.array Jvm.ClassFile.FieldType.byte))).before a0 Z = true := hw _ (List.mem_of_getElem? (i := 162) rfl)
theorem tw163 {Z : State} {a0 : Array Value} (hw : ∀ d ∈ tables_1, d.before a0 Z = true) : (Jvm.Cond.methodLink "java/lang/String" (549 : Nat) ({ cls := "java/lang/AbstractStringBuilder", name := "length", desc := "()I" } : Jvm.MethodName)).before a0 Z = true := hw _ (List.mem_of_getElem? (i := 163) rfl)
theorem tw164 {Z : State} {a0 : Array Value} (hw : ∀ d ∈ tables_1, d.before a0 Z = true) : (Jvm.Cond.declares ({ cls := "java/lang/AbstractStringBuilder", name := "length", desc := "()I" } : Jvm.MethodName)).before a0 Z = true := hw _ (List.mem_of_getElem? (i := 164) rfl)
theorem tw165 {Z : State} {a0 : Array Value} (hw : ∀ d ∈ tables_1, d.before a0 Z = true) : (Jvm.Cond.instanceMethod ({ cls := "java/lang/AbstractStringBuilder", name := "length", desc := "()I" } : Jvm.MethodName)).before a0 Z = true := hw _ (List.mem_of_getElem? (i := 165) rfl)
theorem tw166 {Z : State} {a0 : Array Value} (hw : ∀ d ∈ tables_1, d.before a0 Z = true) : (Jvm.Cond.selects "java/lang/StringBuilder" ({ cls := "java/lang/AbstractStringBuilder", name := "length", desc := "()I" } : Jvm.MethodName) ({ cls := "java/lang/StringBuilder", name := "length", desc := "()I" } : Jvm.MethodName)).before a0 Z = true := hw _ (List.mem_of_getElem? (i := 166) rfl)
theorem tw167 {Z : State} {a0 : Array Value} (hw : ∀ d ∈ tables_1, d.before a0 Z = true) : (Jvm.Cond.instanceMethod ({ cls := "java/lang/StringBuilder", name := "length", desc := "()I" } : Jvm.MethodName)).before a0 Z = true := hw _ (List.mem_of_getElem? (i := 167) rfl)
theorem tw168 {Z : State} {a0 : Array Value} (hw : ∀ d ∈ tables_1, d.before a0 Z = true) : (Jvm.Cond.code ({ cls := "java/lang/StringBuilder", name := "length", desc := "()I" } : Jvm.MethodName) jdk_67_method_93_code (1 : Nat) (Option.some Jvm.ClassFile.FieldType.int)).before a0 Z = true := hw _ (List.mem_of_getElem? (i := 168) rfl)
theorem tw169 {Z : State} {a0 : Array Value} (hw : ∀ d ∈ tables_1, d.before a0 Z = true) : (Jvm.Cond.methodLink "java/lang/StringBuilder" (343 : Nat) ({ cls := "java/lang/AbstractStringBuilder", name := "length", desc := "()I" } : Jvm.MethodName)).before a0 Z = true := hw _ (List.mem_of_getElem? (i := 169) rfl)
theorem tw170 {Z : State} {a0 : Array Value} (hw : ∀ d ∈ tables_1, d.before a0 Z = true) : (Jvm.Cond.code ({ cls := "java/lang/AbstractStringBuilder", name := "length", desc := "()I" } : Jvm.MethodName) jdk_68_method_6_code (1 : Nat) (Option.some Jvm.ClassFile.FieldType.int)).before a0 Z = true := hw _ (List.mem_of_getElem? (i := 170) rfl)
theorem tw171 {Z : State} {a0 : Array Value} (hw : ∀ d ∈ tables_1, d.before a0 Z = true) : (Jvm.Cond.methodLink "java/lang/String" (1047 : Nat) ({ cls := "java/lang/AbstractStringBuilder", name := "isLatin1", desc := "()Z" } : Jvm.MethodName)).before a0 Z = true := hw _ (List.mem_of_getElem? (i := 171) rfl)
theorem tw172 {Z : State} {a0 : Array Value} (hw : ∀ d ∈ tables_1, d.before a0 Z = true) : (Jvm.Cond.methodLink "java/lang/String" (54 : Nat) ({ cls := "java/util/Arrays", name := "copyOfRange", desc := "([BII)[B" } : Jvm.MethodName)).before a0 Z = true := hw _ (List.mem_of_getElem? (i := 172) rfl)
theorem tw173 {Z : State} {a0 : Array Value} (hw : ∀ d ∈ tables_1, d.before a0 Z = true) : (Jvm.Cond.static ({ cls := "java/util/Arrays", name := "copyOfRange", desc := "([BII)[B" } : Jvm.MethodName)).before a0 Z = true := hw _ (List.mem_of_getElem? (i := 173) rfl)
theorem tw174 {Z : State} {a0 : Array Value} (hw : ∀ d ∈ tables_1, d.before a0 Z = true) : (Jvm.Cond.code ({ cls := "java/util/Arrays", name := "copyOfRange", desc := "([BII)[B" } : Jvm.MethodName) jdk_65_method_132_code (3 : Nat) (Option.some (Jvm.ClassFile.FieldType.array Jvm.ClassFile.FieldType.byte))).before a0 Z = true := hw _ (List.mem_of_getElem? (i := 174) rfl)
theorem tw175 {Z : State} {a0 : Array Value} (hw : ∀ d ∈ tables_1, d.before a0 Z = true) : (Jvm.Cond.methodLink "java/util/Arrays" (339 : Nat) ({ cls := "java/util/Arrays", name := "copyOfRangeByte", desc := "([BII)[B" } : Jvm.MethodName)).before a0 Z = true := hw _ (List.mem_of_getElem? (i := 175) rfl)
theorem tw176 {Z : State} {a0 : Array Value} (hw : ∀ d ∈ tables_1, d.before a0 Z = true) : (Jvm.Cond.static ({ cls := "java/util/Arrays", name := "copyOfRangeByte", desc := "([BII)[B" } : Jvm.MethodName)).before a0 Z = true := hw _ (List.mem_of_getElem? (i := 176) rfl)
theorem tw177 {Z : State} {a0 : Array Value} (hw : ∀ d ∈ tables_1, d.before a0 Z = true) : (Jvm.Cond.code ({ cls := "java/util/Arrays", name := "copyOfRangeByte", desc := "([BII)[B" } : Jvm.MethodName) jdk_65_method_133_code (5 : Nat) (Option.some (Jvm.ClassFile.FieldType.array Jvm.ClassFile.FieldType.byte))).before a0 Z = true := hw _ (List.mem_of_getElem? (i := 177) rfl)
theorem tw178 {Z : State} {a0 : Array Value} (hw : ∀ d ∈ tables_1, d.before a0 Z = true) : (Jvm.Cond.methodLink "java/util/Arrays" (343 : Nat) ({ cls := "java/util/Arrays", name := "checkLength", desc := "(II)V" } : Jvm.MethodName)).before a0 Z = true := hw _ (List.mem_of_getElem? (i := 178) rfl)
theorem tw179 {Z : State} {a0 : Array Value} (hw : ∀ d ∈ tables_1, d.before a0 Z = true) : (Jvm.Cond.static ({ cls := "java/util/Arrays", name := "checkLength", desc := "(II)V" } : Jvm.MethodName)).before a0 Z = true := hw _ (List.mem_of_getElem? (i := 179) rfl)
theorem tw180 {Z : State} {a0 : Array Value} (hw : ∀ d ∈ tables_1, d.before a0 Z = true) : (Jvm.Cond.code ({ cls := "java/util/Arrays", name := "checkLength", desc := "(II)V" } : Jvm.MethodName) jdk_65_method_131_code (2 : Nat) (Option.none : Option Jvm.ClassFile.FieldType)).before a0 Z = true := hw _ (List.mem_of_getElem? (i := 180) rfl)
theorem tw181 {Z : State} {a0 : Array Value} (hw : ∀ d ∈ tables_1, d.before a0 Z = true) : (Jvm.Cond.methodLink "com/example/gate_to_handlers/gatetohandlers/ObjectErrorToStringPinLaw" (37 : Nat) ({ cls := "com/example/gate_to_handlers/gatetohandlers/ObjectErrorToStringPinLaw", name := "shown", desc := "(Ljava/lang/String;)Ljava/lang/String;" } : Jvm.MethodName)).before a0 Z = true := hw _ (List.mem_of_getElem? (i := 181) rfl)
theorem tw182 {Z : State} {a0 : Array Value} (hw : ∀ d ∈ tables_1, d.before a0 Z = true) : (Jvm.Cond.static ({ cls := "com/example/gate_to_handlers/gatetohandlers/ObjectErrorToStringPinLaw", name := "shown", desc := "(Ljava/lang/String;)Ljava/lang/String;" } : Jvm.MethodName)).before a0 Z = true := hw _ (List.mem_of_getElem? (i := 182) rfl)
theorem tw183 {Z : State} {a0 : Array Value} (hw : ∀ d ∈ tables_1, d.before a0 Z = true) : (Jvm.Cond.code ({ cls := "com/example/gate_to_handlers/gatetohandlers/ObjectErrorToStringPinLaw", name := "shown", desc := "(Ljava/lang/String;)Ljava/lang/String;" } : Jvm.MethodName) method_3_code (1 : Nat) (Option.some (Jvm.ClassFile.FieldType.object "java/lang/String"))).before a0 Z = true := hw _ (List.mem_of_getElem? (i := 183) rfl)
theorem tw184 {Z : State} {a0 : Array Value} (hw : ∀ d ∈ tables_1, d.before a0 Z = true) : (Jvm.Cond.stringLink "com/example/gate_to_handlers/gatetohandlers/ObjectErrorToStringPinLaw" (12 : Nat) "null").before a0 Z = true := hw _ (List.mem_of_getElem? (i := 184) rfl)
theorem tw185 {Z : State} {a0 : Array Value} (hw : ∀ d ∈ tables_1, d.before a0 Z = true) : (Jvm.Cond.stringLink "com/example/gate_to_handlers/gatetohandlers/ObjectErrorToStringPinLaw" (41 : Nat) "error ").before a0 Z = true := hw _ (List.mem_of_getElem? (i := 185) rfl)
theorem tw186 {Z : State} {a0 : Array Value} (hw : ∀ d ∈ tables_1, d.before a0 Z = true) : (Jvm.Cond.methodLink "com/example/gate_to_handlers/gatetohandlers/ObjectErrorToStringPinLaw" (43 : Nat) ({ cls := "com/example/gate_to_handlers/gatetohandlers/ObjectErrorToStringPinLaw", name := "at", desc := "(Ljava/lang/String;ILjava/lang/String;)Z" } : Jvm.MethodName)).before a0 Z = true := hw _ (List.mem_of_getElem? (i := 186) rfl)
theorem tw187 {Z : State} {a0 : Array Value} (hw : ∀ d ∈ tables_1, d.before a0 Z = true) : (Jvm.Cond.static ({ cls := "com/example/gate_to_handlers/gatetohandlers/ObjectErrorToStringPinLaw", name := "at", desc := "(Ljava/lang/String;ILjava/lang/String;)Z" } : Jvm.MethodName)).before a0 Z = true := hw _ (List.mem_of_getElem? (i := 187) rfl)
theorem tw188 {Z : State} {a0 : Array Value} (hw : ∀ d ∈ tables_1, d.before a0 Z = true) : (Jvm.Cond.code ({ cls := "com/example/gate_to_handlers/gatetohandlers/ObjectErrorToStringPinLaw", name := "at", desc := "(Ljava/lang/String;ILjava/lang/String;)Z" } : Jvm.MethodName) method_4_code (4 : Nat) (Option.some Jvm.ClassFile.FieldType.boolean)).before a0 Z = true := hw _ (List.mem_of_getElem? (i := 188) rfl)
theorem tw189 {Z : State} {a0 : Array Value} (hw : ∀ d ∈ tables_1, d.before a0 Z = true) : (Jvm.Cond.methodLink "com/example/gate_to_handlers/gatetohandlers/ObjectErrorToStringPinLaw" (14 : Nat) ({ cls := "java/lang/String", name := "length", desc := "()I" } : Jvm.MethodName)).before a0 Z = true := hw _ (List.mem_of_getElem? (i := 189) rfl)
theorem tw190 {Z : State} {a0 : Array Value} (hw : ∀ d ∈ tables_1, d.before a0 Z = true) : (Jvm.Cond.methodLink "com/example/gate_to_handlers/gatetohandlers/ObjectErrorToStringPinLaw" (18 : Nat) ({ cls := "java/lang/String", name := "charAt", desc := "(I)C" } : Jvm.MethodName)).before a0 Z = true := hw _ (List.mem_of_getElem? (i := 190) rfl)
theorem tw191 {Z : State} {a0 : Array Value} (hw : ∀ d ∈ tables_1, d.before a0 Z = true) : (Jvm.Cond.declares ({ cls := "java/lang/String", name := "charAt", desc := "(I)C" } : Jvm.MethodName)).before a0 Z = true := hw _ (List.mem_of_getElem? (i := 191) rfl)
theorem tw192 {Z : State} {a0 : Array Value} (hw : ∀ d ∈ tables_1, d.before a0 Z = true) : (Jvm.Cond.instanceMethod ({ cls := "java/lang/String", name := "charAt", desc := "(I)C" } : Jvm.MethodName)).before a0 Z = true := hw _ (List.mem_of_getElem? (i := 192) rfl)
theorem tw193 {Z : State} {a0 : Array Value} (hw : ∀ d ∈ tables_1, d.before a0 Z = true) : (Jvm.Cond.selects "java/lang/String" ({ cls := "java/lang/String", name := "charAt", desc := "(I)C" } : Jvm.MethodName) ({ cls := "java/lang/String", name := "charAt", desc := "(I)C" } : Jvm.MethodName)).before a0 Z = true := hw _ (List.mem_of_getElem? (i := 193) rfl)
theorem tw212 {Z : State} {a0 : Array Value} (hw : ∀ d ∈ tables_1, d.before a0 Z = true) : (Jvm.Cond.stringLink "com/example/gate_to_handlers/gatetohandlers/ObjectErrorToStringPinLaw" (47 : Nat) " of ").before a0 Z = true := hw _ (List.mem_of_getElem? (i := 212) rfl)
theorem tw213 {Z : State} {a0 : Array Value} (hw : ∀ d ∈ tables_1, d.before a0 Z = true) : (Jvm.Cond.stringLink "com/example/gate_to_handlers/gatetohandlers/ObjectErrorToStringPinLaw" (49 : Nat) ": ").before a0 Z = true := hw _ (List.mem_of_getElem? (i := 213) rfl)
theorem tw224 {Z : State} {a0 : Array Value} (hw : ∀ d ∈ tables_1, d.before a0 Z = true) : (Jvm.Cond.methodLink "java/util/Arrays" (310 : Nat) ({ cls := "[B", name := "clone", desc := "()Ljava/lang/Object;" } : Jvm.MethodName)).before a0 Z = true := hw _ (List.mem_of_getElem? (i := 224) rfl)
theorem tw225 {Z : State} {a0 : Array Value} (hw : ∀ d ∈ tables_1, d.before a0 Z = true) : (Jvm.Cond.sameMethod "[B" "java/lang/Object" "clone" "()Ljava/lang/Object;").before a0 Z = true := hw _ (List.mem_of_getElem? (i := 225) rfl)
theorem tw227 {Z : State} {a0 : Array Value} (hw : ∀ d ∈ tables_1, d.before a0 Z = true) : (Jvm.Cond.instanceMethod ({ cls := "java/lang/Object", name := "clone", desc := "()Ljava/lang/Object;" } : Jvm.MethodName)).before a0 Z = true := hw _ (List.mem_of_getElem? (i := 227) rfl)
theorem tw228 {Z : State} {a0 : Array Value} (hw : ∀ d ∈ tables_1, d.before a0 Z = true) : (Jvm.Cond.selects "[B" ({ cls := "[B", name := "clone", desc := "()Ljava/lang/Object;" } : Jvm.MethodName) ({ cls := "java/lang/Object", name := "clone", desc := "()Ljava/lang/Object;" } : Jvm.MethodName)).before a0 Z = true := hw _ (List.mem_of_getElem? (i := 228) rfl)
theorem tw229 {Z : State} {a0 : Array Value} (hw : ∀ d ∈ tables_1, d.before a0 Z = true) : (Jvm.Cond.native ({ cls := "java/lang/Object", name := "clone", desc := "()Ljava/lang/Object;" } : Jvm.MethodName)).before a0 Z = true := hw _ (List.mem_of_getElem? (i := 229) rfl)
theorem tw230 {Z : State} {a0 : Array Value} (hw : ∀ d ∈ tables_1, d.before a0 Z = true) : (Jvm.Cond.castable "[B" "java/lang/Cloneable").before a0 Z = true := hw _ (List.mem_of_getElem? (i := 230) rfl)
theorem tw231 {Z : State} {a0 : Array Value} (hw : ∀ d ∈ tables_1, d.before a0 Z = true) : (Jvm.Cond.classLink "java/util/Arrays" (311 : Nat) "[B").before a0 Z = true := hw _ (List.mem_of_getElem? (i := 231) rfl)
theorem d0_0 : decode jdk_42_method_152_code 0 = .ok (.getstatic 38, 3) := by decide +kernel
theorem d0_3 : decode jdk_42_method_152_code 3 = .ok (.ifCond .eq 10, 3) := by decide +kernel
theorem d0_6 : decode jdk_42_method_152_code 6 = .ok (.aload_n 0, 1) := by decide +kernel
theorem d0_7 : decode jdk_42_method_152_code 7 = .ok (.getfield 15, 3) := by decide +kernel
theorem d0_10 : decode jdk_42_method_152_code 10 = .ok (.goto 4, 3) := by decide +kernel
theorem d0_14 : decode jdk_42_method_152_code 14 = .ok (.ireturn, 1) := by decide +kernel
theorem pn_0 : plainName "java/lang/String" = true := by first | (simp [plainName, overriddenIn]; done) | decide +kernel
theorem d1_0 : decode jdk_68_method_6_code 0 = .ok (.aload_n 0, 1) := by decide +kernel
theorem d1_1 : decode jdk_68_method_6_code 1 = .ok (.getfield 79, 3) := by decide +kernel
theorem d1_4 : decode jdk_68_method_6_code 4 = .ok (.ireturn, 1) := by decide +kernel
theorem pn_1 : plainName "java/lang/AbstractStringBuilder" = true := by first | (simp [plainName, overriddenIn]; done) | decide +kernel
theorem d2_0 : decode jdk_67_method_93_code 0 = .ok (.aload_n 0, 1) := by decide +kernel
theorem pd_0 : parseMethodDescriptor "()I" = some ⟨[], some .int⟩ := by decide +kernel
theorem d2_1 : decode jdk_67_method_93_code 1 = .ok (.invokespecial 343, 3) := by decide +kernel
theorem d2_4 : decode jdk_67_method_93_code 4 = .ok (.ireturn, 1) := by decide +kernel
theorem pn_2 : plainName "java/lang/StringBuilder" = true := by first | (simp [plainName, overriddenIn]; done) | decide +kernel
theorem d3_0 : decode jdk_68_method_64_code 0 = .ok (.aload_n 0, 1) := by decide +kernel
theorem d3_1 : decode jdk_68_method_64_code 1 = .ok (.getfield 15, 3) := by decide +kernel
theorem d3_4 : decode jdk_68_method_64_code 4 = .ok (.areturn, 1) := by decide +kernel
theorem d4_0 : decode jdk_68_method_68_code 0 = .ok (.getstatic 18, 3) := by decide +kernel
theorem d4_3 : decode jdk_68_method_68_code 3 = .ok (.ifCond .eq 14, 3) := by decide +kernel
theorem d4_6 : decode jdk_68_method_68_code 6 = .ok (.aload_n 0, 1) := by decide +kernel
theorem d4_7 : decode jdk_68_method_68_code 7 = .ok (.getfield 22, 3) := by decide +kernel
theorem d4_10 : decode jdk_68_method_68_code 10 = .ok (.ifCond .ne 7, 3) := by decide +kernel
theorem d4_13 : decode jdk_68_method_68_code 13 = .ok (.iconst 1, 1) := by decide +kernel
theorem d4_14 : decode jdk_68_method_68_code 14 = .ok (.goto 4, 3) := by decide +kernel
theorem d4_18 : decode jdk_68_method_68_code 18 = .ok (.ireturn, 1) := by decide +kernel
theorem d5_0 : decode jdk_68_method_71_code 0 = .ok (.getstatic 18, 3) := by decide +kernel
theorem d5_3 : decode jdk_68_method_71_code 3 = .ok (.ifCond .eq 18, 3) := by decide +kernel
theorem d5_6 : decode jdk_68_method_71_code 6 = .ok (.aload_n 0, 1) := by decide +kernel
theorem d5_7 : decode jdk_68_method_71_code 7 = .ok (.getfield 22, 3) := by decide +kernel
theorem d5_10 : decode jdk_68_method_71_code 10 = .ok (.aload_n 1, 1) := by decide +kernel
theorem pd_1 : parseMethodDescriptor "()B" = some ⟨[], some .byte⟩ := by decide +kernel
theorem d5_11 : decode jdk_68_method_71_code 11 = .ok (.invokevirtual 40, 3) := by decide +kernel
theorem d5_14 : decode jdk_68_method_71_code 14 = .ok (.if_icmp .eq 7, 3) := by decide +kernel
theorem d5_21 : decode jdk_68_method_71_code 21 = .ok (.return_, 1) := by decide +kernel
theorem d6_0 : decode jdk_42_method_147_code 0 = .ok (.aload_n 0, 1) := by decide +kernel
theorem d6_1 : decode jdk_42_method_147_code 1 = .ok (.invokevirtual 335, 3) := by decide +kernel
theorem d6_4 : decode jdk_42_method_147_code 4 = .ok (.iload_n 3, 1) := by decide +kernel
theorem d6_5 : decode jdk_42_method_147_code 5 = .ok (.if_icmp .ne 23, 3) := by decide +kernel
theorem d6_8 : decode jdk_42_method_147_code 8 = .ok (.aload_n 0, 1) := by decide +kernel
theorem d6_9 : decode jdk_42_method_147_code 9 = .ok (.getfield 9, 3) := by decide +kernel
theorem d6_12 : decode jdk_42_method_147_code 12 = .ok (.iconst 0, 1) := by decide +kernel
theorem d6_13 : decode jdk_42_method_147_code 13 = .ok (.aload_n 1, 1) := by decide +kernel
theorem d6_14 : decode jdk_42_method_147_code 14 = .ok (.iload_n 2, 1) := by decide +kernel
theorem d6_15 : decode jdk_42_method_147_code 15 = .ok (.iload_n 3, 1) := by decide +kernel
theorem d6_16 : decode jdk_42_method_147_code 16 = .ok (.ishl, 1) := by decide +kernel
theorem d6_17 : decode jdk_42_method_147_code 17 = .ok (.aload_n 0, 1) := by decide +kernel
theorem d6_18 : decode jdk_42_method_147_code 18 = .ok (.getfield 9, 3) := by decide +kernel
theorem d6_21 : decode jdk_42_method_147_code 21 = .ok (.arraylength, 1) := by decide +kernel
theorem d6_22 : decode jdk_42_method_147_code 22 = .ok (.invokestatic 212, 3) := by decide +kernel
theorem d6_25 : decode jdk_42_method_147_code 25 = .ok (.goto 18, 3) := by decide +kernel
theorem d6_43 : decode jdk_42_method_147_code 43 = .ok (.return_, 1) := by decide +kernel
theorem d7_0 : decode jdk_68_method_73_code 0 = .ok (.aload_n 0, 1) := by decide +kernel
theorem d7_1 : decode jdk_68_method_73_code 1 = .ok (.aload_n 2, 1) := by decide +kernel
theorem pd_2 : parseMethodDescriptor "(Ljava/lang/String;)V" = some ⟨[(.object "java/lang/String")], none⟩ := by decide +kernel
theorem d7_2 : decode jdk_68_method_73_code 2 = .ok (.invokevirtual 397, 3) := by decide +kernel
theorem d7_5 : decode jdk_68_method_73_code 5 = .ok (.aload_n 2, 1) := by decide +kernel
theorem d7_6 : decode jdk_68_method_73_code 6 = .ok (.aload_n 0, 1) := by decide +kernel
theorem d7_7 : decode jdk_68_method_73_code 7 = .ok (.getfield 15, 3) := by decide +kernel
theorem d7_10 : decode jdk_68_method_73_code 10 = .ok (.iload_n 1, 1) := by decide +kernel
theorem d7_11 : decode jdk_68_method_73_code 11 = .ok (.aload_n 0, 1) := by decide +kernel
theorem d7_12 : decode jdk_68_method_73_code 12 = .ok (.getfield 22, 3) := by decide +kernel
theorem pd_3 : parseMethodDescriptor "([BIB)V" = some ⟨[(.array .byte), .int, .byte], none⟩ := by decide +kernel
theorem d7_15 : decode jdk_68_method_73_code 15 = .ok (.invokevirtual 399, 3) := by decide +kernel
theorem d7_18 : decode jdk_68_method_73_code 18 = .ok (.return_, 1) := by decide +kernel
theorem d8_0 : decode jdk_29_method_65_code 0 = .ok (.iload_n 0, 1) := by decide +kernel
theorem d8_1 : decode jdk_29_method_65_code 1 = .ok (.iload_n 1, 1) := by decide +kernel
theorem d8_2 : decode jdk_29_method_65_code 2 = .ok (.if_icmp .lt 7, 3) := by decide +kernel
theorem d8_9 : decode jdk_29_method_65_code 9 = .ok (.iload_n 1, 1) := by decide +kernel
theorem d8_10 : decode jdk_29_method_65_code 10 = .ok (.ireturn, 1) := by decide +kernel
theorem d8_5 : decode jdk_29_method_65_code 5 = .ok (.iload_n 0, 1) := by decide +kernel
theorem d8_6 : decode jdk_29_method_65_code 6 = .ok (.goto 4, 3) := by decide +kernel
theorem d9_0 : decode jdk_29_method_69_code 0 = .ok (.iload_n 0, 1) := by decide +kernel
theorem d9_1 : decode jdk_29_method_69_code 1 = .ok (.iload_n 1, 1) := by decide +kernel
theorem d9_2 : decode jdk_29_method_69_code 2 = .ok (.if_icmp .gt 7, 3) := by decide +kernel
theorem d9_9 : decode jdk_29_method_69_code 9 = .ok (.iload_n 1, 1) := by decide +kernel
theorem d9_10 : decode jdk_29_method_69_code 10 = .ok (.ireturn, 1) := by decide +kernel
theorem d9_5 : decode jdk_29_method_69_code 5 = .ok (.iload_n 0, 1) := by decide +kernel
theorem d9_6 : decode jdk_29_method_69_code 6 = .ok (.goto 4, 3) := by decide +kernel
theorem d10_0 : decode jdk_48_method_27_code 0 = .ok (.iload_n 0, 1) := by decide +kernel
theorem d10_1 : decode jdk_48_method_27_code 1 = .ok (.iload_n 1, 1) := by decide +kernel
theorem d10_2 : decode jdk_48_method_27_code 2 = .ok (.iload_n 2, 1) := by decide +kernel
theorem pd_4 : parseMethodDescriptor "(II)I" = some ⟨[.int, .int], some .int⟩ := by decide +kernel
theorem d10_3 : decode jdk_48_method_27_code 3 = .ok (.invokestatic 194, 3) := by decide +kernel
theorem d10_6 : decode jdk_48_method_27_code 6 = .ok (.iadd, 1) := by decide +kernel
theorem d10_7 : decode jdk_48_method_27_code 7 = .ok (.istore_n 3, 1) := by decide +kernel
theorem d10_8 : decode jdk_48_method_27_code 8 = .ok (.iconst 0, 1) := by decide +kernel
theorem d10_9 : decode jdk_48_method_27_code 9 = .ok (.iload_n 3, 1) := by decide +kernel
theorem d10_10 : decode jdk_48_method_27_code 10 = .ok (.if_icmp .ge 11, 3) := by decide +kernel
theorem d10_13 : decode jdk_48_method_27_code 13 = .ok (.iload_n 3, 1) := by decide +kernel
theorem d10_14 : decode jdk_48_method_27_code 14 = .ok (.ldc 200, 2) := by decide +kernel
theorem d10_16 : decode jdk_48_method_27_code 16 = .ok (.if_icmp .gt 5, 3) := by decide +kernel
theorem d10_19 : decode jdk_48_method_27_code 19 = .ok (.iload_n 3, 1) := by decide +kernel
theorem d10_20 : decode jdk_48_method_27_code 20 = .ok (.ireturn, 1) := by decide +kernel
theorem pn_3 : plainName "jdk/internal/util/ArraysSupport" = true := by first | (simp [plainName, overriddenIn]; done) | decide +kernel
theorem d11_0 : decode jdk_68_method_10_code 0 = .ok (.aload_n 0, 1) := by decide +kernel
theorem d11_1 : decode jdk_68_method_10_code 1 = .ok (.getfield 15, 3) := by decide +kernel
theorem d11_4 : decode jdk_68_method_10_code 4 = .ok (.arraylength, 1) := by decide +kernel
theorem d11_5 : decode jdk_68_method_10_code 5 = .ok (.istore_n 2, 1) := by decide +kernel
theorem d11_6 : decode jdk_68_method_10_code 6 = .ok (.iload_n 1, 1) := by decide +kernel
theorem d11_7 : decode jdk_68_method_10_code 7 = .ok (.aload_n 0, 1) := by decide +kernel
theorem d11_8 : decode jdk_68_method_10_code 8 = .ok (.getfield 22, 3) := by decide +kernel
theorem d11_11 : decode jdk_68_method_10_code 11 = .ok (.ishl, 1) := by decide +kernel
theorem d11_12 : decode jdk_68_method_10_code 12 = .ok (.istore_n 3, 1) := by decide +kernel
theorem d11_13 : decode jdk_68_method_10_code 13 = .ok (.iload_n 3, 1) := by decide +kernel
theorem d11_14 : decode jdk_68_method_10_code 14 = .ok (.iload_n 2, 1) := by decide +kernel
theorem d11_15 : decode jdk_68_method_10_code 15 = .ok (.isub, 1) := by decide +kernel
theorem d11_16 : decode jdk_68_method_10_code 16 = .ok (.istore 4, 2) := by decide +kernel
theorem d11_18 : decode jdk_68_method_10_code 18 = .ok (.iload_n 2, 1) := by decide +kernel
theorem d11_19 : decode jdk_68_method_10_code 19 = .ok (.iload 4, 2) := by decide +kernel
theorem d11_21 : decode jdk_68_method_10_code 21 = .ok (.iload_n 2, 1) := by decide +kernel
theorem d11_22 : decode jdk_68_method_10_code 22 = .ok (.iconst 2, 1) := by decide +kernel
theorem d11_23 : decode jdk_68_method_10_code 23 = .ok (.aload_n 0, 1) := by decide +kernel
theorem d11_24 : decode jdk_68_method_10_code 24 = .ok (.getfield 22, 3) := by decide +kernel
theorem d11_27 : decode jdk_68_method_10_code 27 = .ok (.ishl, 1) := by decide +kernel
theorem d11_28 : decode jdk_68_method_10_code 28 = .ok (.iadd, 1) := by decide +kernel
theorem pd_5 : parseMethodDescriptor "(III)I" = some ⟨[.int, .int, .int], some .int⟩ := by decide +kernel
theorem d11_29 : decode jdk_68_method_10_code 29 = .ok (.invokestatic 114, 3) := by decide +kernel
theorem d11_32 : decode jdk_68_method_10_code 32 = .ok (.istore 5, 2) := by decide +kernel
theorem d11_34 : decode jdk_68_method_10_code 34 = .ok (.iload 5, 2) := by decide +kernel
theorem d11_36 : decode jdk_68_method_10_code 36 = .ok (.ldc 39, 2) := by decide +kernel
theorem d11_38 : decode jdk_68_method_10_code 38 = .ok (.if_icmp .ne 13, 3) := by decide +kernel
theorem d11_51 : decode jdk_68_method_10_code 51 = .ok (.iload 5, 2) := by decide +kernel
theorem d11_53 : decode jdk_68_method_10_code 53 = .ok (.aload_n 0, 1) := by decide +kernel
theorem d11_54 : decode jdk_68_method_10_code 54 = .ok (.getfield 22, 3) := by decide +kernel
theorem d11_57 : decode jdk_68_method_10_code 57 = .ok (.ishr, 1) := by decide +kernel
theorem d11_58 : decode jdk_68_method_10_code 58 = .ok (.ireturn, 1) := by decide +kernel
theorem d12_0 : decode jdk_65_method_121_code 0 = .ok (.iload_n 1, 1) := by decide +kernel
theorem d12_1 : decode jdk_65_method_121_code 1 = .ok (.aload_n 0, 1) := by decide +kernel
theorem d12_2 : decode jdk_65_method_121_code 2 = .ok (.arraylength, 1) := by decide +kernel
theorem d12_3 : decode jdk_65_method_121_code 3 = .ok (.if_icmp .ne 11, 3) := by decide +kernel
theorem d12_14 : decode jdk_65_method_121_code 14 = .ok (.iload_n 1, 1) := by decide +kernel
theorem d12_15 : decode jdk_65_method_121_code 15 = .ok (.newarray .byte, 2) := by decide +kernel
theorem d12_17 : decode jdk_65_method_121_code 17 = .ok (.astore_n 2, 1) := by decide +kernel
theorem d12_18 : decode jdk_65_method_121_code 18 = .ok (.aload_n 0, 1) := by decide +kernel
theorem d12_19 : decode jdk_65_method_121_code 19 = .ok (.iconst 0, 1) := by decide +kernel
theorem d12_20 : decode jdk_65_method_121_code 20 = .ok (.aload_n 2, 1) := by decide +kernel
theorem d12_21 : decode jdk_65_method_121_code 21 = .ok (.iconst 0, 1) := by decide +kernel
theorem d12_22 : decode jdk_65_method_121_code 22 = .ok (.aload_n 0, 1) := by decide +kernel
theorem d12_23 : decode jdk_65_method_121_code 23 = .ok (.arraylength, 1) := by decide +kernel
theorem d12_24 : decode jdk_65_method_121_code 24 = .ok (.iload_n 1, 1) := by decide +kernel
theorem d12_25 : decode jdk_65_method_121_code 25 = .ok (.invokestatic 304, 3) := by decide +kernel
theorem d12_28 : decode jdk_65_method_121_code 28 = .ok (.invokestatic 150, 3) := by decide +kernel
theorem d12_31 : decode jdk_65_method_121_code 31 = .ok (.aload_n 2, 1) := by decide +kernel
theorem d12_32 : decode jdk_65_method_121_code 32 = .ok (.areturn, 1) := by decide +kernel
theorem pn_4 : plainName "java/util/Arrays" = true := by first | (simp [plainName, overriddenIn]; done) | decide +kernel
theorem d13_0 : decode jdk_68_method_9_code 0 = .ok (.aload_n 0, 1) := by decide +kernel
theorem d13_1 : decode jdk_68_method_9_code 1 = .ok (.getfield 15, 3) := by decide +kernel
theorem d13_4 : decode jdk_68_method_9_code 4 = .ok (.arraylength, 1) := by decide +kernel
theorem d13_5 : decode jdk_68_method_9_code 5 = .ok (.aload_n 0, 1) := by decide +kernel
theorem d13_6 : decode jdk_68_method_9_code 6 = .ok (.getfield 22, 3) := by decide +kernel
theorem d13_9 : decode jdk_68_method_9_code 9 = .ok (.ishr, 1) := by decide +kernel
theorem d13_10 : decode jdk_68_method_9_code 10 = .ok (.istore_n 2, 1) := by decide +kernel
theorem d13_11 : decode jdk_68_method_9_code 11 = .ok (.iload_n 1, 1) := by decide +kernel
theorem d13_12 : decode jdk_68_method_9_code 12 = .ok (.iload_n 2, 1) := by decide +kernel
theorem d13_13 : decode jdk_68_method_9_code 13 = .ok (.isub, 1) := by decide +kernel
theorem d13_14 : decode jdk_68_method_9_code 14 = .ok (.ifCond .le 24, 3) := by decide +kernel
theorem d13_38 : decode jdk_68_method_9_code 38 = .ok (.return_, 1) := by decide +kernel
theorem d13_17 : decode jdk_68_method_9_code 17 = .ok (.aload_n 0, 1) := by decide +kernel
theorem d13_18 : decode jdk_68_method_9_code 18 = .ok (.aload_n 0, 1) := by decide +kernel
theorem d13_19 : decode jdk_68_method_9_code 19 = .ok (.getfield 15, 3) := by decide +kernel
theorem d13_22 : decode jdk_68_method_9_code 22 = .ok (.aload_n 0, 1) := by decide +kernel
theorem d13_23 : decode jdk_68_method_9_code 23 = .ok (.iload_n 1, 1) := by decide +kernel
theorem pd_6 : parseMethodDescriptor "(I)I" = some ⟨[.int], some .int⟩ := by decide +kernel
theorem d13_24 : decode jdk_68_method_9_code 24 = .ok (.invokevirtual 104, 3) := by decide +kernel
theorem d13_27 : decode jdk_68_method_9_code 27 = .ok (.aload_n 0, 1) := by decide +kernel
theorem d13_28 : decode jdk_68_method_9_code 28 = .ok (.getfield 22, 3) := by decide +kernel
theorem d13_31 : decode jdk_68_method_9_code 31 = .ok (.ishl, 1) := by decide +kernel
theorem pd_7 : parseMethodDescriptor "([BI)[B" = some ⟨[(.array .byte), .int], some (.array .byte)⟩ := by decide +kernel
theorem d13_32 : decode jdk_68_method_9_code 32 = .ok (.invokestatic 108, 3) := by decide +kernel
theorem d13_35 : decode jdk_68_method_9_code 35 = .ok (.putfield 15, 3) := by decide +kernel
theorem d14_0 : decode jdk_68_method_22_code 0 = .ok (.aload_n 1, 1) := by decide +kernel
theorem d14_1 : decode jdk_68_method_22_code 1 = .ok (.ifnonnull 8, 3) := by decide +kernel
theorem d14_9 : decode jdk_68_method_22_code 9 = .ok (.aload_n 1, 1) := by decide +kernel
theorem d14_10 : decode jdk_68_method_22_code 10 = .ok (.invokevirtual 32, 3) := by decide +kernel
theorem d14_13 : decode jdk_68_method_22_code 13 = .ok (.istore_n 2, 1) := by decide +kernel
theorem d14_14 : decode jdk_68_method_22_code 14 = .ok (.aload_n 0, 1) := by decide +kernel
theorem d14_15 : decode jdk_68_method_22_code 15 = .ok (.aload_n 0, 1) := by decide +kernel
theorem d14_16 : decode jdk_68_method_22_code 16 = .ok (.getfield 79, 3) := by decide +kernel
theorem d14_19 : decode jdk_68_method_22_code 19 = .ok (.iload_n 2, 1) := by decide +kernel
theorem d14_20 : decode jdk_68_method_22_code 20 = .ok (.iadd, 1) := by decide +kernel
theorem pd_8 : parseMethodDescriptor "(I)V" = some ⟨[.int], none⟩ := by decide +kernel
theorem d14_21 : decode jdk_68_method_22_code 21 = .ok (.invokevirtual 100, 3) := by decide +kernel
theorem d14_24 : decode jdk_68_method_22_code 24 = .ok (.aload_n 0, 1) := by decide +kernel
theorem d14_25 : decode jdk_68_method_22_code 25 = .ok (.aload_n 0, 1) := by decide +kernel
theorem d14_26 : decode jdk_68_method_22_code 26 = .ok (.getfield 79, 3) := by decide +kernel
theorem d14_29 : decode jdk_68_method_22_code 29 = .ok (.aload_n 1, 1) := by decide +kernel
theorem pd_9 : parseMethodDescriptor "(ILjava/lang/String;)V" = some ⟨[.int, (.object "java/lang/String")], none⟩ := by decide +kernel
theorem d14_30 : decode jdk_68_method_22_code 30 = .ok (.invokevirtual 208, 3) := by decide +kernel
theorem d14_33 : decode jdk_68_method_22_code 33 = .ok (.aload_n 0, 1) := by decide +kernel
theorem d14_34 : decode jdk_68_method_22_code 34 = .ok (.dup, 1) := by decide +kernel
theorem d14_35 : decode jdk_68_method_22_code 35 = .ok (.getfield 79, 3) := by decide +kernel
theorem d14_38 : decode jdk_68_method_22_code 38 = .ok (.iload_n 2, 1) := by decide +kernel
theorem d14_39 : decode jdk_68_method_22_code 39 = .ok (.iadd, 1) := by decide +kernel
theorem d14_40 : decode jdk_68_method_22_code 40 = .ok (.putfield 79, 3) := by decide +kernel
theorem d14_43 : decode jdk_68_method_22_code 43 = .ok (.aload_n 0, 1) := by decide +kernel
theorem d14_44 : decode jdk_68_method_22_code 44 = .ok (.areturn, 1) := by decide +kernel
theorem d15_0 : decode jdk_67_method_7_code 0 = .ok (.aload_n 0, 1) := by decide +kernel
theorem d15_1 : decode jdk_67_method_7_code 1 = .ok (.aload_n 1, 1) := by decide +kernel
theorem pd_10 : parseMethodDescriptor "(Ljava/lang/String;)Ljava/lang/AbstractStringBuilder;" = some ⟨[(.object "java/lang/String")], some (.object "java/lang/AbstractStringBuilder")⟩ := by decide +kernel
theorem d15_2 : decode jdk_67_method_7_code 2 = .ok (.invokespecial 29, 3) := by decide +kernel
theorem d15_5 : decode jdk_67_method_7_code 5 = .ok (.pop, 1) := by decide +kernel
theorem d15_6 : decode jdk_67_method_7_code 6 = .ok (.aload_n 0, 1) := by decide +kernel
theorem d15_7 : decode jdk_67_method_7_code 7 = .ok (.areturn, 1) := by decide +kernel
theorem d16_0 : decode jdk_68_method_26_code 0 = .ok (.aload_n 0, 1) := by decide +kernel
theorem d16_1 : decode jdk_68_method_26_code 1 = .ok (.aload_n 0, 1) := by decide +kernel
theorem d16_2 : decode jdk_68_method_26_code 2 = .ok (.getfield 79, 3) := by decide +kernel
theorem d16_5 : decode jdk_68_method_26_code 5 = .ok (.iconst 4, 1) := by decide +kernel
theorem d16_6 : decode jdk_68_method_26_code 6 = .ok (.iadd, 1) := by decide +kernel
theorem d16_7 : decode jdk_68_method_26_code 7 = .ok (.invokevirtual 100, 3) := by decide +kernel
theorem d16_10 : decode jdk_68_method_26_code 10 = .ok (.aload_n 0, 1) := by decide +kernel
theorem d16_11 : decode jdk_68_method_26_code 11 = .ok (.getfield 79, 3) := by decide +kernel
theorem d16_14 : decode jdk_68_method_26_code 14 = .ok (.istore_n 1, 1) := by decide +kernel
theorem d16_15 : decode jdk_68_method_26_code 15 = .ok (.aload_n 0, 1) := by decide +kernel
theorem d16_16 : decode jdk_68_method_26_code 16 = .ok (.getfield 15, 3) := by decide +kernel
theorem d16_19 : decode jdk_68_method_26_code 19 = .ok (.astore_n 2, 1) := by decide +kernel
theorem d16_20 : decode jdk_68_method_26_code 20 = .ok (.aload_n 0, 1) := by decide +kernel
theorem pd_11 : parseMethodDescriptor "()Z" = some ⟨[], some .boolean⟩ := by decide +kernel
theorem d16_21 : decode jdk_68_method_26_code 21 = .ok (.invokevirtual 83, 3) := by decide +kernel
theorem d16_24 : decode jdk_68_method_26_code 24 = .ok (.ifCond .eq 38, 3) := by decide +kernel
theorem d16_27 : decode jdk_68_method_26_code 27 = .ok (.aload_n 2, 1) := by decide +kernel
theorem d16_28 : decode jdk_68_method_26_code 28 = .ok (.iload_n 1, 1) := by decide +kernel
theorem d16_29 : decode jdk_68_method_26_code 29 = .ok (.iinc 1 1, 3) := by decide +kernel
theorem d16_32 : decode jdk_68_method_26_code 32 = .ok (.bipush 110, 2) := by decide +kernel
theorem d16_34 : decode jdk_68_method_26_code 34 = .ok (.bastore, 1) := by decide +kernel
theorem d16_35 : decode jdk_68_method_26_code 35 = .ok (.aload_n 2, 1) := by decide +kernel
theorem d16_36 : decode jdk_68_method_26_code 36 = .ok (.iload_n 1, 1) := by decide +kernel
theorem d16_37 : decode jdk_68_method_26_code 37 = .ok (.iinc 1 1, 3) := by decide +kernel
theorem d16_40 : decode jdk_68_method_26_code 40 = .ok (.bipush 117, 2) := by decide +kernel
theorem d16_42 : decode jdk_68_method_26_code 42 = .ok (.bastore, 1) := by decide +kernel
theorem d16_43 : decode jdk_68_method_26_code 43 = .ok (.aload_n 2, 1) := by decide +kernel
theorem d16_44 : decode jdk_68_method_26_code 44 = .ok (.iload_n 1, 1) := by decide +kernel
theorem d16_45 : decode jdk_68_method_26_code 45 = .ok (.iinc 1 1, 3) := by decide +kernel
theorem d16_48 : decode jdk_68_method_26_code 48 = .ok (.bipush 108, 2) := by decide +kernel
theorem d16_50 : decode jdk_68_method_26_code 50 = .ok (.bastore, 1) := by decide +kernel
theorem d16_51 : decode jdk_68_method_26_code 51 = .ok (.aload_n 2, 1) := by decide +kernel
theorem d16_52 : decode jdk_68_method_26_code 52 = .ok (.iload_n 1, 1) := by decide +kernel
theorem d16_53 : decode jdk_68_method_26_code 53 = .ok (.iinc 1 1, 3) := by decide +kernel
theorem d16_56 : decode jdk_68_method_26_code 56 = .ok (.bipush 108, 2) := by decide +kernel
theorem d16_58 : decode jdk_68_method_26_code 58 = .ok (.bastore, 1) := by decide +kernel
theorem d16_59 : decode jdk_68_method_26_code 59 = .ok (.goto 17, 3) := by decide +kernel
theorem d16_76 : decode jdk_68_method_26_code 76 = .ok (.aload_n 0, 1) := by decide +kernel
theorem d16_77 : decode jdk_68_method_26_code 77 = .ok (.iload_n 1, 1) := by decide +kernel
theorem d16_78 : decode jdk_68_method_26_code 78 = .ok (.putfield 79, 3) := by decide +kernel
theorem d16_81 : decode jdk_68_method_26_code 81 = .ok (.aload_n 0, 1) := by decide +kernel
theorem d16_82 : decode jdk_68_method_26_code 82 = .ok (.areturn, 1) := by decide +kernel
theorem d14_4 : decode jdk_68_method_22_code 4 = .ok (.aload_n 0, 1) := by decide +kernel
theorem pd_12 : parseMethodDescriptor "()Ljava/lang/AbstractStringBuilder;" = some ⟨[], some (.object "java/lang/AbstractStringBuilder")⟩ := by decide +kernel
theorem d14_5 : decode jdk_68_method_22_code 5 = .ok (.invokevirtual 204, 3) := by decide +kernel
theorem d14_8 : decode jdk_68_method_22_code 8 = .ok (.areturn, 1) := by decide +kernel
theorem d17_0 : decode jdk_68_method_2_code 0 = .ok (.aload_n 0, 1) := by decide +kernel
theorem d17_1 : decode jdk_68_method_2_code 1 = .ok (.invokespecial 3, 3) := by decide +kernel
theorem d17_4 : decode jdk_68_method_2_code 4 = .ok (.getstatic 18, 3) := by decide +kernel
theorem d17_7 : decode jdk_68_method_2_code 7 = .ok (.ifCond .eq 18, 3) := by decide +kernel
theorem d17_10 : decode jdk_68_method_2_code 10 = .ok (.aload_n 0, 1) := by decide +kernel
theorem d17_11 : decode jdk_68_method_2_code 11 = .ok (.iload_n 1, 1) := by decide +kernel
theorem d17_12 : decode jdk_68_method_2_code 12 = .ok (.newarray .byte, 2) := by decide +kernel
theorem d17_14 : decode jdk_68_method_2_code 14 = .ok (.putfield 15, 3) := by decide +kernel
theorem d17_17 : decode jdk_68_method_2_code 17 = .ok (.aload_n 0, 1) := by decide +kernel
theorem d17_18 : decode jdk_68_method_2_code 18 = .ok (.iconst 0, 1) := by decide +kernel
theorem d17_19 : decode jdk_68_method_2_code 19 = .ok (.putfield 22, 3) := by decide +kernel
theorem d17_22 : decode jdk_68_method_2_code 22 = .ok (.goto 16, 3) := by decide +kernel
theorem d17_38 : decode jdk_68_method_2_code 38 = .ok (.return_, 1) := by decide +kernel
theorem d18_0 : decode jdk_67_method_1_code 0 = .ok (.aload_n 0, 1) := by decide +kernel
theorem d18_1 : decode jdk_67_method_1_code 1 = .ok (.bipush 16, 2) := by decide +kernel
theorem d18_3 : decode jdk_67_method_1_code 3 = .ok (.invokespecial 1, 3) := by decide +kernel
theorem d18_6 : decode jdk_67_method_1_code 6 = .ok (.return_, 1) := by decide +kernel
theorem d19_0 : decode jdk_65_method_131_code 0 = .ok (.iload_n 1, 1) := by decide +kernel
theorem d19_1 : decode jdk_65_method_131_code 1 = .ok (.iload_n 0, 1) := by decide +kernel
theorem d19_2 : decode jdk_65_method_131_code 2 = .ok (.if_icmp .ge 35, 3) := by decide +kernel
theorem d19_37 : decode jdk_65_method_131_code 37 = .ok (.return_, 1) := by decide +kernel
theorem d20_0 : decode jdk_65_method_133_code 0 = .ok (.iload_n 1, 1) := by decide +kernel
theorem d20_1 : decode jdk_65_method_133_code 1 = .ok (.iload_n 2, 1) := by decide +kernel
theorem pd_13 : parseMethodDescriptor "(II)V" = some ⟨[.int, .int], none⟩ := by decide +kernel
theorem d20_2 : decode jdk_65_method_133_code 2 = .ok (.invokestatic 343, 3) := by decide +kernel
theorem d20_5 : decode jdk_65_method_133_code 5 = .ok (.iload_n 2, 1) := by decide +kernel
theorem d20_6 : decode jdk_65_method_133_code 6 = .ok (.iload_n 1, 1) := by decide +kernel
theorem d20_7 : decode jdk_65_method_133_code 7 = .ok (.isub, 1) := by decide +kernel
theorem d20_8 : decode jdk_65_method_133_code 8 = .ok (.istore_n 3, 1) := by decide +kernel
theorem d20_9 : decode jdk_65_method_133_code 9 = .ok (.iload_n 3, 1) := by decide +kernel
theorem d20_10 : decode jdk_65_method_133_code 10 = .ok (.newarray .byte, 2) := by decide +kernel
theorem d20_12 : decode jdk_65_method_133_code 12 = .ok (.astore 4, 2) := by decide +kernel
theorem d20_14 : decode jdk_65_method_133_code 14 = .ok (.aload_n 0, 1) := by decide +kernel
theorem d20_15 : decode jdk_65_method_133_code 15 = .ok (.iload_n 1, 1) := by decide +kernel
theorem d20_16 : decode jdk_65_method_133_code 16 = .ok (.aload 4, 2) := by decide +kernel
theorem d20_18 : decode jdk_65_method_133_code 18 = .ok (.iconst 0, 1) := by decide +kernel
theorem d20_19 : decode jdk_65_method_133_code 19 = .ok (.aload_n 0, 1) := by decide +kernel
theorem d20_20 : decode jdk_65_method_133_code 20 = .ok (.arraylength, 1) := by decide +kernel
theorem d20_21 : decode jdk_65_method_133_code 21 = .ok (.iload_n 1, 1) := by decide +kernel
theorem d20_22 : decode jdk_65_method_133_code 22 = .ok (.isub, 1) := by decide +kernel
theorem d20_23 : decode jdk_65_method_133_code 23 = .ok (.iload_n 3, 1) := by decide +kernel
theorem d20_24 : decode jdk_65_method_133_code 24 = .ok (.invokestatic 304, 3) := by decide +kernel
theorem d20_27 : decode jdk_65_method_133_code 27 = .ok (.invokestatic 150, 3) := by decide +kernel
theorem d20_30 : decode jdk_65_method_133_code 30 = .ok (.aload 4, 2) := by decide +kernel
theorem d20_32 : decode jdk_65_method_133_code 32 = .ok (.areturn, 1) := by decide +kernel
theorem d21_0 : decode jdk_65_method_132_code 0 = .ok (.iload_n 1, 1) := by decide +kernel
theorem d21_1 : decode jdk_65_method_132_code 1 = .ok (.ifCond .ne 9, 3) := by decide +kernel
theorem d21_4 : decode jdk_65_method_132_code 4 = .ok (.iload_n 2, 1) := by decide +kernel
theorem d21_5 : decode jdk_65_method_132_code 5 = .ok (.aload_n 0, 1) := by decide +kernel
theorem d21_6 : decode jdk_65_method_132_code 6 = .ok (.arraylength, 1) := by decide +kernel
theorem d21_7 : decode jdk_65_method_132_code 7 = .ok (.if_icmp .eq 10, 3) := by decide +kernel
theorem d21_17 : decode jdk_65_method_132_code 17 = .ok (.aload_n 0, 1) := by decide +kernel
theorem d21_18 : decode jdk_65_method_132_code 18 = .ok (.invokevirtual 310, 3) := by decide +kernel
theorem d21_21 : decode jdk_65_method_132_code 21 = .ok (.checkcast 311, 3) := by decide +kernel
theorem d21_24 : decode jdk_65_method_132_code 24 = .ok (.areturn, 1) := by decide +kernel
theorem d21_10 : decode jdk_65_method_132_code 10 = .ok (.aload_n 0, 1) := by decide +kernel
theorem d21_11 : decode jdk_65_method_132_code 11 = .ok (.iload_n 1, 1) := by decide +kernel
theorem d21_12 : decode jdk_65_method_132_code 12 = .ok (.iload_n 2, 1) := by decide +kernel
theorem pd_14 : parseMethodDescriptor "([BII)[B" = some ⟨[(.array .byte), .int, .int], some (.array .byte)⟩ := by decide +kernel
theorem d21_13 : decode jdk_65_method_132_code 13 = .ok (.invokestatic 339, 3) := by decide +kernel
theorem d21_16 : decode jdk_65_method_132_code 16 = .ok (.areturn, 1) := by decide +kernel
theorem d22_0 : decode jdk_42_method_150_code 0 = .ok (.aload_n 0, 1) := by decide +kernel
theorem d22_1 : decode jdk_42_method_150_code 1 = .ok (.invokespecial 1, 3) := by decide +kernel
theorem d22_4 : decode jdk_42_method_150_code 4 = .ok (.aload_n 1, 1) := by decide +kernel
theorem pd_15 : parseMethodDescriptor "()[B" = some ⟨[], some (.array .byte)⟩ := by decide +kernel
theorem d22_5 : decode jdk_42_method_150_code 5 = .ok (.invokevirtual 552, 3) := by decide +kernel
theorem d22_8 : decode jdk_42_method_150_code 8 = .ok (.astore_n 3, 1) := by decide +kernel
theorem d22_9 : decode jdk_42_method_150_code 9 = .ok (.aload_n 1, 1) := by decide +kernel
theorem d22_10 : decode jdk_42_method_150_code 10 = .ok (.invokevirtual 549, 3) := by decide +kernel
theorem d22_13 : decode jdk_42_method_150_code 13 = .ok (.istore 4, 2) := by decide +kernel
theorem d22_15 : decode jdk_42_method_150_code 15 = .ok (.aload_n 1, 1) := by decide +kernel
theorem d22_16 : decode jdk_42_method_150_code 16 = .ok (.invokevirtual 1047, 3) := by decide +kernel
theorem d22_19 : decode jdk_42_method_150_code 19 = .ok (.ifCond .eq 22, 3) := by decide +kernel
theorem d22_22 : decode jdk_42_method_150_code 22 = .ok (.aload_n 0, 1) := by decide +kernel
theorem d22_23 : decode jdk_42_method_150_code 23 = .ok (.iconst 0, 1) := by decide +kernel
theorem d22_24 : decode jdk_42_method_150_code 24 = .ok (.putfield 15, 3) := by decide +kernel
theorem d22_27 : decode jdk_42_method_150_code 27 = .ok (.aload_n 0, 1) := by decide +kernel
theorem d22_28 : decode jdk_42_method_150_code 28 = .ok (.aload_n 3, 1) := by decide +kernel
theorem d22_29 : decode jdk_42_method_150_code 29 = .ok (.iconst 0, 1) := by decide +kernel
theorem d22_30 : decode jdk_42_method_150_code 30 = .ok (.iload 4, 2) := by decide +kernel
theorem d22_32 : decode jdk_42_method_150_code 32 = .ok (.invokestatic 54, 3) := by decide +kernel
theorem d22_35 : decode jdk_42_method_150_code 35 = .ok (.putfield 9, 3) := by decide +kernel
theorem d22_38 : decode jdk_42_method_150_code 38 = .ok (.goto 59, 3) := by decide +kernel
theorem d22_97 : decode jdk_42_method_150_code 97 = .ok (.return_, 1) := by decide +kernel
theorem d23_0 : decode jdk_42_method_53_code 0 = .ok (.aload_n 0, 1) := by decide +kernel
theorem d23_1 : decode jdk_42_method_53_code 1 = .ok (.aload_n 1, 1) := by decide +kernel
theorem d23_2 : decode jdk_42_method_53_code 2 = .ok (.aconst_null, 1) := by decide +kernel
theorem pd_16 : parseMethodDescriptor "(Ljava/lang/AbstractStringBuilder;Ljava/lang/Void;)V" = some ⟨[(.object "java/lang/AbstractStringBuilder"), (.object "java/lang/Void")], none⟩ := by decide +kernel
theorem d23_3 : decode jdk_42_method_53_code 3 = .ok (.invokespecial 489, 3) := by decide +kernel
theorem d23_6 : decode jdk_42_method_53_code 6 = .ok (.return_, 1) := by decide +kernel
theorem d24_0 : decode jdk_67_method_42_code 0 = .ok (.new 18, 3) := by decide +kernel
theorem d24_3 : decode jdk_67_method_42_code 3 = .ok (.dup, 1) := by decide +kernel
theorem d24_4 : decode jdk_67_method_42_code 4 = .ok (.aload_n 0, 1) := by decide +kernel
theorem pd_17 : parseMethodDescriptor "(Ljava/lang/StringBuilder;)V" = some ⟨[(.object "java/lang/StringBuilder")], none⟩ := by decide +kernel
theorem d24_5 : decode jdk_67_method_42_code 5 = .ok (.invokespecial 137, 3) := by decide +kernel
theorem d24_8 : decode jdk_67_method_42_code 8 = .ok (.areturn, 1) := by decide +kernel
theorem d25_0 : decode jdk_42_method_149_code 0 = .ok (.aload_n 0, 1) := by decide +kernel
theorem d25_1 : decode jdk_42_method_149_code 1 = .ok (.invokespecial 1, 3) := by decide +kernel
theorem d25_4 : decode jdk_42_method_149_code 4 = .ok (.iload_n 3, 1) := by decide +kernel
theorem d25_5 : decode jdk_42_method_149_code 5 = .ok (.ifCond .ne 22, 3) := by decide +kernel
theorem d25_8 : decode jdk_42_method_149_code 8 = .ok (.aload_n 0, 1) := by decide +kernel
theorem d25_9 : decode jdk_42_method_149_code 9 = .ok (.ldc 7, 2) := by decide +kernel
theorem d25_11 : decode jdk_42_method_149_code 11 = .ok (.getfield 9, 3) := by decide +kernel
theorem d25_14 : decode jdk_42_method_149_code 14 = .ok (.putfield 9, 3) := by decide +kernel
theorem d25_17 : decode jdk_42_method_149_code 17 = .ok (.aload_n 0, 1) := by decide +kernel
theorem d25_18 : decode jdk_42_method_149_code 18 = .ok (.ldc 7, 2) := by decide +kernel
theorem d25_20 : decode jdk_42_method_149_code 20 = .ok (.getfield 15, 3) := by decide +kernel
theorem d25_23 : decode jdk_42_method_149_code 23 = .ok (.putfield 15, 3) := by decide +kernel
theorem d25_26 : decode jdk_42_method_149_code 26 = .ok (.return_, 1) := by decide +kernel
theorem d26_0 : decode jdk_42_method_3_code 0 = .ok (.aload_n 0, 1) := by decide +kernel
theorem d26_1 : decode jdk_42_method_3_code 1 = .ok (.aload_n 1, 1) := by decide +kernel
theorem d26_2 : decode jdk_42_method_3_code 2 = .ok (.iconst 0, 1) := by decide +kernel
theorem d26_3 : decode jdk_42_method_3_code 3 = .ok (.aload_n 1, 1) := by decide +kernel
theorem d26_4 : decode jdk_42_method_3_code 4 = .ok (.arraylength, 1) := by decide +kernel
theorem d26_5 : decode jdk_42_method_3_code 5 = .ok (.aconst_null, 1) := by decide +kernel
theorem pd_18 : parseMethodDescriptor "([CIILjava/lang/Void;)V" = some ⟨[(.array .char), .int, .int, (.object "java/lang/Void")], none⟩ := by decide +kernel
theorem d26_6 : decode jdk_42_method_3_code 6 = .ok (.invokespecial 27, 3) := by decide +kernel
theorem d26_9 : decode jdk_42_method_3_code 9 = .ok (.return_, 1) := by decide +kernel
theorem d27_0 : decode method_2_code 0 = .ok (.iload_n 1, 1) := by decide +kernel
theorem d27_1 : decode method_2_code 1 = .ok (.ifCond .ne 5, 3) := by decide +kernel
theorem d27_4 : decode method_2_code 4 = .ok (.aconst_null, 1) := by decide +kernel
theorem d27_5 : decode method_2_code 5 = .ok (.areturn, 1) := by decide +kernel
theorem d27_6 : decode method_2_code 6 = .ok (.iload_n 1, 1) := by decide +kernel
theorem d27_7 : decode method_2_code 7 = .ok (.iconst 1, 1) := by decide +kernel
theorem d27_8 : decode method_2_code 8 = .ok (.if_icmp .ne 14, 3) := by decide +kernel
theorem d27_11 : decode method_2_code 11 = .ok (.new 7, 3) := by decide +kernel
theorem d27_14 : decode method_2_code 14 = .ok (.dup, 1) := by decide +kernel
theorem d27_15 : decode method_2_code 15 = .ok (.iconst 0, 1) := by decide +kernel
theorem d27_16 : decode method_2_code 16 = .ok (.newarray .char, 2) := by decide +kernel
theorem pd_19 : parseMethodDescriptor "([C)V" = some ⟨[(.array .char)], none⟩ := by decide +kernel
theorem d27_18 : decode method_2_code 18 = .ok (.invokespecial 9, 3) := by decide +kernel
theorem d27_21 : decode method_2_code 21 = .ok (.areturn, 1) := by decide +kernel
theorem d27_22 : decode method_2_code 22 = .ok (.iload_n 0, 1) := by decide +kernel
theorem d27_23 : decode method_2_code 23 = .ok (.sipush 255, 3) := by decide +kernel
theorem d27_26 : decode method_2_code 26 = .ok (.iand, 1) := by decide +kernel
theorem d27_27 : decode method_2_code 27 = .ok (.i2c, 1) := by decide +kernel
theorem d27_28 : decode method_2_code 28 = .ok (.istore_n 2, 1) := by decide +kernel
theorem d27_29 : decode method_2_code 29 = .ok (.iload_n 0, 1) := by decide +kernel
theorem d27_30 : decode method_2_code 30 = .ok (.bipush 8, 2) := by decide +kernel
theorem d27_32 : decode method_2_code 32 = .ok (.iushr, 1) := by decide +kernel
theorem d27_33 : decode method_2_code 33 = .ok (.sipush 255, 3) := by decide +kernel
theorem d27_36 : decode method_2_code 36 = .ok (.iand, 1) := by decide +kernel
theorem d27_37 : decode method_2_code 37 = .ok (.i2c, 1) := by decide +kernel
theorem d27_38 : decode method_2_code 38 = .ok (.istore_n 3, 1) := by decide +kernel
theorem d27_39 : decode method_2_code 39 = .ok (.iload_n 1, 1) := by decide +kernel
theorem d27_40 : decode method_2_code 40 = .ok (.iconst 2, 1) := by decide +kernel
theorem d27_41 : decode method_2_code 41 = .ok (.if_icmp .ne 18, 3) := by decide +kernel
theorem d27_44 : decode method_2_code 44 = .ok (.new 7, 3) := by decide +kernel
theorem d27_47 : decode method_2_code 47 = .ok (.dup, 1) := by decide +kernel
theorem d27_48 : decode method_2_code 48 = .ok (.iconst 1, 1) := by decide +kernel
theorem d27_49 : decode method_2_code 49 = .ok (.newarray .char, 2) := by decide +kernel
theorem d27_51 : decode method_2_code 51 = .ok (.dup, 1) := by decide +kernel
theorem d27_52 : decode method_2_code 52 = .ok (.iconst 0, 1) := by decide +kernel
theorem d27_53 : decode method_2_code 53 = .ok (.iload_n 2, 1) := by decide +kernel
theorem d27_54 : decode method_2_code 54 = .ok (.castore, 1) := by decide +kernel
theorem d27_55 : decode method_2_code 55 = .ok (.invokespecial 9, 3) := by decide +kernel
theorem d27_58 : decode method_2_code 58 = .ok (.areturn, 1) := by decide +kernel
theorem d27_59 : decode method_2_code 59 = .ok (.new 7, 3) := by decide +kernel
theorem d27_62 : decode method_2_code 62 = .ok (.dup, 1) := by decide +kernel
theorem d27_63 : decode method_2_code 63 = .ok (.iconst 2, 1) := by decide +kernel
theorem d27_64 : decode method_2_code 64 = .ok (.newarray .char, 2) := by decide +kernel
theorem d27_66 : decode method_2_code 66 = .ok (.dup, 1) := by decide +kernel
theorem d27_67 : decode method_2_code 67 = .ok (.iconst 0, 1) := by decide +kernel
theorem d27_68 : decode method_2_code 68 = .ok (.iload_n 2, 1) := by decide +kernel
theorem d27_69 : decode method_2_code 69 = .ok (.castore, 1) := by decide +kernel
theorem d27_70 : decode method_2_code 70 = .ok (.dup, 1) := by decide +kernel
theorem d27_71 : decode method_2_code 71 = .ok (.iconst 1, 1) := by decide +kernel
theorem d27_72 : decode method_2_code 72 = .ok (.iload_n 3, 1) := by decide +kernel
theorem d27_73 : decode method_2_code 73 = .ok (.castore, 1) := by decide +kernel
theorem d27_74 : decode method_2_code 74 = .ok (.invokespecial 9, 3) := by decide +kernel
theorem d27_77 : decode method_2_code 77 = .ok (.areturn, 1) := by decide +kernel
theorem pn_5 : plainName "com/example/gate_to_handlers/gatetohandlers/ObjectErrorToStringPinLaw" = true := by first | (simp [plainName, overriddenIn]; done) | decide +kernel
theorem d28_0 : decode prog_78_method_1_code 0 = .ok (.aload_n 0, 1) := by decide +kernel
theorem d28_1 : decode prog_78_method_1_code 1 = .ok (.invokespecial 1, 3) := by decide +kernel
theorem d28_4 : decode prog_78_method_1_code 4 = .ok (.aload_n 0, 1) := by decide +kernel
theorem d28_5 : decode prog_78_method_1_code 5 = .ok (.aload_n 1, 1) := by decide +kernel
theorem d28_6 : decode prog_78_method_1_code 6 = .ok (.putfield 7, 3) := by decide +kernel
theorem d28_9 : decode prog_78_method_1_code 9 = .ok (.aload_n 0, 1) := by decide +kernel
theorem d28_10 : decode prog_78_method_1_code 10 = .ok (.aload_n 2, 1) := by decide +kernel
theorem d28_11 : decode prog_78_method_1_code 11 = .ok (.putfield 13, 3) := by decide +kernel
theorem d28_14 : decode prog_78_method_1_code 14 = .ok (.aload_n 0, 1) := by decide +kernel
theorem d28_15 : decode prog_78_method_1_code 15 = .ok (.aload_n 3, 1) := by decide +kernel
theorem d28_16 : decode prog_78_method_1_code 16 = .ok (.putfield 16, 3) := by decide +kernel
theorem d28_19 : decode prog_78_method_1_code 19 = .ok (.return_, 1) := by decide +kernel
theorem pn_6 : plainName "com/example/gate_to_handlers/gatetohandlers/ObjectError" = true := by first | (simp [plainName, overriddenIn]; done) | decide +kernel
theorem d29_0 : decode prog_78_method_5_code 0 = .ok (.new 19, 3) := by decide +kernel
theorem d29_3 : decode prog_78_method_5_code 3 = .ok (.dup, 1) := by decide +kernel
theorem pd_20 : parseMethodDescriptor "()V" = some ⟨[], none⟩ := by decide +kernel
theorem d29_4 : decode prog_78_method_5_code 4 = .ok (.invokespecial 21, 3) := by decide +kernel
theorem d29_7 : decode prog_78_method_5_code 7 = .ok (.ldc 22, 2) := by decide +kernel
theorem pd_21 : parseMethodDescriptor "(Ljava/lang/String;)Ljava/lang/StringBuilder;" = some ⟨[(.object "java/lang/String")], some (.object "java/lang/StringBuilder")⟩ := by decide +kernel
theorem d29_9 : decode prog_78_method_5_code 9 = .ok (.invokevirtual 24, 3) := by decide +kernel
theorem d29_12 : decode prog_78_method_5_code 12 = .ok (.aload_n 0, 1) := by decide +kernel
theorem d29_13 : decode prog_78_method_5_code 13 = .ok (.getfield 13, 3) := by decide +kernel
theorem d29_16 : decode prog_78_method_5_code 16 = .ok (.invokevirtual 24, 3) := by decide +kernel
theorem d29_19 : decode prog_78_method_5_code 19 = .ok (.ldc 28, 2) := by decide +kernel
theorem d29_21 : decode prog_78_method_5_code 21 = .ok (.invokevirtual 24, 3) := by decide +kernel
theorem d29_24 : decode prog_78_method_5_code 24 = .ok (.aload_n 0, 1) := by decide +kernel
theorem d29_25 : decode prog_78_method_5_code 25 = .ok (.getfield 7, 3) := by decide +kernel
theorem d29_28 : decode prog_78_method_5_code 28 = .ok (.invokevirtual 24, 3) := by decide +kernel
theorem d29_31 : decode prog_78_method_5_code 31 = .ok (.ldc 30, 2) := by decide +kernel
theorem d29_33 : decode prog_78_method_5_code 33 = .ok (.invokevirtual 24, 3) := by decide +kernel
theorem d29_36 : decode prog_78_method_5_code 36 = .ok (.aload_n 0, 1) := by decide +kernel
theorem d29_37 : decode prog_78_method_5_code 37 = .ok (.getfield 16, 3) := by decide +kernel
theorem d29_40 : decode prog_78_method_5_code 40 = .ok (.invokevirtual 24, 3) := by decide +kernel
theorem pd_22 : parseMethodDescriptor "()Ljava/lang/String;" = some ⟨[], some (.object "java/lang/String")⟩ := by decide +kernel
theorem d29_43 : decode prog_78_method_5_code 43 = .ok (.invokevirtual 32, 3) := by decide +kernel
theorem d29_46 : decode prog_78_method_5_code 46 = .ok (.areturn, 1) := by decide +kernel
theorem d30_0 : decode method_3_code 0 = .ok (.aload_n 0, 1) := by decide +kernel
theorem d30_1 : decode method_3_code 1 = .ok (.ifnonnull 6, 3) := by decide +kernel
theorem d30_4 : decode method_3_code 4 = .ok (.ldc 12, 2) := by decide +kernel
theorem d30_6 : decode method_3_code 6 = .ok (.areturn, 1) := by decide +kernel
theorem d30_7 : decode method_3_code 7 = .ok (.aload_n 0, 1) := by decide +kernel
theorem d30_8 : decode method_3_code 8 = .ok (.areturn, 1) := by decide +kernel
theorem d31_0 : decode method_4_code 0 = .ok (.aload_n 2, 1) := by decide +kernel
theorem d31_1 : decode method_4_code 1 = .ok (.invokevirtual 14, 3) := by decide +kernel
theorem d31_4 : decode method_4_code 4 = .ok (.istore_n 3, 1) := by decide +kernel
theorem d31_5 : decode method_4_code 5 = .ok (.iload_n 3, 1) := by decide +kernel
theorem d31_6 : decode method_4_code 6 = .ok (.bipush 6, 2) := by decide +kernel
theorem d31_8 : decode method_4_code 8 = .ok (.if_icmp .le 5, 3) := by decide +kernel
theorem d31_13 : decode method_4_code 13 = .ok (.iload_n 1, 1) := by decide +kernel
theorem d31_14 : decode method_4_code 14 = .ok (.ifCond .lt 13, 3) := by decide +kernel
theorem d31_17 : decode method_4_code 17 = .ok (.iload_n 1, 1) := by decide +kernel
theorem d31_18 : decode method_4_code 18 = .ok (.iload_n 3, 1) := by decide +kernel
theorem d31_19 : decode method_4_code 19 = .ok (.iadd, 1) := by decide +kernel
theorem d31_20 : decode method_4_code 20 = .ok (.aload_n 0, 1) := by decide +kernel
theorem d31_21 : decode method_4_code 21 = .ok (.invokevirtual 14, 3) := by decide +kernel
theorem d31_24 : decode method_4_code 24 = .ok (.if_icmp .le 5, 3) := by decide +kernel
theorem d31_29 : decode method_4_code 29 = .ok (.iload_n 3, 1) := by decide +kernel
theorem d31_30 : decode method_4_code 30 = .ok (.ifCond .le 18, 3) := by decide +kernel
theorem d31_33 : decode method_4_code 33 = .ok (.aload_n 0, 1) := by decide +kernel
theorem d31_34 : decode method_4_code 34 = .ok (.iload_n 1, 1) := by decide +kernel
theorem pd_23 : parseMethodDescriptor "(I)C" = some ⟨[.int], some .char⟩ := by decide +kernel
theorem d31_35 : decode method_4_code 35 = .ok (.invokevirtual 18, 3) := by decide +kernel
theorem d31_38 : decode method_4_code 38 = .ok (.aload_n 2, 1) := by decide +kernel
theorem d31_39 : decode method_4_code 39 = .ok (.iconst 0, 1) := by decide +kernel
theorem d31_40 : decode method_4_code 40 = .ok (.invokevirtual 18, 3) := by decide +kernel
theorem d31_43 : decode method_4_code 43 = .ok (.if_icmp .eq 5, 3) := by decide +kernel
theorem d31_48 : decode method_4_code 48 = .ok (.iload_n 3, 1) := by decide +kernel
theorem d31_49 : decode method_4_code 49 = .ok (.iconst 1, 1) := by decide +kernel
theorem d31_50 : decode method_4_code 50 = .ok (.if_icmp .le 20, 3) := by decide +kernel
theorem d31_53 : decode method_4_code 53 = .ok (.aload_n 0, 1) := by decide +kernel
theorem d31_54 : decode method_4_code 54 = .ok (.iload_n 1, 1) := by decide +kernel
theorem d31_55 : decode method_4_code 55 = .ok (.iconst 1, 1) := by decide +kernel
theorem d31_56 : decode method_4_code 56 = .ok (.iadd, 1) := by decide +kernel
theorem d31_57 : decode method_4_code 57 = .ok (.invokevirtual 18, 3) := by decide +kernel
theorem d31_60 : decode method_4_code 60 = .ok (.aload_n 2, 1) := by decide +kernel
theorem d31_61 : decode method_4_code 61 = .ok (.iconst 1, 1) := by decide +kernel
theorem d31_62 : decode method_4_code 62 = .ok (.invokevirtual 18, 3) := by decide +kernel
theorem d31_65 : decode method_4_code 65 = .ok (.if_icmp .eq 5, 3) := by decide +kernel
theorem d31_70 : decode method_4_code 70 = .ok (.iload_n 3, 1) := by decide +kernel
theorem d31_71 : decode method_4_code 71 = .ok (.iconst 2, 1) := by decide +kernel
theorem d31_72 : decode method_4_code 72 = .ok (.if_icmp .le 20, 3) := by decide +kernel
theorem d31_75 : decode method_4_code 75 = .ok (.aload_n 0, 1) := by decide +kernel
theorem d31_76 : decode method_4_code 76 = .ok (.iload_n 1, 1) := by decide +kernel
theorem d31_77 : decode method_4_code 77 = .ok (.iconst 2, 1) := by decide +kernel
theorem d31_78 : decode method_4_code 78 = .ok (.iadd, 1) := by decide +kernel
theorem d31_79 : decode method_4_code 79 = .ok (.invokevirtual 18, 3) := by decide +kernel
theorem d31_82 : decode method_4_code 82 = .ok (.aload_n 2, 1) := by decide +kernel
theorem d31_83 : decode method_4_code 83 = .ok (.iconst 2, 1) := by decide +kernel
theorem d31_84 : decode method_4_code 84 = .ok (.invokevirtual 18, 3) := by decide +kernel
theorem d31_87 : decode method_4_code 87 = .ok (.if_icmp .eq 5, 3) := by decide +kernel
theorem d31_92 : decode method_4_code 92 = .ok (.iload_n 3, 1) := by decide +kernel
theorem d31_93 : decode method_4_code 93 = .ok (.iconst 3, 1) := by decide +kernel
theorem d31_94 : decode method_4_code 94 = .ok (.if_icmp .le 20, 3) := by decide +kernel
theorem d31_97 : decode method_4_code 97 = .ok (.aload_n 0, 1) := by decide +kernel
theorem d31_98 : decode method_4_code 98 = .ok (.iload_n 1, 1) := by decide +kernel
theorem d31_99 : decode method_4_code 99 = .ok (.iconst 3, 1) := by decide +kernel
theorem d31_100 : decode method_4_code 100 = .ok (.iadd, 1) := by decide +kernel
theorem d31_101 : decode method_4_code 101 = .ok (.invokevirtual 18, 3) := by decide +kernel
theorem d31_104 : decode method_4_code 104 = .ok (.aload_n 2, 1) := by decide +kernel
theorem d31_105 : decode method_4_code 105 = .ok (.iconst 3, 1) := by decide +kernel
theorem d31_106 : decode method_4_code 106 = .ok (.invokevirtual 18, 3) := by decide +kernel
theorem d31_109 : decode method_4_code 109 = .ok (.if_icmp .eq 5, 3) := by decide +kernel
theorem d31_114 : decode method_4_code 114 = .ok (.iload_n 3, 1) := by decide +kernel
theorem d31_115 : decode method_4_code 115 = .ok (.iconst 4, 1) := by decide +kernel
theorem d31_116 : decode method_4_code 116 = .ok (.if_icmp .le 20, 3) := by decide +kernel
theorem d31_119 : decode method_4_code 119 = .ok (.aload_n 0, 1) := by decide +kernel
theorem d31_120 : decode method_4_code 120 = .ok (.iload_n 1, 1) := by decide +kernel
theorem d31_121 : decode method_4_code 121 = .ok (.iconst 4, 1) := by decide +kernel
theorem d31_122 : decode method_4_code 122 = .ok (.iadd, 1) := by decide +kernel
theorem d31_123 : decode method_4_code 123 = .ok (.invokevirtual 18, 3) := by decide +kernel
theorem d31_126 : decode method_4_code 126 = .ok (.aload_n 2, 1) := by decide +kernel
theorem d31_127 : decode method_4_code 127 = .ok (.iconst 4, 1) := by decide +kernel
theorem d31_128 : decode method_4_code 128 = .ok (.invokevirtual 18, 3) := by decide +kernel
theorem d31_131 : decode method_4_code 131 = .ok (.if_icmp .eq 5, 3) := by decide +kernel
theorem d31_136 : decode method_4_code 136 = .ok (.iload_n 3, 1) := by decide +kernel
theorem d31_137 : decode method_4_code 137 = .ok (.iconst 5, 1) := by decide +kernel
theorem d31_138 : decode method_4_code 138 = .ok (.if_icmp .le 20, 3) := by decide +kernel
theorem d31_141 : decode method_4_code 141 = .ok (.aload_n 0, 1) := by decide +kernel
theorem d31_142 : decode method_4_code 142 = .ok (.iload_n 1, 1) := by decide +kernel
theorem d31_143 : decode method_4_code 143 = .ok (.iconst 5, 1) := by decide +kernel
theorem d31_144 : decode method_4_code 144 = .ok (.iadd, 1) := by decide +kernel
theorem d31_145 : decode method_4_code 145 = .ok (.invokevirtual 18, 3) := by decide +kernel
theorem d31_148 : decode method_4_code 148 = .ok (.aload_n 2, 1) := by decide +kernel
theorem d31_149 : decode method_4_code 149 = .ok (.iconst 5, 1) := by decide +kernel
theorem d31_150 : decode method_4_code 150 = .ok (.invokevirtual 18, 3) := by decide +kernel
theorem d31_153 : decode method_4_code 153 = .ok (.if_icmp .eq 5, 3) := by decide +kernel
theorem d31_158 : decode method_4_code 158 = .ok (.iconst 1, 1) := by decide +kernel
theorem d31_159 : decode method_4_code 159 = .ok (.ireturn, 1) := by decide +kernel
theorem pd_24 : parseMethodDescriptor "(II)Ljava/lang/String;" = some ⟨[.int, .int], some (.object "java/lang/String")⟩ := by decide +kernel
theorem pd_25 : parseMethodDescriptor "(Ljava/lang/String;Ljava/lang/String;Ljava/lang/String;)V" = some ⟨[(.object "java/lang/String"), (.object "java/lang/String"), (.object "java/lang/String")], none⟩ := by decide +kernel
theorem pd_26 : parseMethodDescriptor "(Ljava/lang/String;)Ljava/lang/String;" = some ⟨[(.object "java/lang/String")], some (.object "java/lang/String")⟩ := by decide +kernel
theorem pd_27 : parseMethodDescriptor "(Ljava/lang/String;ILjava/lang/String;)Z" = some ⟨[(.object "java/lang/String"), .int, (.object "java/lang/String")], some .boolean⟩ := by decide +kernel
abbrev EL : List (String × Nat) := [("com/example/gate_to_handlers/gatetohandlers/ObjectError", 22), ("com/example/gate_to_handlers/gatetohandlers/ObjectError", 28), ("com/example/gate_to_handlers/gatetohandlers/ObjectError", 30), ("com/example/gate_to_handlers/gatetohandlers/ObjectErrorToStringPinLaw", 12), ("com/example/gate_to_handlers/gatetohandlers/ObjectErrorToStringPinLaw", 41), ("com/example/gate_to_handlers/gatetohandlers/ObjectErrorToStringPinLaw", 47), ("com/example/gate_to_handlers/gatetohandlers/ObjectErrorToStringPinLaw", 49), ("java/lang/String", 7)]
theorem elA {Z : State} {a0 : Array Value} (H : Ev Z a0) : EW Z a0 EL := (EW.cons (H.1 _ (List.mem_of_getElem? (i := 62) rfl)) (by decide) (EW.cons (H.1 _ (List.mem_of_getElem? (i := 111) rfl)) (by decide) (EW.cons (H.1 _ (List.mem_of_getElem? (i := 122) rfl)) (by decide) (EW.cons (H.1 _ (List.mem_of_getElem? (i := 184) rfl)) (by decide) (EW.cons (H.1 _ (List.mem_of_getElem? (i := 185) rfl)) (by decide) (EW.cons (H.1 _ (List.mem_of_getElem? (i := 212) rfl)) (by decide) (EW.cons (H.1 _ (List.mem_of_getElem? (i := 213) rfl)) (by decide) (EW.cons (H.1 _ (List.mem_of_getElem? (i := 18) rfl)) (by decide) EW.nil))))))))
theorem strsA {Z : State} {a0 : Array Value} (H : Ev Z a0) : ∀ d ∈ Bundle.stringAtoms, d.before a0 Z = true := fun d hd => H.1 d ((by decide +kernel : ∀ d ∈ Bundle.stringAtoms, d ∈ tables_1) d hd)
/-! Strings of chars 0 to 255 -/
def StrA (Z : State) (h : Heap) (x : Addr) (cs : List Int32) : Prop := Exa Z h x "java/lang/String" ∧ Fld Z h x "java/lang/String" "coder" "B" (.int 0) ∧ (∃ (t : Addr) (kb : ClassId), Fld Z h x "java/lang/String" "value" "[B" (.ref t) ∧ Arv Z h t kb .byte (Int32.ofNat cs.length) ((cs.map fun c => c.toInt8.toInt32).map Value.int) (.int 0)) ∧ (∀ c ∈ cs, ¬ c < 0 ∧ ¬ (255 : Int32) < c) ∧ cs.length ≤ 4000
theorem StrA.ext {Z : State} {h h' : Heap} {x : Addr} {cs : List Int32} (F : StrA Z h x cs) (E : Ext h h') : StrA Z h' x cs := by
  obtain ⟨h1, h2, ⟨t, kb, h3, h4⟩, h5⟩ := F
  exact ⟨h1.ext E, h2.ext E, ⟨t, kb, h3.ext E, h4.ext E⟩, h5⟩
theorem StrA.keepO {Z : State} {h h' : Heap} {x a : Addr} {cs : List Int32} {C : String} {q : Nat} {a0 : Array Value} (F : StrA Z h x cs) (K : Keep h h' [a]) (E : Exa Z h a C) (hC : C ≠ "java/lang/String") (wi : (Cond.instantiable C q).before a0 Z = true) : StrA Z h' x cs := by
  obtain ⟨h1, h2, ⟨t, kb, h3, h4⟩, h5⟩ := F
  have n1 : x ∉ [a] := ninS (fun e => ne_exa E h1 hC e.symm) nin0
  have n2 : t ∉ [a] := ninS (Ne.symm (Exa.neArv E h4 wi)) nin0
  exact ⟨h1.keep K, h2.keep K n1, ⟨t, kb, h3.keep K n1, h4.keep K n2⟩, h5⟩
theorem StrA.lt {Z : State} {h : Heap} {x : Addr} {cs : List Int32} (F : StrA Z h x cs) : x < h.size := F.1.lt
theorem lo8_inj {x y : Int32} (hx : ¬ x < 0 ∧ ¬ (255 : Int32) < x) (hy : ¬ y < 0 ∧ ¬ (255 : Int32) < y) (h : x.toInt8.toInt32 = y.toInt8.toInt32) : x = y := by
  have a := c_i2b x; have b := c_i2b y; have e : (255 : Int32).toInt = 255 := rfl; have e0 : (0 : Int32).toInt = 0 := rfl
  simp only [Int32.lt_iff_toInt_lt] at hx hy
  rw [h] at a
  exact i32e (by omega)
theorem map_inj8 : ∀ (cs ds : List Int32), (∀ c ∈ cs, ¬ c < 0 ∧ ¬ (255 : Int32) < c) → (∀ c ∈ ds, ¬ c < 0 ∧ ¬ (255 : Int32) < c) → (cs.map fun c => c.toInt8.toInt32) = (ds.map fun c => c.toInt8.toInt32) → cs = ds
  | [], [], _, _, _ => rfl
  | [], _ :: _, _, _, h => by simp at h
  | _ :: _, [], _, _, h => by simp at h
  | c :: cs, d :: ds, hc, hd, h => by
    simp only [List.map_cons, List.cons.injEq] at h
    rw [lo8_inj (hc c (List.mem_cons_self ..)) (hd d (List.mem_cons_self ..)) h.1, map_inj8 cs ds (fun x hx => hc x (List.mem_cons_of_mem _ hx)) (fun x hx => hd x (List.mem_cons_of_mem _ hx)) h.2]
theorem n32' {n : Nat} (h : n ≤ 4000) : (Int32.ofNat n).toNatClampNeg = n := by
  have q : n.toInt32.toInt = n := len_toInt (by omega)
  show (Int32.ofNat n).toInt.toNat = n
  have r : (Int32.ofNat n).toInt = n := q
  rw [r]; rfl
theorem StrA.inj {Z : State} {h : Heap} {x : Addr} {cs ds : List Int32} (F : StrA Z h x cs) (G : StrA Z h x ds) : cs = ds := by
  obtain ⟨-, -, ⟨t, kb, h3, c, A, -, S, -, H, -⟩, h5, h6⟩ := F
  obtain ⟨-, -, ⟨t', kb', g3, c', A', -, S', -, H', -⟩, g5, g6⟩ := G
  have et : t = t' := by
    apply Decidable.byContradiction; intro q
    exact Fld.ne h3 g3 (fun e => q (by injection e)) rfl
  subst et
  cases A.1.symm.trans A'.1
  rw [n32' h6] at S; rw [n32' g6] at S'
  have el : cs.length = ds.length := S.symm.trans S'
  apply map_inj8 cs ds h5 g5
  apply List.ext_getElem (by simp [el])
  intro i hi hi'
  simp only [List.length_map] at hi hi'
  have a := H i (by omega); have b := H' i (by omega)
  rw [a] at b
  simpa [List.getD_eq_getElem?_getD, hi, hi'] using b
section StrPay
variable {l : Launch} {R : Room} {p : Program} {e : Env} {below : List Frame} {s : State} {args : Array Value} {Z : State} {a0 : Array Value} {h : Heap} {n0 Wd : Nat} {vm0 : Vm}
theorem payStr (H : Ev Z a0) {x b : Addr} {kC : ClassId} {cs : List Int32} {d v0 c0 : Value} {N : Int32} {nn : Nat} (O : Old Z n0 h) (hx0 : n0 ≤ x) (E : Exa Z h x "java/lang/String") (V : Fld Z h x "java/lang/String" "value" "[B" v0) (C : Fld Z h x "java/lang/String" "coder" "B" c0) (K : Arv Z h b kC .char N (cs.map Value.int) d) (hn : cs.length = nn) (hN : N = Int32.ofNat nn) (l0 : 0 < nn) (l2 : nn ≤ 4000)
    (hp : ∀ c ∈ cs, ¬ c < 0 ∧ ¬ (255 : Int32) < c) (hfr : 4 ≤ R.frames) (hlo : Wd + 65 ≤ R.locals) (hZ : Z.Warmed39 (s.setVm vm0).vm) :
    PayN l R p e below (s.setVm vm0) args (⟨"java/lang/String", "<init>", "([C)V"⟩ : MethodName) 3 Wd #[.ref x, .ref b] h 1 nn (fun v h' L => v = none ∧ (Fr n0 L ∧ Keep h h' [x]) ∧ StrA Z h' x cs) := by
  obtain ⟨z, S, hz⟩ := H.2.1
  refine Back.mono (StrChars.Road.backV (bs := cs.map fun c => c.toInt8.toInt32) (n := nn) (n0 := n0) hZ (fun d hd => H.1 d ((by decide +kernel : ∀ d ∈ StrChars.Road.words, d ∈ tables_1) d hd)) (kI := 4) (H.1 _ (by decide +kernel : Jvm.Cond.instantiable "java/lang/String" 4 ∈ tables_1)) hx0 (by rw [← O.1]; exact O.2.1) E V C K (S.ext O.2) hz hn hN l0 l2 hp rfl hfr hlo) (fun P a hp => hp) (fun P a v B hp' hq => ?_)
  obtain ⟨L, ⟨q1, q2, q3, q4, q5, t, kb, -, -, -, q6, q7⟩, r⟩ := hq
  exact ⟨L, ⟨q1, ⟨q2, q3⟩, q4, q5, ⟨t, kb, q6, by rw [hn, ← hN]; exact q7⟩, hp, by omega⟩, r⟩
theorem payLen (H : Ev Z a0) {x : Addr} {cs : List Int32} (O : Old Z n0 h) (F : StrA Z h x cs) (hfr : 2 ≤ R.frames) (hlo : Wd + 25 ≤ R.locals) (hZ : Z.Warmed39 (s.setVm vm0).vm) :
    PayN l R p e below (s.setVm vm0) args (⟨"java/lang/String", "length", "()I"⟩ : MethodName) 3 Wd #[.ref x] h 0 0 (fun v h' L => (v = some (.int (Int32.ofNat cs.length)) ∧ h' = h) ∧ L = []) := by
  obtain ⟨z, S, hz⟩ := H.2.1
  obtain ⟨h1, h2, ⟨t, kb, h3, h4⟩, h5, h6⟩ := F
  refine Back.mono (StrChars.Road.lenW hZ (fun d hd => H.1 d ((by decide +kernel : ∀ d ∈ StrChars.Road.wordsLen, d ∈ tables_1) d hd)) (kI := 4) (H.1 _ (by decide +kernel : Jvm.Cond.instantiable "java/lang/String" 4 ∈ tables_1)) h1 h3 h2 h4 (StrChars.Road.codOf rfl fun c hc => (h5 c hc).2) (chUp h5) (S.ext O.2) hz h6 hfr hlo) (fun P a hp => hp) (fun P a v B hp' hq => ?_)
  obtain ⟨L, ⟨q1, q2, q3⟩, r⟩ := hq
  exact ⟨L, ⟨⟨q1, q3⟩, q2⟩, r⟩
theorem payCh (H : Ev Z a0) {x : Addr} {cs : List Int32} {i : Nat} {j : Int32} (O : Old Z n0 h) (F : StrA Z h x cs) (hi : i < cs.length) (hj : j = Int32.ofNat i) (hfr : 4 ≤ R.frames) (hlo : Wd + 53 ≤ R.locals) (hZ : Z.Warmed39 (s.setVm vm0).vm) :
    PayN l R p e below (s.setVm vm0) args (⟨"java/lang/String", "charAt", "(I)C"⟩ : MethodName) 3 Wd #[.ref x, .int j] h 0 0 (fun v h' L => (v = some (.int (cs.getD i 0)) ∧ h' = h) ∧ L = []) := by
  obtain ⟨z, S, hz⟩ := H.2.1
  obtain ⟨fm, Sf, hf⟩ := H.2.2
  obtain ⟨h1, h2, ⟨t, kb, h3, h4⟩, h5, h6⟩ := F
  refine Back.mono (StrChars.Road.chN hZ (fun d hd => H.1 d ((by decide +kernel : ∀ d ∈ StrChars.Road.wordsChN, d ∈ tables_1) d hd)) (kI := 4) (H.1 _ (by decide +kernel : Jvm.Cond.instantiable "java/lang/String" 4 ∈ tables_1)) h1 h3 h2 h4 (StrChars.Road.codOf rfl fun c hc => (h5 c hc).2) (chUp h5) (S.ext O.2) hz (Sf.ext O.2) hf h6 hi hj hfr hlo) (fun P a hp => hp) (fun P a v B hp' hq => ?_)
  obtain ⟨L, ⟨q1, q2, q3⟩, r⟩ := hq
  exact ⟨L, ⟨⟨q1, q3⟩, q2⟩, r⟩
end StrPay
abbrev bs (xs : List Int32) : List Value := (xs.map fun c => c.toInt8.toInt32).map Value.int
def SBA (Z : State) (h : Heap) (b t : Addr) (xs : List Int32) : Prop := Exa Z h b "java/lang/StringBuilder" ∧ Fld Z h b "java/lang/AbstractStringBuilder" "value" "[B" (.ref t) ∧ Fld Z h b "java/lang/AbstractStringBuilder" "count" "I" (.int (Int32.ofNat xs.length)) ∧ Fld Z h b "java/lang/AbstractStringBuilder" "coder" "B" (.int 0) ∧ (∃ (kb : ClassId) (n : Nat), (n = 16 ∨ n = 34) ∧ xs.length ≤ n ∧ Arv Z h t kb .byte (Int32.ofNat n) (bs xs) (.int 0)) ∧ (∀ c ∈ xs, ¬ c < 0 ∧ ¬ (255 : Int32) < c) ∧ Exa Z h t "[B"
theorem SBA.ext {Z : State} {h h' : Heap} {b t : Addr} {xs : List Int32} (F : SBA Z h b t xs) (E : Ext h h') : SBA Z h' b t xs := by
  obtain ⟨h1, h2, h3, h4, ⟨kb, n, h5, h6, h7⟩, h8, h9⟩ := F
  exact ⟨h1.ext E, h2.ext E, h3.ext E, h4.ext E, ⟨kb, n, h5, h6, h7.ext E⟩, h8, h9.ext E⟩
theorem SBA.lt {Z : State} {h : Heap} {b t : Addr} {xs : List Int32} (F : SBA Z h b t xs) : b < h.size := F.1.lt
theorem SBA.tlt {Z : State} {h : Heap} {b t : Addr} {xs : List Int32} (F : SBA Z h b t xs) : t < h.size := by obtain ⟨-, -, -, -, ⟨kb, n, -, -, V⟩, -⟩ := F; exact V.lt
theorem bs_len (xs : List Int32) : (bs xs).length = xs.length := by simp [bs]
theorem bs_app (xs ys : List Int32) : bs (xs ++ ys) = bs xs ++ bs ys := by simp [bs]
theorem range_get {vs : List Value} {d : Value} {k : Nat} (h : vs.length = k) : (List.range k).map (fun i => vs.getD i d) = vs := by
  apply List.ext_getElem (by simp [h])
  intro i h1 h2
  simp [List.getD_eq_getElem?_getD, h2]
theorem range_pad {vs : List Value} {d : Value} {k : Nat} (h : vs.length ≤ k) : (List.range k).map (fun i => vs.getD i d) = vs ++ List.replicate (k - vs.length) d := by
  apply List.ext_getElem (by simp; omega)
  intro i h1 h2
  simp only [List.length_map, List.length_range] at h1
  by_cases q : i < vs.length
  · simp [List.getD_eq_getElem?_getD, q]
  · simp [List.getD_eq_getElem?_getD, List.getElem?_eq_none (Nat.le_of_not_lt q), List.getElem_append_right (Nat.le_of_not_lt q)]
theorem cpy_ok {Z : State} {h : Heap} {t : Addr} {kb : ClassId} {n : Nat} {xs cs : List Int32} (hn : xs.length + cs.length ≤ n) (hb : n ≤ 4000)
    (V : Arv Z h t kb .byte (Int32.ofNat n) ((bs xs ++ List.replicate (n - xs.length) (Value.int 0)).take (Int32.ofNat xs.length).toNatClampNeg ++ (List.range (Int32.ofNat cs.length).toNatClampNeg).map (fun i => (bs cs).getD ((0 : Int32).toNatClampNeg + i) (Value.int 0)) ++ (bs xs ++ List.replicate (n - xs.length) (Value.int 0)).drop ((Int32.ofNat xs.length).toNatClampNeg + (Int32.ofNat cs.length).toNatClampNeg)) (.int 0)) : Arv Z h t kb .byte (Int32.ofNat n) (bs (xs ++ cs)) (.int 0) := by
  rw [n_clamp (by omega), n_clamp (by omega)] at V
  have e0 : (0 : Int32).toNatClampNeg = 0 := rfl
  simp only [e0, Nat.zero_add] at V
  rw [range_get (bs_len cs), List.take_append_of_le_length (by rw [bs_len]; omega), List.take_of_length_le (by rw [bs_len]; omega)] at V
  have ed : (bs xs ++ List.replicate (n - xs.length) (Value.int 0)).drop (xs.length + cs.length) = List.replicate (n - xs.length - cs.length) (Value.int 0) := by
    rw [List.drop_append, List.drop_eq_nil_of_le (by rw [bs_len]; omega), bs_len]; simp
  rw [ed, ← bs_app] at V
  exact V.pad fun i => (pad_rep _ _ _ i).symm
theorem new_ok {Z : State} {h : Heap} {t : Addr} {kb : ClassId} {z : Int32} {m c k : Nat} {xs : List Int32} (hk : xs.length ≤ k) (hc : k ≤ c)
    (V : Arv Z h t kb .byte z ((List.replicate c (Value.int (0 : Int32))).take (0 : Int32).toNatClampNeg ++ (List.range k).map (fun i => (bs xs).getD ((0 : Int32).toNatClampNeg + i) (Value.int 0)) ++ (List.replicate c (Value.int (0 : Int32))).drop ((0 : Int32).toNatClampNeg + k)) (.int (0 : Int32))) : Arv Z h t kb .byte z (bs xs) (.int 0) := by
  have e0 : (0 : Int32).toNatClampNeg = 0 := rfl
  simp only [e0, Nat.zero_add, List.take_zero, List.nil_append] at V
  rw [range_pad (by rw [bs_len]; exact hk), List.drop_replicate, List.append_assoc, List.replicate_append_replicate] at V
  exact V.pad fun i => (pad_rep _ _ _ i).symm
theorem tcase {t t' : Addr} {sf : List Addr} {P : Prop} (h : t' = t ∨ P) (m : t ∈ sf) : t' ∈ sf ∨ P := h.elim (fun e => Or.inl (e ▸ m)) Or.inr
theorem i32le {a b : Int32} (h : ¬ a < b) (g : ¬ b < a) : a = b := by rw [Int32.lt_iff_toInt_lt] at h g; exact i32e (by omega)
def OStr (Z : State) (h : Heap) (v : Value) (o : Option (List Int32)) : Prop := (v = .null ∧ o = none) ∨ ∃ (a : Addr) (cs : List Int32), v = .ref a ∧ o = some cs ∧ StrA Z h a cs ∧ cs.length ≤ 2
theorem OStr.ext {Z : State} {h h' : Heap} {v : Value} {o : Option (List Int32)} (F : OStr Z h v o) (E : Ext h h') : OStr Z h' v o := F.elim Or.inl fun ⟨a, cs, q1, q2, q3, q4⟩ => Or.inr ⟨a, cs, q1, q2, q3.ext E, q4⟩
theorem OStr.ref {Z : State} {h : Heap} {v : Value} {o : Option (List Int32)} (F : OStr Z h v o) : v.isRef = true := by rcases F with ⟨rfl, -⟩ | ⟨a, cs, rfl, -⟩ <;> rfl
def shL : Option (List Int32) → List Int32
  | none => [110, 117, 108, 108]
  | some cs => cs
theorem set_mid {vs ws : List Value} {v : Value} {k : Nat} (h : vs.length = k) : (vs ++ ws).set k v = vs ++ ws.set 0 v := by
  rw [List.set_append_right _ _ (by omega)]; congr 2; omega
theorem null_ok {Z : State} {h : Heap} {t : Addr} {kb : ClassId} {n : Nat} {xs : List Int32} (hn : xs.length + 4 ≤ n)
    (V : Arv Z h t kb .byte (Int32.ofNat n) (((((bs xs ++ List.replicate (n - xs.length) (Value.int 0)).set xs.length (.int (nar .byte (110 : Int32)))).set (xs.length + 1) (.int (nar .byte (117 : Int32)))).set ((xs.length + 1) + 1) (.int (nar .byte (108 : Int32)))).set (((xs.length + 1) + 1) + 1) (.int (nar .byte (108 : Int32)))) (.int 0)) : Arv Z h t kb .byte (Int32.ofNat n) (bs (xs ++ [110, 117, 108, 108])) (.int 0) := by
  obtain ⟨m, rfl⟩ : ∃ m, n = xs.length + 4 + m := ⟨n - (xs.length + 4), by omega⟩
  have e : xs.length + 4 + m - xs.length = m + 4 := by omega
  rw [e] at V
  have key : ((((bs xs ++ List.replicate (m + 4) (Value.int 0)).set xs.length (.int (nar .byte (110 : Int32)))).set (xs.length + 1) (.int (nar .byte (117 : Int32)))).set ((xs.length + 1) + 1) (.int (nar .byte (108 : Int32)))).set (((xs.length + 1) + 1) + 1) (.int (nar .byte (108 : Int32))) = bs (xs ++ [110, 117, 108, 108]) ++ List.replicate m (Value.int 0) := by
    have l := bs_len xs
    rw [show m + 4 = 4 + m by omega, ← List.replicate_append_replicate]
    simp only [bs_app, List.append_assoc]
    generalize bs xs = B at l ⊢
    rw [List.set_append_right _ _ (by omega), List.set_append_right _ _ (by omega), List.set_append_right _ _ (by omega), List.set_append_right _ _ (by omega), ← l]
    simp only [Nat.sub_self, Nat.add_sub_cancel_left, Nat.add_assoc]
    rfl
  rw [key] at V
  exact V.pad fun i => (pad_rep _ _ _ i).symm
theorem OStr.len {Z : State} {h : Heap} {v : Value} {o : Option (List Int32)} (F : OStr Z h v o) : (shL o).length ≤ 4 := by
  rcases F with ⟨-, rfl⟩ | ⟨a, cs, -, rfl, -, l⟩
  · decide
  · show cs.length ≤ 4; omega
theorem at_get {pre ps post : List Int32} {k j : Nat} (hk : pre.length = k) (hj : j < ps.length) : (pre ++ (ps ++ post)).getD (k + j) 0 = ps.getD j 0 := by
  subst hk
  simp [List.getD_eq_getElem?_getD, List.getElem?_append_right, List.getElem?_append_left hj]
abbrev errL (c o m : List Int32) : List Int32 := [(101 : Int32), 114, 114, 111, 114, 32] ++ (c ++ ([(32 : Int32), 111, 102, 32] ++ (o ++ ([(58 : Int32), 32] ++ m))))
theorem ef_coder (m : MethodId) (y0 : Addr) : entryFrame m #[(.ref y0)] 1 = mkF m 0 #[.val (.ref y0)] [] := by first | (simp [entryFrame, mkF, argsToLocals, Value.category, maxLocals]; done) | rfl
def Q_coder (Z : State) (a1 : Addr) (h0 : Heap) (v : Option Value) (h : Heap) : Prop := v = some (.int 0) ∧ h = h0
def rm_coder : Room := { frames := 0, cells := 0, slots := 0, locals := 0 }
set_option maxRecDepth 65536 in
set_option maxHeartbeats 40000000 in
theorem ct_coder {l : Launch} {Z : State} {a0 : Array Value} (H : Ev Z a0) (a1 : Addr) {h0 : Heap} {n0 : Nat} (O0 : Old Z n0 h0) (F1 : Fld Z h0 a1 "java/lang/String" "coder" "B" (.int 0)) : CtrN l Z (⟨"java/lang/String", "coder", "()B"⟩ : MethodName) jdk_42_method_152_code 1 (some .byte) [] rm_coder #[(.ref a1)] h0 [] n0 (Q_coder Z a1 h0) := by
  refine enterN (a0 := a0) (plainFor_of_name pn_0) O0 all0 ?_
  intro p e s m below meth c T0 hx hby hml hrt hnm hlk A0
  replace A0 : Wk false Z a0 [] n0 h0 [] "java/lang/String" p l e rm_coder s m #[(.ref a1)] below meth c [] T0 h0 0 0 := A0
  refine Run.st (T0.setTop (mkF m 0 #[.val (.ref a1)] [])) (fun _ k => castTop (ef_coder m a1) k) ?_
  obtain ⟨zc, Sc, hzc⟩ := H.2.1
  obtain ⟨T1, A1, st1⟩ := A0.getS hx (tw83 H.1) Via.refl (Sc.ext A0.old.2) (g := (mkF m 0 #[.val (.ref a1)] [])) rfl (hb hby d0_0)
  refine Run.st (T1.setTop (mkF m 3 #[.val (.ref a1)] [(.int zc)])) st1 ?_
  refine Run.st (T1.setTop (mkF m 7 #[.val (.ref a1)] [(.ref a1)])) (fun _ k => XS.ifNo A1.here hx rfl (hb hby d0_3) rfl (by rw [if0]; exact (feq hzc).1) (XS.aloadN A1.here hx rfl (hb hby d0_6) rfl rfl k)) ?_
  obtain ⟨T2, A2, st2⟩ := A1.getF hx (tw25 H.1) Via.refl F1 (g := (mkF m 7 #[.val (.ref a1)] [(.ref a1)])) rfl rfl (hb hby d0_7)
  refine Run.st (T2.setTop (mkF m 10 #[.val (.ref a1)] [(.int (0 : Int32))])) st2 ?_
  refine Run.st (T2.setTop (mkF m 14 #[.val (.ref a1)] [(.int (0 : Int32))])) (fun _ k => XS.goto A2.here hx rfl (pc0 := 10) (pc' := 14) rfl (hb hby d0_10) (by decide) (by decide) k) ?_
  exact A2.leaveN hlk (some (.int (0 : Int32))) (fun q => by rw [hrt] at q; cases q) (by decide) (by decide) ⟨rfl, rfl⟩ (fun X hr => retN X hx (t := .byte) hrt (by simp) (hb hby d0_14) hr)
theorem ef_asblen (m : MethodId) (y0 : Addr) : entryFrame m #[(.ref y0)] 1 = mkF m 0 #[.val (.ref y0)] [] := by first | (simp [entryFrame, mkF, argsToLocals, Value.category, maxLocals]; done) | rfl
def Q_asblen (Z : State) (b1 : Addr) (q1 : Int32) (h0 : Heap) (v : Option Value) (h : Heap) : Prop := v = some (.int q1) ∧ h = h0
def rm_asblen : Room := { frames := 0, cells := 0, slots := 0, locals := 0 }
set_option maxRecDepth 65536 in
set_option maxHeartbeats 40000000 in
theorem ct_asblen {l : Launch} {Z : State} {a0 : Array Value} (H : Ev Z a0) (b1 : Addr) (q1 : Int32) {h0 : Heap} {n0 : Nat} (O0 : Old Z n0 h0) (F1 : Fld Z h0 b1 "java/lang/AbstractStringBuilder" "count" "I" (.int q1)) : CtrN l Z (⟨"java/lang/AbstractStringBuilder", "length", "()I"⟩ : MethodName) jdk_68_method_6_code 1 (some .int) [] rm_asblen #[(.ref b1)] h0 [] n0 (Q_asblen Z b1 q1 h0) := by
  refine enterN (a0 := a0) (plainFor_of_name pn_1) O0 all0 ?_
  intro p e s m below meth c T0 hx hby hml hrt hnm hlk A0
  replace A0 : Wk false Z a0 [] n0 h0 [] "java/lang/AbstractStringBuilder" p l e rm_asblen s m #[(.ref b1)] below meth c [] T0 h0 0 0 := A0
  refine Run.st (T0.setTop (mkF m 0 #[.val (.ref b1)] [])) (fun _ k => castTop (ef_asblen m b1) k) ?_
  refine Run.st (T0.setTop (mkF m 1 #[.val (.ref b1)] [(.ref b1)])) (fun _ k => XS.aloadN A0.here hx rfl (hb hby d1_0) rfl rfl k) ?_
  obtain ⟨T3, A3, st3⟩ := A0.getF hx (tw84 H.1) Via.refl F1 (g := (mkF m 1 #[.val (.ref b1)] [(.ref b1)])) rfl rfl (hb hby d1_1)
  refine Run.st (T3.setTop (mkF m 4 #[.val (.ref b1)] [(.int q1)])) st3 ?_
  exact A3.leaveN hlk (some (.int q1)) (fun q => by rw [hrt] at q; cases q) (by decide) (by decide) ⟨rfl, rfl⟩ (fun X hr => retOut X hx (w := (.int q1)) (t := .int) hrt rfl (Or.inl ⟨rfl, Or.inl rfl, _, rfl⟩) (hb hby d1_4) hr)
theorem ef_sblen (m : MethodId) (y0 : Addr) : entryFrame m #[(.ref y0)] 1 = mkF m 0 #[.val (.ref y0)] [] := by first | (simp [entryFrame, mkF, argsToLocals, Value.category, maxLocals]; done) | rfl
def Q_sblen (Z : State) (b1 : Addr) (q1 : Int32) (h0 : Heap) (v : Option Value) (h : Heap) : Prop := v = some (.int q1) ∧ h = h0
def rm_sblen : Room := { frames := 1, cells := 0, slots := 0, locals := 12 }
set_option maxRecDepth 65536 in
set_option maxHeartbeats 40000000 in
theorem ct_sblen {l : Launch} {Z : State} {a0 : Array Value} (H : Ev Z a0) (b1 : Addr) (q1 : Int32) {h0 : Heap} {n0 : Nat} (O0 : Old Z n0 h0) (E1 : Exa Z h0 b1 "java/lang/StringBuilder") (F1 : Fld Z h0 b1 "java/lang/AbstractStringBuilder" "count" "I" (.int q1)) : CtrN l Z (⟨"java/lang/StringBuilder", "length", "()I"⟩ : MethodName) jdk_67_method_93_code 1 (some .int) [] rm_sblen #[(.ref b1)] h0 [] n0 (Q_sblen Z b1 q1 h0) := by
  refine enterN (a0 := a0) (plainFor_of_name pn_2) O0 all0 ?_
  intro p e s m below meth c T0 hx hby hml hrt hnm hlk A0
  replace A0 : Wk false Z a0 [] n0 h0 [] "java/lang/StringBuilder" p l e rm_sblen s m #[(.ref b1)] below meth c [] T0 h0 0 0 := A0
  refine Run.st (T0.setTop (mkF m 0 #[.val (.ref b1)] [])) (fun _ k => castTop (ef_sblen m b1) k) ?_
  refine Run.st (T0.setTop (mkF m 1 #[.val (.ref b1)] [(.ref b1)])) (fun _ k => XS.aloadN A0.here hx rfl (hb hby d2_0) rfl rfl k) ?_
  obtain ⟨v4, T4, h4, AA4, K4, ⟨L4, Q4⟩, st4⟩ := A0.callSup hx (y := (⟨"java/lang/AbstractStringBuilder", "length", "()I"⟩ : MethodName)) (tw169 H.1) (sameOf (tw164 H.1) (nfSelC (tw89 H.1) rfl) (by decide)) (tw165 H.1) (tw70 H.1) (tw170 H.1) (by decide) (g := (mkF m 1 #[.val (.ref b1)] [(.ref b1)])) rfl (by rw [hml]; rfl) (Ins.self E1) [] [] (lenOf pd_0 rfl) rfl (Wd := 0) (by show 2 * 0 + _ ≤ _; exact Nat.le_of_eq rfl) (hb hby d2_1) (by decide) (by decide) [] (fun _ _ _ q => q.2) all0 (fun vm0 hZ => payN (ct_asblen H b1 q1 A0.old F1) (tw170 H.1) (tw54 H.1) (by decide) (by decide) hZ)
  obtain ⟨Q4, N4, -⟩ := Q4
  obtain ⟨rfl, q4⟩ := Q4
  have q4 := q4.symm
  subst q4
  have A4 := AA4 [] all0
  refine Run.st (T4.setTop (mkF m 4 #[.val (.ref b1)] [(.int q1)])) st4 ?_
  exact A4.leaveN hlk (some (.int q1)) (fun q => by rw [hrt] at q; cases q) (by decide) (by decide) ⟨rfl, rfl⟩ (fun X hr => retOut X hx (w := (.int q1)) (t := .int) hrt rfl (Or.inl ⟨rfl, Or.inl rfl, _, rfl⟩) (hb hby d2_4) hr)
theorem ef_getval (m : MethodId) (y0 : Addr) : entryFrame m #[(.ref y0)] 1 = mkF m 0 #[.val (.ref y0)] [] := by first | (simp [entryFrame, mkF, argsToLocals, Value.category, maxLocals]; done) | rfl
def Q_getval (Z : State) (a1 : Addr) (t1 : Addr) (h0 : Heap) (v : Option Value) (h : Heap) : Prop := v = some (.ref t1) ∧ h = h0
def rm_getval : Room := { frames := 0, cells := 0, slots := 0, locals := 0 }
set_option maxRecDepth 65536 in
set_option maxHeartbeats 40000000 in
theorem ct_getval {l : Launch} {Z : State} {a0 : Array Value} (H : Ev Z a0) (a1 : Addr) (t1 : Addr) {h0 : Heap} {n0 : Nat} (O0 : Old Z n0 h0) (F1 : Fld Z h0 a1 "java/lang/AbstractStringBuilder" "value" "[B" (.ref t1)) : CtrN l Z (⟨"java/lang/AbstractStringBuilder", "getValue", "()[B"⟩ : MethodName) jdk_68_method_64_code 1 (some (.array .byte)) [] rm_getval #[(.ref a1)] h0 [] n0 (Q_getval Z a1 t1 h0) := by
  refine enterN (a0 := a0) (plainFor_of_name pn_1) O0 all0 ?_
  intro p e s m below meth c T0 hx hby hml hrt hnm hlk A0
  replace A0 : Wk false Z a0 [] n0 h0 [] "java/lang/AbstractStringBuilder" p l e rm_getval s m #[(.ref a1)] below meth c [] T0 h0 0 0 := A0
  refine Run.st (T0.setTop (mkF m 0 #[.val (.ref a1)] [])) (fun _ k => castTop (ef_getval m a1) k) ?_
  refine Run.st (T0.setTop (mkF m 1 #[.val (.ref a1)] [(.ref a1)])) (fun _ k => XS.aloadN A0.here hx rfl (hb hby d3_0) rfl rfl k) ?_
  obtain ⟨T5, A5, st5⟩ := A0.getF hx (tw58 H.1) Via.refl F1 (g := (mkF m 1 #[.val (.ref a1)] [(.ref a1)])) rfl rfl (hb hby d3_1)
  refine Run.st (T5.setTop (mkF m 4 #[.val (.ref a1)] [(.ref t1)])) st5 ?_
  exact A5.leaveN hlk (some (.ref t1)) (fun q => by rw [hrt] at q; cases q) (by decide) (by decide) ⟨rfl, rfl⟩ (fun X hr => retOut X hx (w := (.ref t1)) (t := (.array .byte)) hrt rfl (Or.inr (Or.inr (Or.inr (Or.inr ⟨rfl, rfl, rfl⟩)))) (hb hby d3_4) hr)
theorem ef_islat (m : MethodId) (y0 : Addr) : entryFrame m #[(.ref y0)] 1 = mkF m 0 #[.val (.ref y0)] [] := by first | (simp [entryFrame, mkF, argsToLocals, Value.category, maxLocals]; done) | rfl
def Q_islat (Z : State) (b1 : Addr) (h0 : Heap) (v : Option Value) (h : Heap) : Prop := v = some (.int 1) ∧ h = h0
def rm_islat : Room := { frames := 0, cells := 0, slots := 0, locals := 0 }
set_option maxRecDepth 65536 in
set_option maxHeartbeats 40000000 in
theorem ct_islat {l : Launch} {Z : State} {a0 : Array Value} (H : Ev Z a0) (b1 : Addr) {h0 : Heap} {n0 : Nat} (O0 : Old Z n0 h0) (F2 : Fld Z h0 b1 "java/lang/AbstractStringBuilder" "coder" "B" (.int 0)) : CtrN l Z (⟨"java/lang/AbstractStringBuilder", "isLatin1", "()Z"⟩ : MethodName) jdk_68_method_68_code 1 (some .boolean) [] rm_islat #[(.ref b1)] h0 [] n0 (Q_islat Z b1 h0) := by
  refine enterN (a0 := a0) (plainFor_of_name pn_1) O0 all0 ?_
  intro p e s m below meth c T0 hx hby hml hrt hnm hlk A0
  replace A0 : Wk false Z a0 [] n0 h0 [] "java/lang/AbstractStringBuilder" p l e rm_islat s m #[(.ref b1)] below meth c [] T0 h0 0 0 := A0
  refine Run.st (T0.setTop (mkF m 0 #[.val (.ref b1)] [])) (fun _ k => castTop (ef_islat m b1) k) ?_
  obtain ⟨zc, Sc, hzc⟩ := H.2.1
  obtain ⟨T6, A6, st6⟩ := A0.getS hx (tw57 H.1) Via.refl (Sc.ext A0.old.2) (g := (mkF m 0 #[.val (.ref b1)] [])) rfl (hb hby d4_0)
  refine Run.st (T6.setTop (mkF m 3 #[.val (.ref b1)] [(.int zc)])) st6 ?_
  refine Run.st (T6.setTop (mkF m 7 #[.val (.ref b1)] [(.ref b1)])) (fun _ k => XS.ifNo A6.here hx rfl (hb hby d4_3) rfl (by rw [if0]; exact (feq hzc).1) (XS.aloadN A6.here hx rfl (hb hby d4_6) rfl rfl k)) ?_
  obtain ⟨T7, A7, st7⟩ := A6.getF hx (tw60 H.1) Via.refl F2 (g := (mkF m 7 #[.val (.ref b1)] [(.ref b1)])) rfl rfl (hb hby d4_7)
  refine Run.st (T7.setTop (mkF m 10 #[.val (.ref b1)] [(.int (0 : Int32))])) st7 ?_
  refine Run.st (T7.setTop (mkF m 18 #[.val (.ref b1)] [(.int (1 : Int32))])) (fun _ k => XS.ifNo A7.here hx rfl (hb hby d4_10) rfl (by decide) (XS.iconst A7.here hx rfl (hb hby d4_13) (XS.goto A7.here hx rfl (pc0 := 14) (pc' := 18) rfl (hb hby d4_14) (by decide) (by decide) k))) ?_
  exact A7.leaveN hlk (some (.int (1 : Int32))) (fun q => by rw [hrt] at q; cases q) (by decide) (by decide) ⟨rfl, rfl⟩ (fun X hr => retN X hx (t := .boolean) hrt (by simp) (hb hby d4_18) hr)
theorem ef_infl (m : MethodId) (y0 : Addr) (y1 : Addr) : entryFrame m #[(.ref y0), (.ref y1)] 2 = mkF m 0 #[.val (.ref y0), .val (.ref y1)] [] := by first | (simp [entryFrame, mkF, argsToLocals, Value.category, maxLocals]; done) | rfl
def Q_infl (Z : State) (b1 : Addr) (s1 : Addr) (c1 : List Int32) (h0 : Heap) (v : Option Value) (h : Heap) : Prop := v = none ∧ h = h0
def rm_infl : Room := { frames := 1, cells := 0, slots := 0, locals := 13 }
set_option maxRecDepth 65536 in
set_option maxHeartbeats 40000000 in
theorem ct_infl {l : Launch} {Z : State} {a0 : Array Value} (H : Ev Z a0) (b1 : Addr) (s1 : Addr) (c1 : List Int32) {h0 : Heap} {n0 : Nat} (O0 : Old Z n0 h0) (F2 : Fld Z h0 b1 "java/lang/AbstractStringBuilder" "coder" "B" (.int 0)) (S1 : StrA Z h0 s1 c1) : CtrN l Z (⟨"java/lang/AbstractStringBuilder", "inflateIfNeededFor", "(Ljava/lang/String;)V"⟩ : MethodName) jdk_68_method_71_code 2 none [] rm_infl #[(.ref b1), (.ref s1)] h0 [] n0 (Q_infl Z b1 s1 c1 h0) := by
  refine enterN (a0 := a0) (plainFor_of_name pn_1) O0 all0 ?_
  intro p e s m below meth c T0 hx hby hml hrt hnm hlk A0
  replace A0 : Wk false Z a0 [] n0 h0 [] "java/lang/AbstractStringBuilder" p l e rm_infl s m #[(.ref b1), (.ref s1)] below meth c [] T0 h0 0 0 := A0
  refine Run.st (T0.setTop (mkF m 0 #[.val (.ref b1), .val (.ref s1)] [])) (fun _ k => castTop (ef_infl m b1 s1) k) ?_
  obtain ⟨zc, Sc, hzc⟩ := H.2.1
  obtain ⟨T8, A8, st8⟩ := A0.getS hx (tw57 H.1) Via.refl (Sc.ext A0.old.2) (g := (mkF m 0 #[.val (.ref b1), .val (.ref s1)] [])) rfl (hb hby d5_0)
  refine Run.st (T8.setTop (mkF m 3 #[.val (.ref b1), .val (.ref s1)] [(.int zc)])) st8 ?_
  refine Run.st (T8.setTop (mkF m 7 #[.val (.ref b1), .val (.ref s1)] [(.ref b1)])) (fun _ k => XS.ifNo A8.here hx rfl (hb hby d5_3) rfl (by rw [if0]; exact (feq hzc).1) (XS.aloadN A8.here hx rfl (hb hby d5_6) rfl rfl k)) ?_
  obtain ⟨T9, A9, st9⟩ := A8.getF hx (tw60 H.1) Via.refl F2 (g := (mkF m 7 #[.val (.ref b1), .val (.ref s1)] [(.ref b1)])) rfl rfl (hb hby d5_7)
  refine Run.st (T9.setTop (mkF m 10 #[.val (.ref b1), .val (.ref s1)] [(.int (0 : Int32))])) st9 ?_
  refine Run.st (T9.setTop (mkF m 11 #[.val (.ref b1), .val (.ref s1)] [(.ref s1), (.int (0 : Int32))])) (fun _ k => XS.aloadN A9.here hx rfl (hb hby d5_10) rfl rfl k) ?_
  obtain ⟨v10, T10, h10, AA10, K10, ⟨L10, Q10⟩, st10⟩ := A9.callV hx (y := (⟨"java/lang/String", "coder", "()B"⟩ : MethodName)) (z := (⟨"java/lang/String", "coder", "()B"⟩ : MethodName)) (tw101 H.1) (tw79 H.1) (tw81 H.1) (tw80 H.1) (nfSel (tw81 H.1)) (by decide) S1.1 (g := (mkF m 11 #[.val (.ref b1), .val (.ref s1)] [(.ref s1), (.int (0 : Int32))])) rfl (by rw [hml]; rfl) [] [(.int (0 : Int32))] (lenOf pd_1 rfl) rfl (Wd := 1) (by show 2 * 0 + _ ≤ _; exact Nat.le_of_eq rfl) (hb hby d5_11) (by decide) (by decide) [] (fun _ _ _ q => q.2) all0 (fun vm0 hZ => payN (ct_coder H s1 A9.old S1.2.1) (tw82 H.1) (tw6 H.1) (by decide) (by decide) hZ)
  obtain ⟨Q10, N10, -⟩ := Q10
  obtain ⟨rfl, q10⟩ := Q10
  have q10 := q10.symm
  subst q10
  have A10 := AA10 [] all0
  refine Run.st (T10.setTop (mkF m 14 #[.val (.ref b1), .val (.ref s1)] [(.int (0 : Int32)), (.int (0 : Int32))])) st10 ?_
  refine Run.st (T10.setTop (mkF m 21 #[.val (.ref b1), .val (.ref s1)] [])) (fun _ k => XS.icmpYes A10.here hx rfl (pc0 := 14) (pc' := 21) rfl (hb hby d5_14) rfl (by decide) (by decide) (by decide) k) ?_
  exact A10.leaveN hlk none (fun _ => rfl) (by decide) (by decide) ⟨rfl, rfl⟩ (fun X hr => X.returnOut hx hrt (hb hby d5_21) hr)
theorem ef_getb (m : MethodId) (y0 : Addr) (y1 : Addr) (y2 : Int32) (y3 : Int32) : entryFrame m #[(.ref y0), (.ref y1), (.int y2), (.int y3)] 4 = mkF m 0 #[.val (.ref y0), .val (.ref y1), .val (.int y2), .val (.int y3)] [] := by first | (simp [entryFrame, mkF, argsToLocals, Value.category, maxLocals]; done) | rfl
def Q_getb (Z : State) (t1 : Addr) (kb : ClassId) (n1 : Nat) (xs : List Int32) (s1 : Addr) (c1 : List Int32) (h0 : Heap) (v : Option Value) (h : Heap) : Prop := v = none ∧ Arv Z h t1 kb .byte (Int32.ofNat n1) (bs (xs ++ c1)) (.int 0)
def rm_getb : Room := { frames := 1, cells := 0, slots := 0, locals := 18 }
set_option maxRecDepth 65536 in
set_option maxHeartbeats 40000000 in
theorem ct_getb {l : Launch} {Z : State} {a0 : Array Value} (H : Ev Z a0) (t1 : Addr) (kb : ClassId) (n1 : Nat) (xs : List Int32) (s1 : Addr) (c1 : List Int32) {h0 : Heap} {n0 : Nat} (O0 : Old Z n0 h0) (Vt : Arv Z h0 t1 kb .byte (Int32.ofNat n1) (bs xs) (.int 0)) (hl1 : xs.length + c1.length ≤ n1) (hn1 : n1 ≤ 4000) (S1 : StrA Z h0 s1 c1) (g_t1 : n0 ≤ t1) (z_t1 : t1 < h0.size) : CtrN l Z (⟨"java/lang/String", "getBytes", "([BIB)V"⟩ : MethodName) jdk_42_method_147_code 4 none [] rm_getb #[(.ref s1), (.ref t1), (.int (Int32.ofNat xs.length)), (.int (0 : Int32))] h0 [t1] n0 (Q_getb Z t1 kb n1 xs s1 c1 h0) := by
  refine enterN (a0 := a0) (plainFor_of_name pn_0) O0 (allS ⟨g_t1, z_t1⟩ all0) ?_
  intro p e s m below meth c T0 hx hby hml hrt hnm hlk A0
  replace A0 : Wk false Z a0 [] n0 h0 [t1] "java/lang/String" p l e rm_getb s m #[(.ref s1), (.ref t1), (.int (Int32.ofNat xs.length)), (.int (0 : Int32))] below meth c [t1] T0 h0 0 0 := A0
  refine Run.st (T0.setTop (mkF m 0 #[.val (.ref s1), .val (.ref t1), .val (.int (Int32.ofNat xs.length)), .val (.int (0 : Int32))] [])) (fun _ k => castTop (ef_getb m s1 t1 (Int32.ofNat xs.length) (0 : Int32)) k) ?_
  obtain ⟨Es_s, Fc_s, ⟨ts_s, kt_s, Fv_s, Vs_s⟩, hc_s, hl_s⟩ := id S1
  refine Run.st (T0.setTop (mkF m 1 #[.val (.ref s1), .val (.ref t1), .val (.int (Int32.ofNat xs.length)), .val (.int (0 : Int32))] [(.ref s1)])) (fun _ k => XS.aloadN A0.here hx rfl (hb hby d6_0) rfl rfl k) ?_
  obtain ⟨v11, T11, h11, AA11, K11, ⟨L11, Q11⟩, st11⟩ := A0.callV hx (y := (⟨"java/lang/String", "coder", "()B"⟩ : MethodName)) (z := (⟨"java/lang/String", "coder", "()B"⟩ : MethodName)) (tw78 H.1) (tw79 H.1) (tw81 H.1) (tw80 H.1) (nfSel (tw81 H.1)) (by decide) Es_s (g := (mkF m 1 #[.val (.ref s1), .val (.ref t1), .val (.int (Int32.ofNat xs.length)), .val (.int (0 : Int32))] [(.ref s1)])) rfl (by rw [hml]; rfl) [] [] (lenOf pd_1 rfl) rfl (Wd := 0) (by show 2 * 0 + _ ≤ _; exact Nat.le_of_eq rfl) (hb hby d6_1) (by decide) (by decide) [] (fun _ _ _ q => q.2) all0 (fun vm0 hZ => payN (ct_coder H s1 A0.old S1.2.1) (tw82 H.1) (tw6 H.1) (by decide) (by decide) hZ)
  obtain ⟨Q11, N11, -⟩ := Q11
  obtain ⟨rfl, q11⟩ := Q11
  have q11 := q11.symm
  subst q11
  have A11 := AA11 [] all0
  refine Run.st (T11.setTop (mkF m 4 #[.val (.ref s1), .val (.ref t1), .val (.int (Int32.ofNat xs.length)), .val (.int (0 : Int32))] [(.int (0 : Int32))])) st11 ?_
  refine Run.st (T11.setTop (mkF m 9 #[.val (.ref s1), .val (.ref t1), .val (.int (Int32.ofNat xs.length)), .val (.int (0 : Int32))] [(.ref s1)])) (fun _ k => XS.iloadN A11.here hx rfl (hb hby d6_4) rfl (XS.icmpNo A11.here hx rfl (hb hby d6_5) rfl (by decide) (XS.aloadN A11.here hx rfl (hb hby d6_8) rfl rfl k))) ?_
  obtain ⟨T12, A12, st12⟩ := A11.getF hx (tw24 H.1) Via.refl Fv_s (g := (mkF m 9 #[.val (.ref s1), .val (.ref t1), .val (.int (Int32.ofNat xs.length)), .val (.int (0 : Int32))] [(.ref s1)])) rfl rfl (hb hby d6_9)
  refine Run.st (T12.setTop (mkF m 12 #[.val (.ref s1), .val (.ref t1), .val (.int (Int32.ofNat xs.length)), .val (.int (0 : Int32))] [(.ref ts_s)])) st12 ?_
  refine Run.st (T12.setTop (mkF m 16 #[.val (.ref s1), .val (.ref t1), .val (.int (Int32.ofNat xs.length)), .val (.int (0 : Int32))] [(.int (0 : Int32)), (.int (Int32.ofNat xs.length)), (.ref t1), (.int (0 : Int32)), (.ref ts_s)])) (fun _ k => XS.iconst A12.here hx rfl (hb hby d6_12) (XS.aloadN A12.here hx rfl (hb hby d6_13) rfl rfl (XS.iloadN A12.here hx rfl (hb hby d6_14) rfl (XS.iloadN A12.here hx rfl (hb hby d6_15) rfl k)))) ?_
  refine Run.st (T12.setTop (mkF m 17 #[.val (.ref s1), .val (.ref t1), .val (.int (Int32.ofNat xs.length)), .val (.int (0 : Int32))] [(.int ((Int32.ofNat xs.length) <<< ((0 : Int32) &&& 31))), (.ref t1), (.int (0 : Int32)), (.ref ts_s)])) (fun _ k => XS.ishl A12.here hx rfl (hb hby d6_16) rfl k) ?_
  rw [show ((Int32.ofNat xs.length) <<< ((0 : Int32) &&& 31)) = (Int32.ofNat xs.length) from shl0 (Int32.ofNat xs.length)]
  refine Run.st (T12.setTop (mkF m 18 #[.val (.ref s1), .val (.ref t1), .val (.int (Int32.ofNat xs.length)), .val (.int (0 : Int32))] [(.ref s1), (.int (Int32.ofNat xs.length)), (.ref t1), (.int (0 : Int32)), (.ref ts_s)])) (fun _ k => XS.aloadN A12.here hx rfl (hb hby d6_17) rfl rfl k) ?_
  obtain ⟨T13, A13, st13⟩ := A12.getF hx (tw24 H.1) Via.refl Fv_s (g := (mkF m 18 #[.val (.ref s1), .val (.ref t1), .val (.int (Int32.ofNat xs.length)), .val (.int (0 : Int32))] [(.ref s1), (.int (Int32.ofNat xs.length)), (.ref t1), (.int (0 : Int32)), (.ref ts_s)])) rfl rfl (hb hby d6_18)
  refine Run.st (T13.setTop (mkF m 21 #[.val (.ref s1), .val (.ref t1), .val (.int (Int32.ofNat xs.length)), .val (.int (0 : Int32))] [(.ref ts_s), (.int (Int32.ofNat xs.length)), (.ref t1), (.int (0 : Int32)), (.ref ts_s)])) st13 ?_
  refine Run.st (T13.setTop (mkF m 22 #[.val (.ref s1), .val (.ref t1), .val (.int (Int32.ofNat xs.length)), .val (.int (0 : Int32))] [(.int (Int32.ofNat c1.length)), (.int (Int32.ofNat xs.length)), (.ref t1), (.int (0 : Int32)), (.ref ts_s)])) (A13.alen hx Vs_s (g := (mkF m 21 #[.val (.ref s1), .val (.ref t1), .val (.int (Int32.ofNat xs.length)), .val (.int (0 : Int32))] [(.ref ts_s), (.int (Int32.ofNat xs.length)), (.ref t1), (.int (0 : Int32)), (.ref ts_s)])) rfl rfl (hb hby d6_21)) ?_
  have Vd : Arv Z h0 t1 kb .byte (Int32.ofNat n1) (bs xs ++ List.replicate (n1 - xs.length) (Value.int 0)) (.int 0) := Vt.pad (pad_rep _ _ _)
  obtain ⟨T14, h14, A14, K14, V14, st14⟩ := A13.copy hx (sp := (0 : Int32)) (dp := (Int32.ofNat xs.length)) (nn := (Int32.ofNat c1.length)) (tw107 H.1) (tw110 H.1) (tw108 H.1) (tw109 H.1) Vs_s Vd rfl (by decide) (n_pos (by omega)) (n_pos (by omega)) (by rw [n_clamp (by omega)]; exact Nat.le_of_eq (Nat.zero_add _)) (by rw [n_clamp (by omega), n_clamp (by omega), n_clamp (by omega)]; exact hl1) rfl (by rw [n_clamp (by omega), n_clamp (by omega), List.length_append, bs_len, List.length_replicate]; omega) (List.mem_of_getElem? (i := 0) rfl) (g := (mkF m 22 #[.val (.ref s1), .val (.ref t1), .val (.int (Int32.ofNat xs.length)), .val (.int (0 : Int32))] [(.int (Int32.ofNat c1.length)), (.int (Int32.ofNat xs.length)), (.ref t1), (.int (0 : Int32)), (.ref ts_s)])) rfl (by rw [hml]; rfl) rfl (hb hby d6_22) (by decide) (Wd := 0) (by show 2 * 0 + _ ≤ _; exact Nat.le_of_eq rfl) (by decide)
  refine Run.st (T14.setTop (mkF m 25 #[.val (.ref s1), .val (.ref t1), .val (.int (Int32.ofNat xs.length)), .val (.int (0 : Int32))] [])) st14 ?_
  refine Run.st (T14.setTop (mkF m 43 #[.val (.ref s1), .val (.ref t1), .val (.int (Int32.ofNat xs.length)), .val (.int (0 : Int32))] [])) (fun _ k => XS.goto A14.here hx rfl (pc0 := 25) (pc' := 43) rfl (hb hby d6_25) (by decide) (by decide) k) ?_
  exact A14.leaveN hlk none (fun _ => rfl) (by decide) (by decide) ⟨rfl, cpy_ok hl1 hn1 V14⟩ (fun X hr => X.returnOut hx hrt (hb hby d6_43) hr)
theorem ef_puts (m : MethodId) (y0 : Addr) (y1 : Int32) (y2 : Addr) : entryFrame m #[(.ref y0), (.int y1), (.ref y2)] 3 = mkF m 0 #[.val (.ref y0), .val (.int y1), .val (.ref y2)] [] := by first | (simp [entryFrame, mkF, argsToLocals, Value.category, maxLocals]; done) | rfl
def Q_puts (Z : State) (b1 : Addr) (t1 : Addr) (kb : ClassId) (n1 : Nat) (xs : List Int32) (s1 : Addr) (c1 : List Int32) (h0 : Heap) (v : Option Value) (h : Heap) : Prop := v = none ∧ Arv Z h t1 kb .byte (Int32.ofNat n1) (bs (xs ++ c1)) (.int 0)
def rm_puts : Room := { frames := 2, cells := 0, slots := 0, locals := 33 }
set_option maxRecDepth 65536 in
set_option maxHeartbeats 40000000 in
theorem ct_puts {l : Launch} {Z : State} {a0 : Array Value} (H : Ev Z a0) (b1 : Addr) (t1 : Addr) (kb : ClassId) (n1 : Nat) (xs : List Int32) (s1 : Addr) (c1 : List Int32) {h0 : Heap} {n0 : Nat} (O0 : Old Z n0 h0) (E1 : Exa Z h0 b1 "java/lang/StringBuilder") (F2 : Fld Z h0 b1 "java/lang/AbstractStringBuilder" "coder" "B" (.int 0)) (F3 : Fld Z h0 b1 "java/lang/AbstractStringBuilder" "value" "[B" (.ref t1)) (Vt : Arv Z h0 t1 kb .byte (Int32.ofNat n1) (bs xs) (.int 0)) (hl1 : xs.length + c1.length ≤ n1) (hn1 : n1 ≤ 4000) (S1 : StrA Z h0 s1 c1) (g_t1 : n0 ≤ t1) (z_t1 : t1 < h0.size) : CtrN l Z (⟨"java/lang/AbstractStringBuilder", "putStringAt", "(ILjava/lang/String;)V"⟩ : MethodName) jdk_68_method_73_code 3 none [] rm_puts #[(.ref b1), (.int (Int32.ofNat xs.length)), (.ref s1)] h0 [t1] n0 (Q_puts Z b1 t1 kb n1 xs s1 c1 h0) := by
  refine enterN (a0 := a0) (plainFor_of_name pn_1) O0 (allS ⟨g_t1, z_t1⟩ all0) ?_
  intro p e s m below meth c T0 hx hby hml hrt hnm hlk A0
  replace A0 : Wk false Z a0 [] n0 h0 [t1] "java/lang/AbstractStringBuilder" p l e rm_puts s m #[(.ref b1), (.int (Int32.ofNat xs.length)), (.ref s1)] below meth c [t1] T0 h0 0 0 := A0
  refine Run.st (T0.setTop (mkF m 0 #[.val (.ref b1), .val (.int (Int32.ofNat xs.length)), .val (.ref s1)] [])) (fun _ k => castTop (ef_puts m b1 (Int32.ofNat xs.length) s1) k) ?_
  refine Run.st (T0.setTop (mkF m 2 #[.val (.ref b1), .val (.int (Int32.ofNat xs.length)), .val (.ref s1)] [(.ref s1), (.ref b1)])) (fun _ k => XS.aloadN A0.here hx rfl (hb hby d7_0) rfl rfl (XS.aloadN A0.here hx rfl (hb hby d7_1) rfl rfl k)) ?_
  obtain ⟨v15, T15, h15, AA15, K15, ⟨L15, Q15⟩, st15⟩ := A0.callV hx (y := (⟨"java/lang/AbstractStringBuilder", "inflateIfNeededFor", "(Ljava/lang/String;)V"⟩ : MethodName)) (z := (⟨"java/lang/AbstractStringBuilder", "inflateIfNeededFor", "(Ljava/lang/String;)V"⟩ : MethodName)) (tw96 H.1) (declOf (tw97 H.1) (tw100 H.1)) (tw99 H.1) (tw97 H.1) (nfSel (tw99 H.1)) (by decide) E1 (g := (mkF m 2 #[.val (.ref b1), .val (.int (Int32.ofNat xs.length)), .val (.ref s1)] [(.ref s1), (.ref b1)])) rfl (by rw [hml]; rfl) [(.ref s1)] [] (lenOf pd_2 rfl) rfl (Wd := 0) (by show 2 * 0 + _ ≤ _; exact Nat.le_of_eq rfl) (hb hby d7_2) (by decide) (by decide) [] (fun _ _ _ q => q.2) all0 (fun vm0 hZ => payN (ct_infl H b1 s1 c1 A0.old F2 S1) (tw100 H.1) (tw54 H.1) (by decide) (by decide) hZ)
  obtain ⟨Q15, N15, -⟩ := Q15
  obtain ⟨rfl, q15⟩ := Q15
  have q15 := q15.symm
  subst q15
  have A15 := AA15 [] all0
  refine Run.st (T15.setTop (mkF m 5 #[.val (.ref b1), .val (.int (Int32.ofNat xs.length)), .val (.ref s1)] [])) st15 ?_
  refine Run.st (T15.setTop (mkF m 7 #[.val (.ref b1), .val (.int (Int32.ofNat xs.length)), .val (.ref s1)] [(.ref b1), (.ref s1)])) (fun _ k => XS.aloadN A15.here hx rfl (hb hby d7_5) rfl rfl (XS.aloadN A15.here hx rfl (hb hby d7_6) rfl rfl k)) ?_
  obtain ⟨T16, A16, st16⟩ := A15.getF hx (tw58 H.1) Via.refl F3 (g := (mkF m 7 #[.val (.ref b1), .val (.int (Int32.ofNat xs.length)), .val (.ref s1)] [(.ref b1), (.ref s1)])) rfl rfl (hb hby d7_7)
  refine Run.st (T16.setTop (mkF m 10 #[.val (.ref b1), .val (.int (Int32.ofNat xs.length)), .val (.ref s1)] [(.ref t1), (.ref s1)])) st16 ?_
  refine Run.st (T16.setTop (mkF m 12 #[.val (.ref b1), .val (.int (Int32.ofNat xs.length)), .val (.ref s1)] [(.ref b1), (.int (Int32.ofNat xs.length)), (.ref t1), (.ref s1)])) (fun _ k => XS.iloadN A16.here hx rfl (hb hby d7_10) rfl (XS.aloadN A16.here hx rfl (hb hby d7_11) rfl rfl k)) ?_
  obtain ⟨T17, A17, st17⟩ := A16.getF hx (tw60 H.1) Via.refl F2 (g := (mkF m 12 #[.val (.ref b1), .val (.int (Int32.ofNat xs.length)), .val (.ref s1)] [(.ref b1), (.int (Int32.ofNat xs.length)), (.ref t1), (.ref s1)])) rfl rfl (hb hby d7_12)
  refine Run.st (T17.setTop (mkF m 15 #[.val (.ref b1), .val (.int (Int32.ofNat xs.length)), .val (.ref s1)] [(.int (0 : Int32)), (.int (Int32.ofNat xs.length)), (.ref t1), (.ref s1)])) st17 ?_
  obtain ⟨v18, T18, h18, AA18, K18, ⟨L18, Q18⟩, st18⟩ := A17.callV hx (y := (⟨"java/lang/String", "getBytes", "([BIB)V"⟩ : MethodName)) (z := (⟨"java/lang/String", "getBytes", "([BIB)V"⟩ : MethodName)) (tw102 H.1) (tw103 H.1) (tw105 H.1) (tw104 H.1) (nfSel (tw105 H.1)) (by decide) S1.1 (g := (mkF m 15 #[.val (.ref b1), .val (.int (Int32.ofNat xs.length)), .val (.ref s1)] [(.int (0 : Int32)), (.int (Int32.ofNat xs.length)), (.ref t1), (.ref s1)])) rfl (by rw [hml]; rfl) [(.ref t1), (.int (Int32.ofNat xs.length)), (.int (0 : Int32))] [] (lenOf pd_3 rfl) rfl (Wd := 0) (by show 2 * 0 + _ ≤ _; exact Nat.le_of_eq rfl) (hb hby d7_15) (by decide) (by decide) [t1] (fun _ _ _ q => q.2) (allS (List.mem_of_getElem? (i := 0) rfl) all0) (fun vm0 hZ => payN (ct_getb H t1 kb n1 xs s1 c1 A17.old Vt hl1 hn1 S1 (A17.nle (List.mem_of_getElem? (i := 0) rfl)) Vt.lt) (tw106 H.1) (tw6 H.1) (by decide) (by decide) hZ)
  obtain ⟨Q18, N18, -⟩ := Q18
  obtain ⟨rfl, Vb18⟩ := Q18
  have A18 := AA18 [] all0
  refine Run.st (T18.setTop (mkF m 18 #[.val (.ref b1), .val (.int (Int32.ofNat xs.length)), .val (.ref s1)] [])) st18 ?_
  exact A18.leaveN hlk none (fun _ => rfl) (by decide) (by decide) ⟨rfl, Vb18⟩ (fun X hr => X.returnOut hx hrt (hb hby d7_18) hr)
theorem ef_max (m : MethodId) (y0 : Int32) (y1 : Int32) : entryFrame m #[(.int y0), (.int y1)] 2 = mkF m 0 #[.val (.int y0), .val (.int y1)] [] := by first | (simp [entryFrame, mkF, argsToLocals, Value.category, maxLocals]; done) | rfl
def Q_max (Z : State) (j1 : Nat) (h0 : Heap) (v : Option Value) (h : Heap) : Prop := v = some (.int 18) ∧ h = h0
def rm_max : Room := { frames := 0, cells := 0, slots := 0, locals := 0 }
set_option maxRecDepth 65536 in
set_option maxHeartbeats 40000000 in
theorem ct_max {l : Launch} {Z : State} {a0 : Array Value} (H : Ev Z a0) (j1 : Nat) {h0 : Heap} {n0 : Nat} (O0 : Old Z n0 h0) (hj : j1 ≤ 18) : CtrN l Z (⟨"java/lang/Math", "max", "(II)I"⟩ : MethodName) jdk_29_method_65_code 2 (some .int) [] rm_max #[(.int (Int32.ofNat j1)), (.int (18 : Int32))] h0 [] n0 (Q_max Z j1 h0) := by
  refine enterN (a0 := a0) (Jvm.Free.JP.mathPlain rfl (by decide +kernel)) O0 all0 ?_
  intro p e s m below meth c T0 hx hby hml hrt hnm hlk A0
  replace A0 : Wk false Z a0 [] n0 h0 [] "java/lang/Math" p l e rm_max s m #[(.int (Int32.ofNat j1)), (.int (18 : Int32))] below meth c [] T0 h0 0 0 := A0
  refine Run.st (T0.setTop (mkF m 0 #[.val (.int (Int32.ofNat j1)), .val (.int (18 : Int32))] [])) (fun _ k => castTop (ef_max m (Int32.ofNat j1) (18 : Int32)) k) ?_
  refine Run.st (T0.setTop (mkF m 2 #[.val (.int (Int32.ofNat j1)), .val (.int (18 : Int32))] [(.int (18 : Int32)), (.int (Int32.ofNat j1))])) (fun _ k => XS.iloadN A0.here hx rfl (hb hby d8_0) rfl (XS.iloadN A0.here hx rfl (hb hby d8_1) rfl k)) ?_
  by_cases c19 : j1 < 18
  · refine Run.st (T0.setTop (mkF m 10 #[.val (.int (Int32.ofNat j1)), .val (.int (18 : Int32))] [(.int (18 : Int32))])) (fun _ k => XS.icmpYes A0.here hx rfl (pc0 := 2) (pc' := 9) rfl (hb hby d8_2) rfl (tlt ((n_lt (by omega) (by decide)).mpr c19)).1 (by decide) (by decide) (XS.iloadN A0.here hx rfl (hb hby d8_9) rfl k)) ?_
    exact A0.leaveN hlk (some (.int (18 : Int32))) (fun q => by rw [hrt] at q; cases q) (by decide) (by decide) ⟨rfl, rfl⟩ (fun X hr => retOut X hx (w := (.int (18 : Int32))) (t := .int) hrt rfl (Or.inl ⟨rfl, Or.inl rfl, _, rfl⟩) (hb hby d8_10) hr)
  · refine Run.st (T0.setTop (mkF m 10 #[.val (.int (Int32.ofNat j1)), .val (.int (18 : Int32))] [(.int (Int32.ofNat j1))])) (fun _ k => XS.icmpNo A0.here hx rfl (hb hby d8_2) rfl (flt (fun q => c19 ((n_lt (by omega) (by decide)).mp q))).1 (XS.iloadN A0.here hx rfl (hb hby d8_5) rfl (XS.goto A0.here hx rfl (pc0 := 6) (pc' := 10) rfl (hb hby d8_6) (by decide) (by decide) k))) ?_
    exact A0.leaveN hlk (some (.int (Int32.ofNat j1))) (fun q => by rw [hrt] at q; cases q) (by decide) (by decide) ⟨by rw [show j1 = 18 by omega]; rfl, rfl⟩ (fun X hr => retOut X hx (w := (.int (Int32.ofNat j1))) (t := .int) hrt rfl (Or.inl ⟨rfl, Or.inl rfl, _, rfl⟩) (hb hby d8_10) hr)
theorem ef_min1 (m : MethodId) (y0 : Int32) (y1 : Int32) : entryFrame m #[(.int y0), (.int y1)] 2 = mkF m 0 #[.val (.int y0), .val (.int y1)] [] := by first | (simp [entryFrame, mkF, argsToLocals, Value.category, maxLocals]; done) | rfl
def Q_min1 (Z : State) (p1 : Int32) (q1 : Int32) (h0 : Heap) (v : Option Value) (h : Heap) : Prop := v = some (.int q1) ∧ h = h0
def rm_min1 : Room := { frames := 0, cells := 0, slots := 0, locals := 0 }
set_option maxRecDepth 65536 in
set_option maxHeartbeats 40000000 in
theorem ct_min1 {l : Launch} {Z : State} {a0 : Array Value} (H : Ev Z a0) (p1 : Int32) (q1 : Int32) {h0 : Heap} {n0 : Nat} (O0 : Old Z n0 h0) (hpq : ¬ p1 < q1) : CtrN l Z (⟨"java/lang/Math", "min", "(II)I"⟩ : MethodName) jdk_29_method_69_code 2 (some .int) [] rm_min1 #[(.int p1), (.int q1)] h0 [] n0 (Q_min1 Z p1 q1 h0) := by
  refine enterN (a0 := a0) (Jvm.Free.JP.mathPlain rfl (by decide +kernel)) O0 all0 ?_
  intro p e s m below meth c T0 hx hby hml hrt hnm hlk A0
  replace A0 : Wk false Z a0 [] n0 h0 [] "java/lang/Math" p l e rm_min1 s m #[(.int p1), (.int q1)] below meth c [] T0 h0 0 0 := A0
  refine Run.st (T0.setTop (mkF m 0 #[.val (.int p1), .val (.int q1)] [])) (fun _ k => castTop (ef_min1 m p1 q1) k) ?_
  refine Run.st (T0.setTop (mkF m 2 #[.val (.int p1), .val (.int q1)] [(.int q1), (.int p1)])) (fun _ k => XS.iloadN A0.here hx rfl (hb hby d9_0) rfl (XS.iloadN A0.here hx rfl (hb hby d9_1) rfl k)) ?_
  by_cases c20 : q1 < p1
  · refine Run.st (T0.setTop (mkF m 10 #[.val (.int p1), .val (.int q1)] [(.int q1)])) (fun _ k => XS.icmpYes A0.here hx rfl (pc0 := 2) (pc' := 9) rfl (hb hby d9_2) rfl (tlt c20).2.2.1 (by decide) (by decide) (XS.iloadN A0.here hx rfl (hb hby d9_9) rfl k)) ?_
    exact A0.leaveN hlk (some (.int q1)) (fun q => by rw [hrt] at q; cases q) (by decide) (by decide) ⟨rfl, rfl⟩ (fun X hr => retOut X hx (w := (.int q1)) (t := .int) hrt rfl (Or.inl ⟨rfl, Or.inl rfl, _, rfl⟩) (hb hby d9_10) hr)
  · refine Run.st (T0.setTop (mkF m 10 #[.val (.int p1), .val (.int q1)] [(.int p1)])) (fun _ k => XS.icmpNo A0.here hx rfl (hb hby d9_2) rfl (flt c20).2.2.1 (XS.iloadN A0.here hx rfl (hb hby d9_5) rfl (XS.goto A0.here hx rfl (pc0 := 6) (pc' := 10) rfl (hb hby d9_6) (by decide) (by decide) k))) ?_
    exact A0.leaveN hlk (some (.int p1)) (fun q => by rw [hrt] at q; cases q) (by decide) (by decide) ⟨by rw [i32le hpq c20], rfl⟩ (fun X hr => retOut X hx (w := (.int p1)) (t := .int) hrt rfl (Or.inl ⟨rfl, Or.inl rfl, _, rfl⟩) (hb hby d9_10) hr)
theorem ef_min2 (m : MethodId) (y0 : Int32) (y1 : Int32) : entryFrame m #[(.int y0), (.int y1)] 2 = mkF m 0 #[.val (.int y0), .val (.int y1)] [] := by first | (simp [entryFrame, mkF, argsToLocals, Value.category, maxLocals]; done) | rfl
def Q_min2 (Z : State) (p1 : Int32) (q1 : Int32) (h0 : Heap) (v : Option Value) (h : Heap) : Prop := v = some (.int p1) ∧ h = h0
def rm_min2 : Room := { frames := 0, cells := 0, slots := 0, locals := 0 }
set_option maxRecDepth 65536 in
set_option maxHeartbeats 40000000 in
theorem ct_min2 {l : Launch} {Z : State} {a0 : Array Value} (H : Ev Z a0) (p1 : Int32) (q1 : Int32) {h0 : Heap} {n0 : Nat} (O0 : Old Z n0 h0) (hpq : ¬ q1 < p1) : CtrN l Z (⟨"java/lang/Math", "min", "(II)I"⟩ : MethodName) jdk_29_method_69_code 2 (some .int) [] rm_min2 #[(.int p1), (.int q1)] h0 [] n0 (Q_min2 Z p1 q1 h0) := by
  refine enterN (a0 := a0) (Jvm.Free.JP.mathPlain rfl (by decide +kernel)) O0 all0 ?_
  intro p e s m below meth c T0 hx hby hml hrt hnm hlk A0
  replace A0 : Wk false Z a0 [] n0 h0 [] "java/lang/Math" p l e rm_min2 s m #[(.int p1), (.int q1)] below meth c [] T0 h0 0 0 := A0
  refine Run.st (T0.setTop (mkF m 0 #[.val (.int p1), .val (.int q1)] [])) (fun _ k => castTop (ef_min2 m p1 q1) k) ?_
  refine Run.st (T0.setTop (mkF m 10 #[.val (.int p1), .val (.int q1)] [(.int p1)])) (fun _ k => XS.iloadN A0.here hx rfl (hb hby d9_0) rfl (XS.iloadN A0.here hx rfl (hb hby d9_1) rfl (XS.icmpNo A0.here hx rfl (hb hby d9_2) rfl (flt hpq).2.2.1 (XS.iloadN A0.here hx rfl (hb hby d9_5) rfl (XS.goto A0.here hx rfl (pc0 := 6) (pc' := 10) rfl (hb hby d9_6) (by decide) (by decide) k))))) ?_
  exact A0.leaveN hlk (some (.int p1)) (fun q => by rw [hrt] at q; cases q) (by decide) (by decide) ⟨rfl, rfl⟩ (fun X hr => retOut X hx (w := (.int p1)) (t := .int) hrt rfl (Or.inl ⟨rfl, Or.inl rfl, _, rfl⟩) (hb hby d9_10) hr)
theorem ef_newlen (m : MethodId) (y0 : Int32) (y1 : Int32) (y2 : Int32) : entryFrame m #[(.int y0), (.int y1), (.int y2)] 4 = mkF m 0 #[.val (.int y0), .val (.int y1), .val (.int y2), .unset] [] := by first | (simp [entryFrame, mkF, argsToLocals, Value.category, maxLocals]; done) | rfl
def Q_newlen (Z : State) (j1 : Nat) (h0 : Heap) (v : Option Value) (h : Heap) : Prop := v = some (.int 34) ∧ h = h0
def rm_newlen : Room := { frames := 1, cells := 0, slots := 0, locals := 14 }
set_option maxRecDepth 65536 in
set_option maxHeartbeats 40000000 in
theorem ct_newlen {l : Launch} {Z : State} {a0 : Array Value} (H : Ev Z a0) (j1 : Nat) {h0 : Heap} {n0 : Nat} (O0 : Old Z n0 h0) (hj : j1 ≤ 18) : CtrN l Z (⟨"jdk/internal/util/ArraysSupport", "newLength", "(III)I"⟩ : MethodName) jdk_48_method_27_code 4 (some .int) [] rm_newlen #[(.int (16 : Int32)), (.int (Int32.ofNat j1)), (.int (18 : Int32))] h0 [] n0 (Q_newlen Z j1 h0) := by
  refine enterN (a0 := a0) (plainFor_of_name pn_3) O0 all0 ?_
  intro p e s m below meth c T0 hx hby hml hrt hnm hlk A0
  replace A0 : Wk false Z a0 [] n0 h0 [] "jdk/internal/util/ArraysSupport" p l e rm_newlen s m #[(.int (16 : Int32)), (.int (Int32.ofNat j1)), (.int (18 : Int32))] below meth c [] T0 h0 0 0 := A0
  refine Run.st (T0.setTop (mkF m 0 #[.val (.int (16 : Int32)), .val (.int (Int32.ofNat j1)), .val (.int (18 : Int32)), .unset] [])) (fun _ k => castTop (ef_newlen m (16 : Int32) (Int32.ofNat j1) (18 : Int32)) k) ?_
  refine Run.st (T0.setTop (mkF m 3 #[.val (.int (16 : Int32)), .val (.int (Int32.ofNat j1)), .val (.int (18 : Int32)), .unset] [(.int (18 : Int32)), (.int (Int32.ofNat j1)), (.int (16 : Int32))])) (fun _ k => XS.iloadN A0.here hx rfl (hb hby d10_0) rfl (XS.iloadN A0.here hx rfl (hb hby d10_1) rfl (XS.iloadN A0.here hx rfl (hb hby d10_2) rfl k))) ?_
  obtain ⟨v21, T21, h21, AA21, K21, ⟨L21, Q21⟩, st21⟩ := A0.callS hx (tw132 H.1) (tw133 H.1) (tw134 H.1) (tw135 H.1) (by decide) (g := (mkF m 3 #[.val (.int (16 : Int32)), .val (.int (Int32.ofNat j1)), .val (.int (18 : Int32)), .unset] [(.int (18 : Int32)), (.int (Int32.ofNat j1)), (.int (16 : Int32))])) rfl (by rw [hml]; rfl) [(.int (Int32.ofNat j1)), (.int (18 : Int32))] [(.int (16 : Int32))] (lenOf pd_4 rfl) rfl (Wd := 1) (by show 2 * 0 + _ ≤ _; exact Nat.le_of_eq rfl) (hb hby d10_3) (by decide) (by decide) [] (fun _ _ _ q => q.2) all0 (fun vm0 hZ => payN (ct_max H j1 A0.old hj) (tw135 H.1) (tw134 H.1) (by decide) (by decide) hZ)
  obtain ⟨Q21, N21, -⟩ := Q21
  obtain ⟨rfl, q21⟩ := Q21
  have q21 := q21.symm
  subst q21
  have A21 := AA21 [] all0
  refine Run.st (T21.setTop (mkF m 6 #[.val (.int (16 : Int32)), .val (.int (Int32.ofNat j1)), .val (.int (18 : Int32)), .unset] [(.int (18 : Int32)), (.int (16 : Int32))])) st21 ?_
  refine Run.st (T21.setTop (mkF m 14 #[.val (.int (16 : Int32)), .val (.int (Int32.ofNat j1)), .val (.int (18 : Int32)), .val (.int (34 : Int32))] [(.int (34 : Int32))])) (fun _ k => XS.iadd A21.here hx rfl (hb hby d10_6) rfl (XS.istoreN A21.here hx rfl (hb hby d10_7) rfl (l' := #[.val (.int (16 : Int32)), .val (.int (Int32.ofNat j1)), .val (.int (18 : Int32)), .val (.int (34 : Int32))]) rfl (XS.iconst A21.here hx rfl (hb hby d10_8) (XS.iloadN A21.here hx rfl (hb hby d10_9) rfl (XS.icmpNo A21.here hx rfl (hb hby d10_10) rfl (by decide) (XS.iloadN A21.here hx rfl (hb hby d10_13) rfl k)))))) ?_
  refine Run.st (T21.setTop (mkF m 16 #[.val (.int (16 : Int32)), .val (.int (Int32.ofNat j1)), .val (.int (18 : Int32)), .val (.int (34 : Int32))] [(.int (2147483639 : Int32)), (.int (34 : Int32))])) (A21.ldcI hx (tw136 H.1) (g := (mkF m 14 #[.val (.int (16 : Int32)), .val (.int (Int32.ofNat j1)), .val (.int (18 : Int32)), .val (.int (34 : Int32))] [(.int (34 : Int32))])) rfl (hb hby d10_14)) ?_
  refine Run.st (T21.setTop (mkF m 20 #[.val (.int (16 : Int32)), .val (.int (Int32.ofNat j1)), .val (.int (18 : Int32)), .val (.int (34 : Int32))] [(.int (34 : Int32))])) (fun _ k => XS.icmpNo A21.here hx rfl (hb hby d10_16) rfl (by decide) (XS.iloadN A21.here hx rfl (hb hby d10_19) rfl k)) ?_
  exact A21.leaveN hlk (some (.int (34 : Int32))) (fun q => by rw [hrt] at q; cases q) (by decide) (by decide) ⟨rfl, rfl⟩ (fun X hr => retOut X hx (w := (.int (34 : Int32))) (t := .int) hrt rfl (Or.inl ⟨rfl, Or.inl rfl, _, rfl⟩) (hb hby d10_20) hr)
theorem ef_newcap (m : MethodId) (y0 : Addr) (y1 : Int32) : entryFrame m #[(.ref y0), (.int y1)] 6 = mkF m 0 #[.val (.ref y0), .val (.int y1), .unset, .unset, .unset, .unset] [] := by first | (simp [entryFrame, mkF, argsToLocals, Value.category, maxLocals]; done) | rfl
def Q_newcap (Z : State) (b1 : Addr) (t1 : Addr) (kb : ClassId) (xs : List Int32) (m1 : Nat) (h0 : Heap) (v : Option Value) (h : Heap) : Prop := v = some (.int 34) ∧ h = h0
def rm_newcap : Room := { frames := 2, cells := 0, slots := 0, locals := 29 }
set_option maxRecDepth 65536 in
set_option maxHeartbeats 40000000 in
theorem ct_newcap {l : Launch} {Z : State} {a0 : Array Value} (H : Ev Z a0) (b1 : Addr) (t1 : Addr) (kb : ClassId) (xs : List Int32) (m1 : Nat) {h0 : Heap} {n0 : Nat} (O0 : Old Z n0 h0) (F2 : Fld Z h0 b1 "java/lang/AbstractStringBuilder" "coder" "B" (.int 0)) (F3 : Fld Z h0 b1 "java/lang/AbstractStringBuilder" "value" "[B" (.ref t1)) (Vt : Arv Z h0 t1 kb .byte (16 : Int32) (bs xs) (.int 0)) (hm : 16 < m1) (hm2 : m1 ≤ 34) : CtrN l Z (⟨"java/lang/AbstractStringBuilder", "newCapacity", "(I)I"⟩ : MethodName) jdk_68_method_10_code 6 (some .int) [] rm_newcap #[(.ref b1), (.int (Int32.ofNat m1))] h0 [] n0 (Q_newcap Z b1 t1 kb xs m1 h0) := by
  refine enterN (a0 := a0) (plainFor_of_name pn_1) O0 all0 ?_
  intro p e s m below meth c T0 hx hby hml hrt hnm hlk A0
  replace A0 : Wk false Z a0 [] n0 h0 [] "java/lang/AbstractStringBuilder" p l e rm_newcap s m #[(.ref b1), (.int (Int32.ofNat m1))] below meth c [] T0 h0 0 0 := A0
  refine Run.st (T0.setTop (mkF m 0 #[.val (.ref b1), .val (.int (Int32.ofNat m1)), .unset, .unset, .unset, .unset] [])) (fun _ k => castTop (ef_newcap m b1 (Int32.ofNat m1)) k) ?_
  refine Run.st (T0.setTop (mkF m 1 #[.val (.ref b1), .val (.int (Int32.ofNat m1)), .unset, .unset, .unset, .unset] [(.ref b1)])) (fun _ k => XS.aloadN A0.here hx rfl (hb hby d11_0) rfl rfl k) ?_
  obtain ⟨T22, A22, st22⟩ := A0.getF hx (tw58 H.1) Via.refl F3 (g := (mkF m 1 #[.val (.ref b1), .val (.int (Int32.ofNat m1)), .unset, .unset, .unset, .unset] [(.ref b1)])) rfl rfl (hb hby d11_1)
  refine Run.st (T22.setTop (mkF m 4 #[.val (.ref b1), .val (.int (Int32.ofNat m1)), .unset, .unset, .unset, .unset] [(.ref t1)])) st22 ?_
  refine Run.st (T22.setTop (mkF m 5 #[.val (.ref b1), .val (.int (Int32.ofNat m1)), .unset, .unset, .unset, .unset] [(.int (16 : Int32))])) (A22.alen hx Vt (g := (mkF m 4 #[.val (.ref b1), .val (.int (Int32.ofNat m1)), .unset, .unset, .unset, .unset] [(.ref t1)])) rfl rfl (hb hby d11_4)) ?_
  refine Run.st (T22.setTop (mkF m 8 #[.val (.ref b1), .val (.int (Int32.ofNat m1)), .val (.int (16 : Int32)), .unset, .unset, .unset] [(.ref b1), (.int (Int32.ofNat m1))])) (fun _ k => XS.istoreN A22.here hx rfl (hb hby d11_5) rfl (l' := #[.val (.ref b1), .val (.int (Int32.ofNat m1)), .val (.int (16 : Int32)), .unset, .unset, .unset]) rfl (XS.iloadN A22.here hx rfl (hb hby d11_6) rfl (XS.aloadN A22.here hx rfl (hb hby d11_7) rfl rfl k))) ?_
  obtain ⟨T23, A23, st23⟩ := A22.getF hx (tw60 H.1) Via.refl F2 (g := (mkF m 8 #[.val (.ref b1), .val (.int (Int32.ofNat m1)), .val (.int (16 : Int32)), .unset, .unset, .unset] [(.ref b1), (.int (Int32.ofNat m1))])) rfl rfl (hb hby d11_8)
  refine Run.st (T23.setTop (mkF m 11 #[.val (.ref b1), .val (.int (Int32.ofNat m1)), .val (.int (16 : Int32)), .unset, .unset, .unset] [(.int (0 : Int32)), (.int (Int32.ofNat m1))])) st23 ?_
  refine Run.st (T23.setTop (mkF m 12 #[.val (.ref b1), .val (.int (Int32.ofNat m1)), .val (.int (16 : Int32)), .unset, .unset, .unset] [(.int ((Int32.ofNat m1) <<< ((0 : Int32) &&& 31)))])) (fun _ k => XS.ishl A23.here hx rfl (hb hby d11_11) rfl k) ?_
  rw [show ((Int32.ofNat m1) <<< ((0 : Int32) &&& 31)) = (Int32.ofNat m1) from shl0 (Int32.ofNat m1)]
  refine Run.st (T23.setTop (mkF m 15 #[.val (.ref b1), .val (.int (Int32.ofNat m1)), .val (.int (16 : Int32)), .val (.int (Int32.ofNat m1)), .unset, .unset] [(.int (16 : Int32)), (.int (Int32.ofNat m1))])) (fun _ k => XS.istoreN A23.here hx rfl (hb hby d11_12) rfl (l' := #[.val (.ref b1), .val (.int (Int32.ofNat m1)), .val (.int (16 : Int32)), .val (.int (Int32.ofNat m1)), .unset, .unset]) rfl (XS.iloadN A23.here hx rfl (hb hby d11_13) rfl (XS.iloadN A23.here hx rfl (hb hby d11_14) rfl k))) ?_
  refine Run.st (T23.setTop (mkF m 16 #[.val (.ref b1), .val (.int (Int32.ofNat m1)), .val (.int (16 : Int32)), .val (.int (Int32.ofNat m1)), .unset, .unset] [(.int ((Int32.ofNat m1) - (16 : Int32)))])) (fun _ k => XS.isub A23.here hx rfl (hb hby d11_15) rfl k) ?_
  rw [show ((Int32.ofNat m1) - (16 : Int32)) = (Int32.ofNat (m1 - 16)) from n_sub (a := m1) (b := 16) (Nat.le_of_lt hm)]
  refine Run.st (T23.setTop (mkF m 24 #[.val (.ref b1), .val (.int (Int32.ofNat m1)), .val (.int (16 : Int32)), .val (.int (Int32.ofNat m1)), .val (.int (Int32.ofNat (m1 - 16))), .unset] [(.ref b1), (.int (2 : Int32)), (.int (16 : Int32)), (.int (Int32.ofNat (m1 - 16))), (.int (16 : Int32))])) (fun _ k => XS.istore A23.here hx rfl (hb hby d11_16) rfl (l' := #[.val (.ref b1), .val (.int (Int32.ofNat m1)), .val (.int (16 : Int32)), .val (.int (Int32.ofNat m1)), .val (.int (Int32.ofNat (m1 - 16))), .unset]) rfl (XS.iloadN A23.here hx rfl (hb hby d11_18) rfl (XS.iload A23.here hx rfl (hb hby d11_19) rfl (XS.iloadN A23.here hx rfl (hb hby d11_21) rfl (XS.iconst A23.here hx rfl (hb hby d11_22) (XS.aloadN A23.here hx rfl (hb hby d11_23) rfl rfl k)))))) ?_
  obtain ⟨T24, A24, st24⟩ := A23.getF hx (tw60 H.1) Via.refl F2 (g := (mkF m 24 #[.val (.ref b1), .val (.int (Int32.ofNat m1)), .val (.int (16 : Int32)), .val (.int (Int32.ofNat m1)), .val (.int (Int32.ofNat (m1 - 16))), .unset] [(.ref b1), (.int (2 : Int32)), (.int (16 : Int32)), (.int (Int32.ofNat (m1 - 16))), (.int (16 : Int32))])) rfl rfl (hb hby d11_24)
  refine Run.st (T24.setTop (mkF m 27 #[.val (.ref b1), .val (.int (Int32.ofNat m1)), .val (.int (16 : Int32)), .val (.int (Int32.ofNat m1)), .val (.int (Int32.ofNat (m1 - 16))), .unset] [(.int (0 : Int32)), (.int (2 : Int32)), (.int (16 : Int32)), (.int (Int32.ofNat (m1 - 16))), (.int (16 : Int32))])) st24 ?_
  refine Run.st (T24.setTop (mkF m 28 #[.val (.ref b1), .val (.int (Int32.ofNat m1)), .val (.int (16 : Int32)), .val (.int (Int32.ofNat m1)), .val (.int (Int32.ofNat (m1 - 16))), .unset] [(.int ((2 : Int32) <<< ((0 : Int32) &&& 31))), (.int (16 : Int32)), (.int (Int32.ofNat (m1 - 16))), (.int (16 : Int32))])) (fun _ k => XS.ishl A24.here hx rfl (hb hby d11_27) rfl k) ?_
  rw [show ((2 : Int32) <<< ((0 : Int32) &&& 31)) = (2 : Int32) from shl0 (2 : Int32)]
  refine Run.st (T24.setTop (mkF m 29 #[.val (.ref b1), .val (.int (Int32.ofNat m1)), .val (.int (16 : Int32)), .val (.int (Int32.ofNat m1)), .val (.int (Int32.ofNat (m1 - 16))), .unset] [(.int (18 : Int32)), (.int (Int32.ofNat (m1 - 16))), (.int (16 : Int32))])) (fun _ k => XS.iadd A24.here hx rfl (hb hby d11_28) rfl k) ?_
  obtain ⟨v25, T25, h25, AA25, K25, ⟨L25, Q25⟩, st25⟩ := A24.callS hx (tw128 H.1) (tw129 H.1) (tw130 H.1) (tw131 H.1) (by decide) (g := (mkF m 29 #[.val (.ref b1), .val (.int (Int32.ofNat m1)), .val (.int (16 : Int32)), .val (.int (Int32.ofNat m1)), .val (.int (Int32.ofNat (m1 - 16))), .unset] [(.int (18 : Int32)), (.int (Int32.ofNat (m1 - 16))), (.int (16 : Int32))])) rfl (by rw [hml]; rfl) [(.int (16 : Int32)), (.int (Int32.ofNat (m1 - 16))), (.int (18 : Int32))] [] (lenOf pd_5 rfl) rfl (Wd := 0) (by show 2 * 0 + _ ≤ _; exact Nat.le_of_eq rfl) (hb hby d11_29) (by decide) (by decide) [] (fun _ _ _ q => q.2) all0 (fun vm0 hZ => payN (ct_newlen H (m1 - 16) A24.old (by omega)) (tw131 H.1) (tw130 H.1) (by decide) (by decide) hZ)
  obtain ⟨Q25, N25, -⟩ := Q25
  obtain ⟨rfl, q25⟩ := Q25
  have q25 := q25.symm
  subst q25
  have A25 := AA25 [] all0
  refine Run.st (T25.setTop (mkF m 32 #[.val (.ref b1), .val (.int (Int32.ofNat m1)), .val (.int (16 : Int32)), .val (.int (Int32.ofNat m1)), .val (.int (Int32.ofNat (m1 - 16))), .unset] [(.int (34 : Int32))])) st25 ?_
  refine Run.st (T25.setTop (mkF m 36 #[.val (.ref b1), .val (.int (Int32.ofNat m1)), .val (.int (16 : Int32)), .val (.int (Int32.ofNat m1)), .val (.int (Int32.ofNat (m1 - 16))), .val (.int (34 : Int32))] [(.int (34 : Int32))])) (fun _ k => XS.istore A25.here hx rfl (hb hby d11_32) rfl (l' := #[.val (.ref b1), .val (.int (Int32.ofNat m1)), .val (.int (16 : Int32)), .val (.int (Int32.ofNat m1)), .val (.int (Int32.ofNat (m1 - 16))), .val (.int (34 : Int32))]) rfl (XS.iload A25.here hx rfl (hb hby d11_34) rfl k)) ?_
  refine Run.st (T25.setTop (mkF m 38 #[.val (.ref b1), .val (.int (Int32.ofNat m1)), .val (.int (16 : Int32)), .val (.int (Int32.ofNat m1)), .val (.int (Int32.ofNat (m1 - 16))), .val (.int (34 : Int32))] [(.int (2147483647 : Int32)), (.int (34 : Int32))])) (A25.ldcI hx (tw137 H.1) (g := (mkF m 36 #[.val (.ref b1), .val (.int (Int32.ofNat m1)), .val (.int (16 : Int32)), .val (.int (Int32.ofNat m1)), .val (.int (Int32.ofNat (m1 - 16))), .val (.int (34 : Int32))] [(.int (34 : Int32))])) rfl (hb hby d11_36)) ?_
  refine Run.st (T25.setTop (mkF m 54 #[.val (.ref b1), .val (.int (Int32.ofNat m1)), .val (.int (16 : Int32)), .val (.int (Int32.ofNat m1)), .val (.int (Int32.ofNat (m1 - 16))), .val (.int (34 : Int32))] [(.ref b1), (.int (34 : Int32))])) (fun _ k => XS.icmpYes A25.here hx rfl (pc0 := 38) (pc' := 51) rfl (hb hby d11_38) rfl (by decide) (by decide) (by decide) (XS.iload A25.here hx rfl (hb hby d11_51) rfl (XS.aloadN A25.here hx rfl (hb hby d11_53) rfl rfl k))) ?_
  obtain ⟨T26, A26, st26⟩ := A25.getF hx (tw60 H.1) Via.refl F2 (g := (mkF m 54 #[.val (.ref b1), .val (.int (Int32.ofNat m1)), .val (.int (16 : Int32)), .val (.int (Int32.ofNat m1)), .val (.int (Int32.ofNat (m1 - 16))), .val (.int (34 : Int32))] [(.ref b1), (.int (34 : Int32))])) rfl rfl (hb hby d11_54)
  refine Run.st (T26.setTop (mkF m 57 #[.val (.ref b1), .val (.int (Int32.ofNat m1)), .val (.int (16 : Int32)), .val (.int (Int32.ofNat m1)), .val (.int (Int32.ofNat (m1 - 16))), .val (.int (34 : Int32))] [(.int (0 : Int32)), (.int (34 : Int32))])) st26 ?_
  refine Run.st (T26.setTop (mkF m 58 #[.val (.ref b1), .val (.int (Int32.ofNat m1)), .val (.int (16 : Int32)), .val (.int (Int32.ofNat m1)), .val (.int (Int32.ofNat (m1 - 16))), .val (.int (34 : Int32))] [(.int ((34 : Int32) >>> ((0 : Int32) &&& 31)))])) (fun _ k => XS.ishr A26.here hx rfl (hb hby d11_57) rfl k) ?_
  rw [show ((34 : Int32) >>> ((0 : Int32) &&& 31)) = (34 : Int32) from shr0 (34 : Int32)]
  exact A26.leaveN hlk (some (.int (34 : Int32))) (fun q => by rw [hrt] at q; cases q) (by decide) (by decide) ⟨rfl, rfl⟩ (fun X hr => retOut X hx (w := (.int (34 : Int32))) (t := .int) hrt rfl (Or.inl ⟨rfl, Or.inl rfl, _, rfl⟩) (hb hby d11_58) hr)
theorem ef_copyof (m : MethodId) (y0 : Addr) (y1 : Int32) : entryFrame m #[(.ref y0), (.int y1)] 3 = mkF m 0 #[.val (.ref y0), .val (.int y1), .unset] [] := by first | (simp [entryFrame, mkF, argsToLocals, Value.category, maxLocals]; done) | rfl
def Q_copyof (Z : State) (t1 : Addr) (kb : ClassId) (xs : List Int32) (h0 : Heap) (v : Option Value) (h : Heap) : Prop := ∃ (t : Addr) (kt : ClassId), v = some (.ref t) ∧ h0.size ≤ t ∧ Ext h0 h ∧ Arv Z h t kt .byte (34 : Int32) (bs xs) (.int 0) ∧ Exa Z h t "[B"
def rm_copyof : Room := { frames := 1, cells := 1, slots := 34, locals := 18 }
set_option maxRecDepth 65536 in
set_option maxHeartbeats 40000000 in
theorem ct_copyof {l : Launch} {Z : State} {a0 : Array Value} (H : Ev Z a0) (t1 : Addr) (kb : ClassId) (xs : List Int32) {h0 : Heap} {n0 : Nat} (O0 : Old Z n0 h0) (Vt : Arv Z h0 t1 kb .byte (16 : Int32) (bs xs) (.int 0)) (hx16 : xs.length ≤ 16) : CtrN l Z (⟨"java/util/Arrays", "copyOf", "([BI)[B"⟩ : MethodName) jdk_65_method_121_code 3 (some (.array .byte)) [] rm_copyof #[(.ref t1), (.int (34 : Int32))] h0 [] n0 (Q_copyof Z t1 kb xs h0) := by
  refine enterN (a0 := a0) (plainFor_of_name pn_4) O0 all0 ?_
  intro p e s m below meth c T0 hx hby hml hrt hnm hlk A0
  replace A0 : Wk false Z a0 [] n0 h0 [] "java/util/Arrays" p l e rm_copyof s m #[(.ref t1), (.int (34 : Int32))] below meth c [] T0 h0 0 0 := A0
  refine Run.st (T0.setTop (mkF m 0 #[.val (.ref t1), .val (.int (34 : Int32)), .unset] [])) (fun _ k => castTop (ef_copyof m t1 (34 : Int32)) k) ?_
  refine Run.st (T0.setTop (mkF m 2 #[.val (.ref t1), .val (.int (34 : Int32)), .unset] [(.ref t1), (.int (34 : Int32))])) (fun _ k => XS.iloadN A0.here hx rfl (hb hby d12_0) rfl (XS.aloadN A0.here hx rfl (hb hby d12_1) rfl rfl k)) ?_
  refine Run.st (T0.setTop (mkF m 3 #[.val (.ref t1), .val (.int (34 : Int32)), .unset] [(.int (16 : Int32)), (.int (34 : Int32))])) (A0.alen hx Vt (g := (mkF m 2 #[.val (.ref t1), .val (.int (34 : Int32)), .unset] [(.ref t1), (.int (34 : Int32))])) rfl rfl (hb hby d12_2)) ?_
  refine Run.st (T0.setTop (mkF m 15 #[.val (.ref t1), .val (.int (34 : Int32)), .unset] [(.int (34 : Int32))])) (fun _ k => XS.icmpYes A0.here hx rfl (pc0 := 3) (pc' := 14) rfl (hb hby d12_3) rfl (by decide) (by decide) (by decide) (XS.iloadN A0.here hx rfl (hb hby d12_14) rfl k)) ?_
  obtain ⟨a27, T27, h27, kA27, A27, E27, g27, V27, Ex27, st27⟩ := A0.newPE hx (aty := .byte) (N := (34 : Int32)) (tw19 H.1) (g := (mkF m 15 #[.val (.ref t1), .val (.int (34 : Int32)), .unset] [(.int (34 : Int32))])) rfl (hb hby d12_15) rfl (by decide) (cap := 34) (by decide) (by decide) (by decide) (by decide) (ad := "[B") (by decide)
  refine Run.st (T27.setTop (mkF m 17 #[.val (.ref t1), .val (.int (34 : Int32)), .unset] [(.ref a27)])) st27 ?_
  refine Run.st (T27.setTop (mkF m 23 #[.val (.ref t1), .val (.int (34 : Int32)), .val (.ref a27)] [(.ref t1), (.int (0 : Int32)), (.ref a27), (.int (0 : Int32)), (.ref t1)])) (fun _ k => XS.astoreN A27.here hx rfl (hb hby d12_17) rfl rfl (l' := #[.val (.ref t1), .val (.int (34 : Int32)), .val (.ref a27)]) rfl (XS.aloadN A27.here hx rfl (hb hby d12_18) rfl rfl (XS.iconst A27.here hx rfl (hb hby d12_19) (XS.aloadN A27.here hx rfl (hb hby d12_20) rfl rfl (XS.iconst A27.here hx rfl (hb hby d12_21) (XS.aloadN A27.here hx rfl (hb hby d12_22) rfl rfl k)))))) ?_
  have X28 : Ext h0 h27 := E27
  have f29 := Vt.ext X28
  refine Run.st (T27.setTop (mkF m 24 #[.val (.ref t1), .val (.int (34 : Int32)), .val (.ref a27)] [(.int (16 : Int32)), (.int (0 : Int32)), (.ref a27), (.int (0 : Int32)), (.ref t1)])) (A27.alen hx f29 (g := (mkF m 23 #[.val (.ref t1), .val (.int (34 : Int32)), .val (.ref a27)] [(.ref t1), (.int (0 : Int32)), (.ref a27), (.int (0 : Int32)), (.ref t1)])) rfl rfl (hb hby d12_23)) ?_
  refine Run.st (T27.setTop (mkF m 25 #[.val (.ref t1), .val (.int (34 : Int32)), .val (.ref a27)] [(.int (34 : Int32)), (.int (16 : Int32)), (.int (0 : Int32)), (.ref a27), (.int (0 : Int32)), (.ref t1)])) (fun _ k => XS.iloadN A27.here hx rfl (hb hby d12_24) rfl k) ?_
  obtain ⟨v30, T30, h30, AA30, K30, ⟨L30, Q30⟩, st30⟩ := A27.callS hx (tw142 H.1) (tw143 H.1) (tw134 H.1) (tw144 H.1) (by decide) (g := (mkF m 25 #[.val (.ref t1), .val (.int (34 : Int32)), .val (.ref a27)] [(.int (34 : Int32)), (.int (16 : Int32)), (.int (0 : Int32)), (.ref a27), (.int (0 : Int32)), (.ref t1)])) rfl (by rw [hml]; rfl) [(.int (16 : Int32)), (.int (34 : Int32))] [(.int (0 : Int32)), (.ref a27), (.int (0 : Int32)), (.ref t1)] (lenOf pd_4 rfl) rfl (Wd := 4) (by show 2 * 0 + _ ≤ _; exact Nat.le_of_eq rfl) (hb hby d12_25) (by decide) (by decide) [] (fun _ _ _ q => q.2) all0 (fun vm0 hZ => payN (ct_min2 H (16 : Int32) (34 : Int32) A27.old (by decide)) (tw144 H.1) (tw134 H.1) (by decide) (by decide) hZ)
  obtain ⟨Q30, N30, -⟩ := Q30
  obtain ⟨rfl, q30⟩ := Q30
  have q30 := q30.symm
  subst q30
  have A30 := AA30 [] all0
  refine Run.st (T30.setTop (mkF m 28 #[.val (.ref t1), .val (.int (34 : Int32)), .val (.ref a27)] [(.int (16 : Int32)), (.int (0 : Int32)), (.ref a27), (.int (0 : Int32)), (.ref t1)])) st30 ?_
  have Vd : Arv Z h27 a27 kA27 .byte (34 : Int32) (List.replicate 34 (.int (0 : Int32))) (.int (0 : Int32)) := V27
  obtain ⟨T31, h31, A31, K31, V31, st31⟩ := A30.copy hx (sp := (0 : Int32)) (dp := (0 : Int32)) (nn := (16 : Int32)) (tw145 H.1) (tw110 H.1) (tw108 H.1) (tw109 H.1) f29 Vd rfl (by decide) (by decide) (by decide) (by decide) (by decide) rfl (by decide) (List.mem_of_getElem? (i := 0) rfl) (g := (mkF m 28 #[.val (.ref t1), .val (.int (34 : Int32)), .val (.ref a27)] [(.int (16 : Int32)), (.int (0 : Int32)), (.ref a27), (.int (0 : Int32)), (.ref t1)])) rfl (by rw [hml]; rfl) rfl (hb hby d12_28) (by decide) (Wd := 0) (by show 2 * 0 + _ ≤ _; exact Nat.le_of_eq rfl) (by decide)
  refine Run.st (T31.setTop (mkF m 31 #[.val (.ref t1), .val (.int (34 : Int32)), .val (.ref a27)] [])) st31 ?_
  refine Run.st (T31.setTop (mkF m 32 #[.val (.ref t1), .val (.int (34 : Int32)), .val (.ref a27)] [(.ref a27)])) (fun _ k => XS.aloadN A31.here hx rfl (hb hby d12_31) rfl rfl k) ?_
  have f32 := (Ex27.keep K31)
  exact A31.leaveN hlk (some (.ref a27)) (fun q => by rw [hrt] at q; cases q) (by decide) (by decide) ⟨_, _, rfl, (Nat.le_of_eq g27), keepE A31.keep, new_ok (m := 0) (k := 16) hx16 (by decide) V31, f32⟩ (fun X hr => retOut X hx (w := (.ref a27)) (t := (.array .byte)) hrt rfl (Or.inr (Or.inr (Or.inr (Or.inr ⟨rfl, rfl, rfl⟩)))) (hb hby d12_32) hr)
theorem ef_ensure (m : MethodId) (y0 : Addr) (y1 : Int32) : entryFrame m #[(.ref y0), (.int y1)] 3 = mkF m 0 #[.val (.ref y0), .val (.int y1), .unset] [] := by first | (simp [entryFrame, mkF, argsToLocals, Value.category, maxLocals]; done) | rfl
def Q_ensure (Z : State) (b1 : Addr) (t1 : Addr) (kb : ClassId) (n1 : Nat) (xs : List Int32) (q1 : Int32) (m1 : Nat) (h0 : Heap) (v : Option Value) (h : Heap) : Prop := v = none ∧ ∃ (t : Addr) (kt : ClassId) (n : Nat), (t = t1 ∨ h0.size ≤ t ∧ t < h.size) ∧ (n = 16 ∨ n = 34) ∧ m1 ≤ n ∧ Exa Z h b1 "java/lang/StringBuilder" ∧ Fld Z h b1 "java/lang/AbstractStringBuilder" "value" "[B" (.ref t) ∧ Fld Z h b1 "java/lang/AbstractStringBuilder" "count" "I" (.int q1) ∧ Fld Z h b1 "java/lang/AbstractStringBuilder" "coder" "B" (.int 0) ∧ xs.length ≤ n ∧ Arv Z h t kt .byte (Int32.ofNat n) (bs xs) (.int 0) ∧ Exa Z h t "[B"
def rm_ensure : Room := { frames := 3, cells := 1, slots := 34, locals := 48 }
set_option maxRecDepth 65536 in
set_option maxHeartbeats 40000000 in
theorem ct_ensure {l : Launch} {Z : State} {a0 : Array Value} (H : Ev Z a0) (b1 : Addr) (t1 : Addr) (kb : ClassId) (n1 : Nat) (xs : List Int32) (q1 : Int32) (m1 : Nat) {h0 : Heap} {n0 : Nat} (O0 : Old Z n0 h0) (E1 : Exa Z h0 b1 "java/lang/StringBuilder") (F2 : Fld Z h0 b1 "java/lang/AbstractStringBuilder" "coder" "B" (.int 0)) (F3 : Fld Z h0 b1 "java/lang/AbstractStringBuilder" "value" "[B" (.ref t1)) (F1 : Fld Z h0 b1 "java/lang/AbstractStringBuilder" "count" "I" (.int q1)) (Vt : Arv Z h0 t1 kb .byte (Int32.ofNat n1) (bs xs) (.int 0)) (hn : n1 = 16 ∨ n1 = 34) (hxn : xs.length ≤ n1) (hm2 : m1 ≤ 34) (g_b1 : n0 ≤ b1) (z_b1 : b1 < h0.size) (Et1 : Exa Z h0 t1 "[B") : CtrN l Z (⟨"java/lang/AbstractStringBuilder", "ensureCapacityInternal", "(I)V"⟩ : MethodName) jdk_68_method_9_code 3 none [] rm_ensure #[(.ref b1), (.int (Int32.ofNat m1))] h0 [b1] n0 (Q_ensure Z b1 t1 kb n1 xs q1 m1 h0) := by
  refine enterN (a0 := a0) (plainFor_of_name pn_1) O0 (allS ⟨g_b1, z_b1⟩ all0) ?_
  intro p e s m below meth c T0 hx hby hml hrt hnm hlk A0
  replace A0 : Wk false Z a0 [] n0 h0 [b1] "java/lang/AbstractStringBuilder" p l e rm_ensure s m #[(.ref b1), (.int (Int32.ofNat m1))] below meth c [b1] T0 h0 0 0 := A0
  refine Run.st (T0.setTop (mkF m 0 #[.val (.ref b1), .val (.int (Int32.ofNat m1)), .unset] [])) (fun _ k => castTop (ef_ensure m b1 (Int32.ofNat m1)) k) ?_
  rcases hn with rfl | rfl
  · have Vt : Arv Z h0 t1 kb .byte (16 : Int32) (bs xs) (.int 0) := Vt
    refine Run.st (T0.setTop (mkF m 1 #[.val (.ref b1), .val (.int (Int32.ofNat m1)), .unset] [(.ref b1)])) (fun _ k => XS.aloadN A0.here hx rfl (hb hby d13_0) rfl rfl k) ?_
    obtain ⟨T33, A33, st33⟩ := A0.getF hx (tw58 H.1) Via.refl F3 (g := (mkF m 1 #[.val (.ref b1), .val (.int (Int32.ofNat m1)), .unset] [(.ref b1)])) rfl rfl (hb hby d13_1)
    refine Run.st (T33.setTop (mkF m 4 #[.val (.ref b1), .val (.int (Int32.ofNat m1)), .unset] [(.ref t1)])) st33 ?_
    refine Run.st (T33.setTop (mkF m 5 #[.val (.ref b1), .val (.int (Int32.ofNat m1)), .unset] [(.int (16 : Int32))])) (A33.alen hx Vt (g := (mkF m 4 #[.val (.ref b1), .val (.int (Int32.ofNat m1)), .unset] [(.ref t1)])) rfl rfl (hb hby d13_4)) ?_
    refine Run.st (T33.setTop (mkF m 6 #[.val (.ref b1), .val (.int (Int32.ofNat m1)), .unset] [(.ref b1), (.int (16 : Int32))])) (fun _ k => XS.aloadN A33.here hx rfl (hb hby d13_5) rfl rfl k) ?_
    obtain ⟨T34, A34, st34⟩ := A33.getF hx (tw60 H.1) Via.refl F2 (g := (mkF m 6 #[.val (.ref b1), .val (.int (Int32.ofNat m1)), .unset] [(.ref b1), (.int (16 : Int32))])) rfl rfl (hb hby d13_6)
    refine Run.st (T34.setTop (mkF m 9 #[.val (.ref b1), .val (.int (Int32.ofNat m1)), .unset] [(.int (0 : Int32)), (.int (16 : Int32))])) st34 ?_
    refine Run.st (T34.setTop (mkF m 10 #[.val (.ref b1), .val (.int (Int32.ofNat m1)), .unset] [(.int ((16 : Int32) >>> ((0 : Int32) &&& 31)))])) (fun _ k => XS.ishr A34.here hx rfl (hb hby d13_9) rfl k) ?_
    rw [show ((16 : Int32) >>> ((0 : Int32) &&& 31)) = (16 : Int32) from shr0 (16 : Int32)]
    refine Run.st (T34.setTop (mkF m 14 #[.val (.ref b1), .val (.int (Int32.ofNat m1)), .val (.int (16 : Int32))] [(.int ((Int32.ofNat m1) - (16 : Int32)))])) (fun _ k => XS.istoreN A34.here hx rfl (hb hby d13_10) rfl (l' := #[.val (.ref b1), .val (.int (Int32.ofNat m1)), .val (.int (16 : Int32))]) rfl (XS.iloadN A34.here hx rfl (hb hby d13_11) rfl (XS.iloadN A34.here hx rfl (hb hby d13_12) rfl (XS.isub A34.here hx rfl (hb hby d13_13) rfl k)))) ?_
    by_cases c35 : m1 ≤ 16
    · refine Run.st (T34.setTop (mkF m 38 #[.val (.ref b1), .val (.int (Int32.ofNat m1)), .val (.int (16 : Int32))] [])) (fun _ k => XS.ifYes A34.here hx rfl (pc0 := 14) (pc' := 38) rfl (hb hby d13_14) rfl (by rw [if0]; exact (flt (n_suble (b := 16) c35 (by decide))).2.2.2) (by decide) (by decide) k) ?_
      exact A34.leaveN hlk none (fun _ => rfl) (by decide) (by decide) ⟨rfl, t1, kb, 16, Or.inl rfl, Or.inl rfl, c35, E1, F3, F1, F2, by omega, Vt, Et1⟩ (fun X hr => X.returnOut hx hrt (hb hby d13_38) hr)
    · refine Run.st (T34.setTop (mkF m 19 #[.val (.ref b1), .val (.int (Int32.ofNat m1)), .val (.int (16 : Int32))] [(.ref b1), (.ref b1)])) (fun _ k => XS.ifNo A34.here hx rfl (hb hby d13_14) rfl (by rw [if0]; exact (tlt (n_subgt (b := 16) (Nat.lt_of_not_le c35) (by omega))).2.2.2) (XS.aloadN A34.here hx rfl (hb hby d13_17) rfl rfl (XS.aloadN A34.here hx rfl (hb hby d13_18) rfl rfl k))) ?_
      obtain ⟨T36, A36, st36⟩ := A34.getF hx (tw58 H.1) Via.refl F3 (g := (mkF m 19 #[.val (.ref b1), .val (.int (Int32.ofNat m1)), .val (.int (16 : Int32))] [(.ref b1), (.ref b1)])) rfl rfl (hb hby d13_19)
      refine Run.st (T36.setTop (mkF m 22 #[.val (.ref b1), .val (.int (Int32.ofNat m1)), .val (.int (16 : Int32))] [(.ref t1), (.ref b1)])) st36 ?_
      refine Run.st (T36.setTop (mkF m 24 #[.val (.ref b1), .val (.int (Int32.ofNat m1)), .val (.int (16 : Int32))] [(.int (Int32.ofNat m1)), (.ref b1), (.ref t1), (.ref b1)])) (fun _ k => XS.aloadN A36.here hx rfl (hb hby d13_22) rfl rfl (XS.iloadN A36.here hx rfl (hb hby d13_23) rfl k)) ?_
      obtain ⟨v37, T37, h37, AA37, K37, ⟨L37, Q37⟩, st37⟩ := A36.callV hx (y := (⟨"java/lang/AbstractStringBuilder", "newCapacity", "(I)I"⟩ : MethodName)) (z := (⟨"java/lang/AbstractStringBuilder", "newCapacity", "(I)I"⟩ : MethodName)) (tw123 H.1) (declOf (tw124 H.1) (tw127 H.1)) (tw126 H.1) (tw124 H.1) (nfSel (tw126 H.1)) (by decide) E1 (g := (mkF m 24 #[.val (.ref b1), .val (.int (Int32.ofNat m1)), .val (.int (16 : Int32))] [(.int (Int32.ofNat m1)), (.ref b1), (.ref t1), (.ref b1)])) rfl (by rw [hml]; rfl) [(.int (Int32.ofNat m1))] [(.ref t1), (.ref b1)] (lenOf pd_6 rfl) rfl (Wd := 2) (by show 2 * 0 + _ ≤ _; exact Nat.le_of_eq rfl) (hb hby d13_24) (by decide) (by decide) [] (fun _ _ _ q => q.2) all0 (fun vm0 hZ => payN (ct_newcap H b1 t1 kb xs m1 A36.old F2 F3 Vt (Nat.lt_of_not_le c35) hm2) (tw127 H.1) (tw54 H.1) (by decide) (by decide) hZ)
      obtain ⟨Q37, N37, -⟩ := Q37
      obtain ⟨rfl, q37⟩ := Q37
      have q37 := q37.symm
      subst q37
      have A37 := AA37 [] all0
      refine Run.st (T37.setTop (mkF m 27 #[.val (.ref b1), .val (.int (Int32.ofNat m1)), .val (.int (16 : Int32))] [(.int (34 : Int32)), (.ref t1), (.ref b1)])) st37 ?_
      refine Run.st (T37.setTop (mkF m 28 #[.val (.ref b1), .val (.int (Int32.ofNat m1)), .val (.int (16 : Int32))] [(.ref b1), (.int (34 : Int32)), (.ref t1), (.ref b1)])) (fun _ k => XS.aloadN A37.here hx rfl (hb hby d13_27) rfl rfl k) ?_
      obtain ⟨T38, A38, st38⟩ := A37.getF hx (tw60 H.1) Via.refl F2 (g := (mkF m 28 #[.val (.ref b1), .val (.int (Int32.ofNat m1)), .val (.int (16 : Int32))] [(.ref b1), (.int (34 : Int32)), (.ref t1), (.ref b1)])) rfl rfl (hb hby d13_28)
      refine Run.st (T38.setTop (mkF m 31 #[.val (.ref b1), .val (.int (Int32.ofNat m1)), .val (.int (16 : Int32))] [(.int (0 : Int32)), (.int (34 : Int32)), (.ref t1), (.ref b1)])) st38 ?_
      refine Run.st (T38.setTop (mkF m 32 #[.val (.ref b1), .val (.int (Int32.ofNat m1)), .val (.int (16 : Int32))] [(.int ((34 : Int32) <<< ((0 : Int32) &&& 31))), (.ref t1), (.ref b1)])) (fun _ k => XS.ishl A38.here hx rfl (hb hby d13_31) rfl k) ?_
      rw [show ((34 : Int32) <<< ((0 : Int32) &&& 31)) = (34 : Int32) from shl0 (34 : Int32)]
      obtain ⟨v39, T39, h39, AA39, K39, ⟨L39, Q39⟩, st39⟩ := A38.callS hx (tw138 H.1) (tw139 H.1) (tw140 H.1) (tw141 H.1) (by decide) (g := (mkF m 32 #[.val (.ref b1), .val (.int (Int32.ofNat m1)), .val (.int (16 : Int32))] [(.int (34 : Int32)), (.ref t1), (.ref b1)])) rfl (by rw [hml]; rfl) [(.ref t1), (.int (34 : Int32))] [(.ref b1)] (lenOf pd_7 rfl) rfl (Wd := 1) (by show 2 * 0 + _ ≤ _; exact Nat.le_of_eq rfl) (hb hby d13_32) (by decide) (by decide) [] (fun _ _ _ q => q.2) all0 (fun vm0 hZ => payN (ct_copyof H t1 kb xs A38.old Vt hxn) (tw141 H.1) (tw140 H.1) (by decide) (by decide) hZ)
      obtain ⟨Q39, N39, -⟩ := Q39
      obtain ⟨t39, kt39, rfl, lt39, X39, Vn39, Et39⟩ := Q39
      have A39 := AA39 [] all0
      refine Run.st (T39.setTop (mkF m 35 #[.val (.ref b1), .val (.int (Int32.ofNat m1)), .val (.int (16 : Int32))] [(.ref t39), (.ref b1)])) st39 ?_
      have X41 : Ext h0 h39 := X39
      have f42 := F3.ext X41
      have f43 := E1.ext X41
      obtain ⟨T40, h40, A40, K40, W40, st40⟩ := A39.putF hx (tw58 H.1) Via.refl (a := b1) (List.mem_of_getElem? (i := 0) rfl) (v' := (.ref t39)) f42 f43 (Or.inl (tw59 H.1)) (tw45 H.1) (ty := (.array .byte)) (by decide) rfl rfl (g := (mkF m 35 #[.val (.ref b1), .val (.int (Int32.ofNat m1)), .val (.int (16 : Int32))] [(.ref t39), (.ref b1)])) rfl rfl (hb hby d13_35)
      have F40 : Fld Z h40 b1 "java/lang/AbstractStringBuilder" "value" "[B" (.ref t39) := f42.same W40
      refine Run.st (T40.setTop (mkF m 38 #[.val (.ref b1), .val (.int (Int32.ofNat m1)), .val (.int (16 : Int32))] [])) st40 ?_
      have f44 := (Vn39.keep K40 (ninS (Ne.symm (Exa.neArv f43 Vn39 (tw45 H.1))) nin0))
      have f45 := ((E1.ext X39).wr W40)
      have f46 := ((F1.ext X39).other W40 (Or.inr (slot_ne (Or.inl (tw85 H.1)) (Or.inl (tw59 H.1)) (by decide) (t := .int) (t' := (.array .byte)) (by decide) (by decide))))
      have f47 := ((F2.ext X39).other W40 (Or.inr (slot_ne (Or.inl (tw61 H.1)) (Or.inl (tw59 H.1)) (by decide) (t := .byte) (t' := (.array .byte)) (by decide) (by decide))))
      have f48 := (Et39.wr W40)
      exact A40.leaveN hlk none (fun _ => rfl) (by decide) (by decide) ⟨rfl, t39, kt39, 34, Or.inr ⟨lt39, f44.lt⟩, Or.inr rfl, hm2, f45, F40, f46, f47, by omega, f44, f48⟩ (fun X hr => X.returnOut hx hrt (hb hby d13_38) hr)
  · have Vt : Arv Z h0 t1 kb .byte (34 : Int32) (bs xs) (.int 0) := Vt
    refine Run.st (T0.setTop (mkF m 1 #[.val (.ref b1), .val (.int (Int32.ofNat m1)), .unset] [(.ref b1)])) (fun _ k => XS.aloadN A0.here hx rfl (hb hby d13_0) rfl rfl k) ?_
    obtain ⟨T49, A49, st49⟩ := A0.getF hx (tw58 H.1) Via.refl F3 (g := (mkF m 1 #[.val (.ref b1), .val (.int (Int32.ofNat m1)), .unset] [(.ref b1)])) rfl rfl (hb hby d13_1)
    refine Run.st (T49.setTop (mkF m 4 #[.val (.ref b1), .val (.int (Int32.ofNat m1)), .unset] [(.ref t1)])) st49 ?_
    refine Run.st (T49.setTop (mkF m 5 #[.val (.ref b1), .val (.int (Int32.ofNat m1)), .unset] [(.int (34 : Int32))])) (A49.alen hx Vt (g := (mkF m 4 #[.val (.ref b1), .val (.int (Int32.ofNat m1)), .unset] [(.ref t1)])) rfl rfl (hb hby d13_4)) ?_
    refine Run.st (T49.setTop (mkF m 6 #[.val (.ref b1), .val (.int (Int32.ofNat m1)), .unset] [(.ref b1), (.int (34 : Int32))])) (fun _ k => XS.aloadN A49.here hx rfl (hb hby d13_5) rfl rfl k) ?_
    obtain ⟨T50, A50, st50⟩ := A49.getF hx (tw60 H.1) Via.refl F2 (g := (mkF m 6 #[.val (.ref b1), .val (.int (Int32.ofNat m1)), .unset] [(.ref b1), (.int (34 : Int32))])) rfl rfl (hb hby d13_6)
    refine Run.st (T50.setTop (mkF m 9 #[.val (.ref b1), .val (.int (Int32.ofNat m1)), .unset] [(.int (0 : Int32)), (.int (34 : Int32))])) st50 ?_
    refine Run.st (T50.setTop (mkF m 10 #[.val (.ref b1), .val (.int (Int32.ofNat m1)), .unset] [(.int ((34 : Int32) >>> ((0 : Int32) &&& 31)))])) (fun _ k => XS.ishr A50.here hx rfl (hb hby d13_9) rfl k) ?_
    rw [show ((34 : Int32) >>> ((0 : Int32) &&& 31)) = (34 : Int32) from shr0 (34 : Int32)]
    refine Run.st (T50.setTop (mkF m 38 #[.val (.ref b1), .val (.int (Int32.ofNat m1)), .val (.int (34 : Int32))] [])) (fun _ k => XS.istoreN A50.here hx rfl (hb hby d13_10) rfl (l' := #[.val (.ref b1), .val (.int (Int32.ofNat m1)), .val (.int (34 : Int32))]) rfl (XS.iloadN A50.here hx rfl (hb hby d13_11) rfl (XS.iloadN A50.here hx rfl (hb hby d13_12) rfl (XS.isub A50.here hx rfl (hb hby d13_13) rfl (XS.ifYes A50.here hx rfl (pc0 := 14) (pc' := 38) rfl (hb hby d13_14) rfl (by rw [if0]; exact (flt (n_suble (b := 34) hm2 (by decide))).2.2.2) (by decide) (by decide) k))))) ?_
    exact A50.leaveN hlk none (fun _ => rfl) (by decide) (by decide) ⟨rfl, t1, kb, 34, Or.inl rfl, Or.inr rfl, hm2, E1, F3, F1, F2, by omega, Vt, Et1⟩ (fun X hr => X.returnOut hx hrt (hb hby d13_38) hr)
theorem ef_asbapp (m : MethodId) (y0 : Addr) (y1 : Addr) : entryFrame m #[(.ref y0), (.ref y1)] 3 = mkF m 0 #[.val (.ref y0), .val (.ref y1), .unset] [] := by first | (simp [entryFrame, mkF, argsToLocals, Value.category, maxLocals]; done) | rfl
def Q_asbapp (Z : State) (b1 : Addr) (t1 : Addr) (xs : List Int32) (s1 : Addr) (c1 : List Int32) (h0 : Heap) (v : Option Value) (h : Heap) : Prop := v = some (.ref b1) ∧ ∃ t : Addr, (t = t1 ∨ h0.size ≤ t ∧ t < h.size) ∧ SBA Z h b1 t (xs ++ c1)
def rm_asbapp : Room := { frames := 4, cells := 1, slots := 34, locals := 62 }
set_option maxRecDepth 65536 in
set_option maxHeartbeats 40000000 in
theorem ct_asbapp {l : Launch} {Z : State} {a0 : Array Value} (H : Ev Z a0) (b1 : Addr) (t1 : Addr) (xs : List Int32) (s1 : Addr) (c1 : List Int32) {h0 : Heap} {n0 : Nat} (O0 : Old Z n0 h0) (B1 : SBA Z h0 b1 t1 xs) (S1 : StrA Z h0 s1 c1) (hm2 : xs.length + c1.length ≤ 34) (g_b1 : n0 ≤ b1) (z_b1 : b1 < h0.size) (g_t1 : n0 ≤ t1) (z_t1 : t1 < h0.size) : CtrN l Z (⟨"java/lang/AbstractStringBuilder", "append", "(Ljava/lang/String;)Ljava/lang/AbstractStringBuilder;"⟩ : MethodName) jdk_68_method_22_code 3 (some (.object "java/lang/AbstractStringBuilder")) [] rm_asbapp #[(.ref b1), (.ref s1)] h0 [b1, t1] n0 (Q_asbapp Z b1 t1 xs s1 c1 h0) := by
  refine enterN (a0 := a0) (plainFor_of_name pn_1) O0 (allS ⟨g_b1, z_b1⟩ (allS ⟨g_t1, z_t1⟩ all0)) ?_
  intro p e s m below meth c T0 hx hby hml hrt hnm hlk A0
  replace A0 : Wk false Z a0 [] n0 h0 [b1, t1] "java/lang/AbstractStringBuilder" p l e rm_asbapp s m #[(.ref b1), (.ref s1)] below meth c [b1, t1] T0 h0 0 0 := A0
  refine Run.st (T0.setTop (mkF m 0 #[.val (.ref b1), .val (.ref s1), .unset] [])) (fun _ k => castTop (ef_asbapp m b1 s1) k) ?_
  obtain ⟨E1, F3, F1, F2, ⟨kb, n1, hn, hxn, Vt⟩, hcx, Et1⟩ := B1
  refine Run.st (T0.setTop (mkF m 10 #[.val (.ref b1), .val (.ref s1), .unset] [(.ref s1)])) (fun _ k => XS.aloadN A0.here hx rfl (hb hby d14_0) rfl rfl (XS.ifnonnullYes A0.here hx rfl (pc0 := 1) (pc' := 9) rfl (hb hby d14_1) rfl (by decide) (by decide) (XS.aloadN A0.here hx rfl (hb hby d14_9) rfl rfl k))) ?_
  obtain ⟨v51, T51, h51, AA51, K51, ⟨L51, Q51⟩, st51⟩ := A0.callV hx (y := (⟨"java/lang/String", "length", "()I"⟩ : MethodName)) (z := (⟨"java/lang/String", "length", "()I"⟩ : MethodName)) (tw73 H.1) (tw74 H.1) (tw76 H.1) (tw75 H.1) (nfSel (tw76 H.1)) (by decide) S1.1 (g := (mkF m 10 #[.val (.ref b1), .val (.ref s1), .unset] [(.ref s1)])) rfl (by rw [hml]; rfl) [] [] (lenOf pd_0 rfl) rfl (Wd := 0) (by show 2 * 0 + _ ≤ _; exact Nat.le_of_eq rfl) (hb hby d14_10) (by decide) (by decide) [] (fun _ _ _ q => by obtain ⟨⟨-, rfl⟩, rfl⟩ := q; exact ⟨Fr.nil _, Keep.refl _ _⟩) all0 (fun vm0 hZ => payLen H A0.old S1 (by decide) (by decide) hZ)
  obtain ⟨⟨rfl, q51⟩, -⟩ := Q51
  have q51 := q51.symm
  subst q51
  have A51 := AA51 [] all0
  refine Run.st (T51.setTop (mkF m 13 #[.val (.ref b1), .val (.ref s1), .unset] [(.int (Int32.ofNat c1.length))])) st51 ?_
  refine Run.st (T51.setTop (mkF m 16 #[.val (.ref b1), .val (.ref s1), .val (.int (Int32.ofNat c1.length))] [(.ref b1), (.ref b1)])) (fun _ k => XS.istoreN A51.here hx rfl (hb hby d14_13) rfl (l' := #[.val (.ref b1), .val (.ref s1), .val (.int (Int32.ofNat c1.length))]) rfl (XS.aloadN A51.here hx rfl (hb hby d14_14) rfl rfl (XS.aloadN A51.here hx rfl (hb hby d14_15) rfl rfl k))) ?_
  obtain ⟨T52, A52, st52⟩ := A51.getF hx (tw84 H.1) Via.refl F1 (g := (mkF m 16 #[.val (.ref b1), .val (.ref s1), .val (.int (Int32.ofNat c1.length))] [(.ref b1), (.ref b1)])) rfl rfl (hb hby d14_16)
  refine Run.st (T52.setTop (mkF m 19 #[.val (.ref b1), .val (.ref s1), .val (.int (Int32.ofNat c1.length))] [(.int (Int32.ofNat xs.length)), (.ref b1)])) st52 ?_
  refine Run.st (T52.setTop (mkF m 20 #[.val (.ref b1), .val (.ref s1), .val (.int (Int32.ofNat c1.length))] [(.int (Int32.ofNat c1.length)), (.int (Int32.ofNat xs.length)), (.ref b1)])) (fun _ k => XS.iloadN A52.here hx rfl (hb hby d14_19) rfl k) ?_
  refine Run.st (T52.setTop (mkF m 21 #[.val (.ref b1), .val (.ref s1), .val (.int (Int32.ofNat c1.length))] [(.int ((Int32.ofNat xs.length) + (Int32.ofNat c1.length))), (.ref b1)])) (fun _ k => XS.iadd A52.here hx rfl (hb hby d14_20) rfl k) ?_
  rw [show ((Int32.ofNat xs.length) + (Int32.ofNat c1.length)) = (Int32.ofNat (xs.length + c1.length)) from n_add xs.length c1.length]
  obtain ⟨v53, T53, h53, AA53, K53, ⟨L53, Q53⟩, st53⟩ := A52.callV hx (y := (⟨"java/lang/AbstractStringBuilder", "ensureCapacityInternal", "(I)V"⟩ : MethodName)) (z := (⟨"java/lang/AbstractStringBuilder", "ensureCapacityInternal", "(I)V"⟩ : MethodName)) (tw86 H.1) (declOf (tw87 H.1) (tw90 H.1)) (tw89 H.1) (tw87 H.1) (nfSel (tw89 H.1)) (by decide) E1 (g := (mkF m 21 #[.val (.ref b1), .val (.ref s1), .val (.int (Int32.ofNat c1.length))] [(.int (Int32.ofNat (xs.length + c1.length))), (.ref b1)])) rfl (by rw [hml]; rfl) [(.int (Int32.ofNat (xs.length + c1.length)))] [] (lenOf pd_8 rfl) rfl (Wd := 0) (by show 2 * 0 + _ ≤ _; exact Nat.le_of_eq rfl) (hb hby d14_21) (by decide) (by decide) [b1] (fun _ _ _ q => q.2) (allS (List.mem_of_getElem? (i := 0) rfl) all0) (fun vm0 hZ => payN (ct_ensure H b1 t1 kb n1 xs (Int32.ofNat xs.length) (xs.length + c1.length) A52.old E1 F2 F3 F1 Vt hn hxn hm2 (A52.nle (List.mem_of_getElem? (i := 0) rfl)) E1.lt Et1) (tw90 H.1) (tw54 H.1) (by decide) (by decide) hZ)
  obtain ⟨Q53, N53, -⟩ := Q53
  obtain ⟨rfl, t53, kt53, n53, ho53, hn53, hm53, Ee53, Fe53, Fc53, Fk53, hx53, Ve53, Et53⟩ := Q53
  have A53 := AA53 [t53] (allS (tcase ho53 (List.mem_of_getElem? (i := 1) rfl)) all0)
  refine Run.st (T53.setTop (mkF m 24 #[.val (.ref b1), .val (.ref s1), .val (.int (Int32.ofNat c1.length))] [])) st53 ?_
  refine Run.st (T53.setTop (mkF m 26 #[.val (.ref b1), .val (.ref s1), .val (.int (Int32.ofNat c1.length))] [(.ref b1), (.ref b1)])) (fun _ k => XS.aloadN A53.here hx rfl (hb hby d14_24) rfl rfl (XS.aloadN A53.here hx rfl (hb hby d14_25) rfl rfl k)) ?_
  obtain ⟨T54, A54, st54⟩ := A53.getF hx (tw84 H.1) Via.refl Fc53 (g := (mkF m 26 #[.val (.ref b1), .val (.ref s1), .val (.int (Int32.ofNat c1.length))] [(.ref b1), (.ref b1)])) rfl rfl (hb hby d14_26)
  refine Run.st (T54.setTop (mkF m 29 #[.val (.ref b1), .val (.ref s1), .val (.int (Int32.ofNat c1.length))] [(.int (Int32.ofNat xs.length)), (.ref b1)])) st54 ?_
  refine Run.st (T54.setTop (mkF m 30 #[.val (.ref b1), .val (.ref s1), .val (.int (Int32.ofNat c1.length))] [(.ref s1), (.int (Int32.ofNat xs.length)), (.ref b1)])) (fun _ k => XS.aloadN A54.here hx rfl (hb hby d14_29) rfl rfl k) ?_
  have f56 := (StrA.keepO S1 K53 E1 (by decide) (tw45 H.1))
  obtain ⟨v55, T55, h55, AA55, K55, ⟨L55, Q55⟩, st55⟩ := A54.callV hx (y := (⟨"java/lang/AbstractStringBuilder", "putStringAt", "(ILjava/lang/String;)V"⟩ : MethodName)) (z := (⟨"java/lang/AbstractStringBuilder", "putStringAt", "(ILjava/lang/String;)V"⟩ : MethodName)) (tw91 H.1) (declOf (tw92 H.1) (tw95 H.1)) (tw94 H.1) (tw92 H.1) (nfSel (tw94 H.1)) (by decide) Ee53 (g := (mkF m 30 #[.val (.ref b1), .val (.ref s1), .val (.int (Int32.ofNat c1.length))] [(.ref s1), (.int (Int32.ofNat xs.length)), (.ref b1)])) rfl (by rw [hml]; rfl) [(.int (Int32.ofNat xs.length)), (.ref s1)] [] (lenOf pd_9 rfl) rfl (Wd := 0) (by show 2 * 0 + _ ≤ _; exact Nat.le_of_eq rfl) (hb hby d14_30) (by decide) (by decide) [t53] (fun _ _ _ q => q.2) (allS (List.mem_of_getElem? (i := 0) rfl) all0) (fun vm0 hZ => payN (ct_puts H b1 t53 kt53 n53 xs s1 c1 A54.old Ee53 Fk53 Fe53 Ve53 hm53 (by omega) f56 (A54.nle (List.mem_of_getElem? (i := 0) rfl)) Ve53.lt) (tw95 H.1) (tw54 H.1) (by decide) (by decide) hZ)
  obtain ⟨Q55, N55, -⟩ := Q55
  obtain ⟨rfl, Vb55⟩ := Q55
  have A55 := AA55 [] all0
  refine Run.st (T55.setTop (mkF m 33 #[.val (.ref b1), .val (.ref s1), .val (.int (Int32.ofNat c1.length))] [])) st55 ?_
  refine Run.st (T55.setTop (mkF m 35 #[.val (.ref b1), .val (.ref s1), .val (.int (Int32.ofNat c1.length))] [(.ref b1), (.ref b1)])) (fun _ k => XS.aloadN A55.here hx rfl (hb hby d14_33) rfl rfl (XS.dup A55.here hx rfl (hb hby d14_34) rfl rfl k)) ?_
  have f58 := (Fc53.keep K55 (ninS (Exa.neArv Ee53 Ve53 (tw45 H.1)) nin0))
  obtain ⟨T57, A57, st57⟩ := A55.getF hx (tw84 H.1) Via.refl f58 (g := (mkF m 35 #[.val (.ref b1), .val (.ref s1), .val (.int (Int32.ofNat c1.length))] [(.ref b1), (.ref b1)])) rfl rfl (hb hby d14_35)
  refine Run.st (T57.setTop (mkF m 38 #[.val (.ref b1), .val (.ref s1), .val (.int (Int32.ofNat c1.length))] [(.int (Int32.ofNat xs.length)), (.ref b1)])) st57 ?_
  refine Run.st (T57.setTop (mkF m 39 #[.val (.ref b1), .val (.ref s1), .val (.int (Int32.ofNat c1.length))] [(.int (Int32.ofNat c1.length)), (.int (Int32.ofNat xs.length)), (.ref b1)])) (fun _ k => XS.iloadN A57.here hx rfl (hb hby d14_38) rfl k) ?_
  refine Run.st (T57.setTop (mkF m 40 #[.val (.ref b1), .val (.ref s1), .val (.int (Int32.ofNat c1.length))] [(.int ((Int32.ofNat xs.length) + (Int32.ofNat c1.length))), (.ref b1)])) (fun _ k => XS.iadd A57.here hx rfl (hb hby d14_39) rfl k) ?_
  rw [show ((Int32.ofNat xs.length) + (Int32.ofNat c1.length)) = (Int32.ofNat (xs.length + c1.length)) from n_add xs.length c1.length]
  have f60 := (Ee53.keep K55)
  obtain ⟨T59, h59, A59, K59, W59, st59⟩ := A57.putF hx (tw84 H.1) Via.refl (a := b1) (List.mem_of_getElem? (i := 1) rfl) (v' := (.int (Int32.ofNat (xs.length + c1.length)))) f58 f60 (Or.inl (tw85 H.1)) (tw45 H.1) (ty := .int) (by decide) rfl rfl (g := (mkF m 40 #[.val (.ref b1), .val (.ref s1), .val (.int (Int32.ofNat c1.length))] [(.int (Int32.ofNat (xs.length + c1.length))), (.ref b1)])) rfl rfl (hb hby d14_40)
  have F59 : Fld Z h59 b1 "java/lang/AbstractStringBuilder" "count" "I" (.int (Int32.ofNat (xs.length + c1.length))) := f58.same W59
  refine Run.st (T59.setTop (mkF m 43 #[.val (.ref b1), .val (.ref s1), .val (.int (Int32.ofNat c1.length))] [])) st59 ?_
  refine Run.st (T59.setTop (mkF m 44 #[.val (.ref b1), .val (.ref s1), .val (.int (Int32.ofNat c1.length))] [(.ref b1)])) (fun _ k => XS.aloadN A59.here hx rfl (hb hby d14_43) rfl rfl k) ?_
  have f61 := (Vb55.keep K59 (ninS (Ne.symm (Exa.neArv f60 Vb55 (tw45 H.1))) nin0))
  have f62 := ((Ee53.keep K55).wr W59)
  have f63 := ((Fe53.keep K55 (ninS (Exa.neArv Ee53 Ve53 (tw45 H.1)) nin0)).other W59 (Or.inr (slot_ne (Or.inl (tw59 H.1)) (Or.inl (tw85 H.1)) (by decide) (t := (.array .byte)) (t' := .int) (by decide) (by decide))))
  have f64 := ((Fk53.keep K55 (ninS (Exa.neArv Ee53 Ve53 (tw45 H.1)) nin0)).other W59 (Or.inr (slot_ne (Or.inl (tw61 H.1)) (Or.inl (tw85 H.1)) (by decide) (t := .byte) (t' := .int) (by decide) (by decide))))
  have f65 := ((Et53.keep K55).wr W59)
  exact A59.leaveN hlk (some (.ref b1)) (fun q => by rw [hrt] at q; cases q) (by decide) (by decide) ⟨rfl, t53, ho53.imp id (fun q => ⟨Nat.le_trans (Nat.le_refl _) q.1, f61.lt⟩), f62, f63, by rw [List.length_append]; exact F59, f64, ⟨_, _, hn53, by rw [List.length_append]; exact hm53, f61⟩, fun c hc => (List.mem_append.mp hc).elim (hcx c) (S1.2.2.2.1 c), f65⟩ (fun X hr => retOut X hx (w := (.ref b1)) (t := (.object "java/lang/AbstractStringBuilder")) hrt rfl (Or.inr (Or.inr (Or.inr (Or.inr ⟨rfl, rfl, rfl⟩)))) (hb hby d14_44) hr)
theorem ef_sbapp (m : MethodId) (y0 : Addr) (y1 : Addr) : entryFrame m #[(.ref y0), (.ref y1)] 2 = mkF m 0 #[.val (.ref y0), .val (.ref y1)] [] := by first | (simp [entryFrame, mkF, argsToLocals, Value.category, maxLocals]; done) | rfl
def Q_sbapp (Z : State) (b1 : Addr) (t1 : Addr) (xs : List Int32) (s1 : Addr) (c1 : List Int32) (h0 : Heap) (v : Option Value) (h : Heap) : Prop := v = some (.ref b1) ∧ ∃ t : Addr, (t = t1 ∨ h0.size ≤ t ∧ t < h.size) ∧ SBA Z h b1 t (xs ++ c1)
def rm_sbapp : Room := { frames := 5, cells := 1, slots := 34, locals := 76 }
set_option maxRecDepth 65536 in
set_option maxHeartbeats 40000000 in
theorem ct_sbapp {l : Launch} {Z : State} {a0 : Array Value} (H : Ev Z a0) (b1 : Addr) (t1 : Addr) (xs : List Int32) (s1 : Addr) (c1 : List Int32) {h0 : Heap} {n0 : Nat} (O0 : Old Z n0 h0) (B1 : SBA Z h0 b1 t1 xs) (S1 : StrA Z h0 s1 c1) (hm2 : xs.length + c1.length ≤ 34) (g_b1 : n0 ≤ b1) (z_b1 : b1 < h0.size) (g_t1 : n0 ≤ t1) (z_t1 : t1 < h0.size) : CtrN l Z (⟨"java/lang/StringBuilder", "append", "(Ljava/lang/String;)Ljava/lang/StringBuilder;"⟩ : MethodName) jdk_67_method_7_code 2 (some (.object "java/lang/StringBuilder")) [] rm_sbapp #[(.ref b1), (.ref s1)] h0 [b1, t1] n0 (Q_sbapp Z b1 t1 xs s1 c1 h0) := by
  refine enterN (a0 := a0) (plainFor_of_name pn_2) O0 (allS ⟨g_b1, z_b1⟩ (allS ⟨g_t1, z_t1⟩ all0)) ?_
  intro p e s m below meth c T0 hx hby hml hrt hnm hlk A0
  replace A0 : Wk false Z a0 [] n0 h0 [b1, t1] "java/lang/StringBuilder" p l e rm_sbapp s m #[(.ref b1), (.ref s1)] below meth c [b1, t1] T0 h0 0 0 := A0
  refine Run.st (T0.setTop (mkF m 0 #[.val (.ref b1), .val (.ref s1)] [])) (fun _ k => castTop (ef_sbapp m b1 s1) k) ?_
  refine Run.st (T0.setTop (mkF m 2 #[.val (.ref b1), .val (.ref s1)] [(.ref s1), (.ref b1)])) (fun _ k => XS.aloadN A0.here hx rfl (hb hby d15_0) rfl rfl (XS.aloadN A0.here hx rfl (hb hby d15_1) rfl rfl k)) ?_
  obtain ⟨v66, T66, h66, AA66, K66, ⟨L66, Q66⟩, st66⟩ := A0.callSup hx (y := (⟨"java/lang/AbstractStringBuilder", "append", "(Ljava/lang/String;)Ljava/lang/AbstractStringBuilder;"⟩ : MethodName)) (tw68 H.1) (sameOf (tw71 H.1) (nfSelC (tw89 H.1) rfl) (by decide)) (tw69 H.1) (tw70 H.1) (tw72 H.1) (by decide) (g := (mkF m 2 #[.val (.ref b1), .val (.ref s1)] [(.ref s1), (.ref b1)])) rfl (by rw [hml]; rfl) (Ins.self B1.1) [(.ref s1)] [] (lenOf pd_10 rfl) rfl (Wd := 0) (by show 2 * 0 + _ ≤ _; exact Nat.le_of_eq rfl) (hb hby d15_2) (by decide) (by decide) [b1, t1] (fun _ _ _ q => q.2) (allS (List.mem_of_getElem? (i := 0) rfl) (allS (List.mem_of_getElem? (i := 1) rfl) all0)) (fun vm0 hZ => payN (ct_asbapp H b1 t1 xs s1 c1 A0.old B1 S1 hm2 (A0.nle (List.mem_of_getElem? (i := 0) rfl)) B1.lt (A0.nle (List.mem_of_getElem? (i := 1) rfl)) B1.tlt) (tw72 H.1) (tw54 H.1) (by decide) (by decide) hZ)
  obtain ⟨Q66, N66, -⟩ := Q66
  obtain ⟨rfl, t66, ho66, B66⟩ := Q66
  have A66 := AA66 [t66] (allS (tcase ho66 (List.mem_of_getElem? (i := 1) rfl)) all0)
  refine Run.st (T66.setTop (mkF m 5 #[.val (.ref b1), .val (.ref s1)] [(.ref b1)])) st66 ?_
  refine Run.st (T66.setTop (mkF m 7 #[.val (.ref b1), .val (.ref s1)] [(.ref b1)])) (fun _ k => XS.pop A66.here hx rfl (hb hby d15_5) rfl rfl (XS.aloadN A66.here hx rfl (hb hby d15_6) rfl rfl k)) ?_
  exact A66.leaveN hlk (some (.ref b1)) (fun q => by rw [hrt] at q; cases q) (by decide) (by decide) ⟨rfl, t66, ho66, B66⟩ (fun X hr => retOut X hx (w := (.ref b1)) (t := (.object "java/lang/StringBuilder")) hrt rfl (Or.inr (Or.inr (Or.inr (Or.inr ⟨rfl, rfl, rfl⟩)))) (hb hby d15_7) hr)
theorem ef_asbnul (m : MethodId) (y0 : Addr) : entryFrame m #[(.ref y0)] 3 = mkF m 0 #[.val (.ref y0), .unset, .unset] [] := by first | (simp [entryFrame, mkF, argsToLocals, Value.category, maxLocals]; done) | rfl
def Q_asbnul (Z : State) (b1 : Addr) (t1 : Addr) (xs : List Int32) (h0 : Heap) (v : Option Value) (h : Heap) : Prop := v = some (.ref b1) ∧ ∃ t : Addr, (t = t1 ∨ h0.size ≤ t ∧ t < h.size) ∧ SBA Z h b1 t (xs ++ [(110 : Int32), (117 : Int32), (108 : Int32), (108 : Int32)])
def rm_asbnul : Room := { frames := 4, cells := 1, slots := 34, locals := 62 }
set_option maxRecDepth 65536 in
set_option maxHeartbeats 40000000 in
theorem ct_asbnul {l : Launch} {Z : State} {a0 : Array Value} (H : Ev Z a0) (b1 : Addr) (t1 : Addr) (xs : List Int32) {h0 : Heap} {n0 : Nat} (O0 : Old Z n0 h0) (B1 : SBA Z h0 b1 t1 xs) (hm2 : xs.length + 4 ≤ 34) (g_b1 : n0 ≤ b1) (z_b1 : b1 < h0.size) (g_t1 : n0 ≤ t1) (z_t1 : t1 < h0.size) : CtrN l Z (⟨"java/lang/AbstractStringBuilder", "appendNull", "()Ljava/lang/AbstractStringBuilder;"⟩ : MethodName) jdk_68_method_26_code 3 (some (.object "java/lang/AbstractStringBuilder")) [] rm_asbnul #[(.ref b1)] h0 [b1, t1] n0 (Q_asbnul Z b1 t1 xs h0) := by
  refine enterN (a0 := a0) (plainFor_of_name pn_1) O0 (allS ⟨g_b1, z_b1⟩ (allS ⟨g_t1, z_t1⟩ all0)) ?_
  intro p e s m below meth c T0 hx hby hml hrt hnm hlk A0
  replace A0 : Wk false Z a0 [] n0 h0 [b1, t1] "java/lang/AbstractStringBuilder" p l e rm_asbnul s m #[(.ref b1)] below meth c [b1, t1] T0 h0 0 0 := A0
  refine Run.st (T0.setTop (mkF m 0 #[.val (.ref b1), .unset, .unset] [])) (fun _ k => castTop (ef_asbnul m b1) k) ?_
  obtain ⟨E1, F3, F1, F2, ⟨kb, n1, hn, hxn, Vt⟩, hcx, Et1⟩ := id B1
  refine Run.st (T0.setTop (mkF m 2 #[.val (.ref b1), .unset, .unset] [(.ref b1), (.ref b1)])) (fun _ k => XS.aloadN A0.here hx rfl (hb hby d16_0) rfl rfl (XS.aloadN A0.here hx rfl (hb hby d16_1) rfl rfl k)) ?_
  obtain ⟨T67, A67, st67⟩ := A0.getF hx (tw84 H.1) Via.refl F1 (g := (mkF m 2 #[.val (.ref b1), .unset, .unset] [(.ref b1), (.ref b1)])) rfl rfl (hb hby d16_2)
  refine Run.st (T67.setTop (mkF m 5 #[.val (.ref b1), .unset, .unset] [(.int (Int32.ofNat xs.length)), (.ref b1)])) st67 ?_
  refine Run.st (T67.setTop (mkF m 6 #[.val (.ref b1), .unset, .unset] [(.int (4 : Int32)), (.int (Int32.ofNat xs.length)), (.ref b1)])) (fun _ k => XS.iconst A67.here hx rfl (hb hby d16_5) k) ?_
  refine Run.st (T67.setTop (mkF m 7 #[.val (.ref b1), .unset, .unset] [(.int ((Int32.ofNat xs.length) + (4 : Int32))), (.ref b1)])) (fun _ k => XS.iadd A67.here hx rfl (hb hby d16_6) rfl k) ?_
  rw [show ((Int32.ofNat xs.length) + (4 : Int32)) = (Int32.ofNat (xs.length + 4)) from n_add xs.length 4]
  obtain ⟨v68, T68, h68, AA68, K68, ⟨L68, Q68⟩, st68⟩ := A67.callV hx (y := (⟨"java/lang/AbstractStringBuilder", "ensureCapacityInternal", "(I)V"⟩ : MethodName)) (z := (⟨"java/lang/AbstractStringBuilder", "ensureCapacityInternal", "(I)V"⟩ : MethodName)) (tw86 H.1) (declOf (tw87 H.1) (tw90 H.1)) (tw89 H.1) (tw87 H.1) (nfSel (tw89 H.1)) (by decide) E1 (g := (mkF m 7 #[.val (.ref b1), .unset, .unset] [(.int (Int32.ofNat (xs.length + 4))), (.ref b1)])) rfl (by rw [hml]; rfl) [(.int (Int32.ofNat (xs.length + 4)))] [] (lenOf pd_8 rfl) rfl (Wd := 0) (by show 2 * 0 + _ ≤ _; exact Nat.le_of_eq rfl) (hb hby d16_7) (by decide) (by decide) [b1] (fun _ _ _ q => q.2) (allS (List.mem_of_getElem? (i := 0) rfl) all0) (fun vm0 hZ => payN (ct_ensure H b1 t1 kb n1 xs (Int32.ofNat xs.length) (xs.length + 4) A67.old E1 F2 F3 F1 Vt hn hxn hm2 (A67.nle (List.mem_of_getElem? (i := 0) rfl)) E1.lt Et1) (tw90 H.1) (tw54 H.1) (by decide) (by decide) hZ)
  obtain ⟨Q68, N68, -⟩ := Q68
  obtain ⟨rfl, t68, kt68, n68, ho68, hn68, hm68, Ee68, Fe68, Fc68, Fk68, hx68, Ve68, Et68⟩ := Q68
  have A68 := AA68 [t68] (allS (tcase ho68 (List.mem_of_getElem? (i := 1) rfl)) all0)
  refine Run.st (T68.setTop (mkF m 10 #[.val (.ref b1), .unset, .unset] [])) st68 ?_
  refine Run.st (T68.setTop (mkF m 11 #[.val (.ref b1), .unset, .unset] [(.ref b1)])) (fun _ k => XS.aloadN A68.here hx rfl (hb hby d16_10) rfl rfl k) ?_
  obtain ⟨T69, A69, st69⟩ := A68.getF hx (tw84 H.1) Via.refl Fc68 (g := (mkF m 11 #[.val (.ref b1), .unset, .unset] [(.ref b1)])) rfl rfl (hb hby d16_11)
  refine Run.st (T69.setTop (mkF m 14 #[.val (.ref b1), .unset, .unset] [(.int (Int32.ofNat xs.length))])) st69 ?_
  refine Run.st (T69.setTop (mkF m 16 #[.val (.ref b1), .val (.int (Int32.ofNat xs.length)), .unset] [(.ref b1)])) (fun _ k => XS.istoreN A69.here hx rfl (hb hby d16_14) rfl (l' := #[.val (.ref b1), .val (.int (Int32.ofNat xs.length)), .unset]) rfl (XS.aloadN A69.here hx rfl (hb hby d16_15) rfl rfl k)) ?_
  obtain ⟨T70, A70, st70⟩ := A69.getF hx (tw58 H.1) Via.refl Fe68 (g := (mkF m 16 #[.val (.ref b1), .val (.int (Int32.ofNat xs.length)), .unset] [(.ref b1)])) rfl rfl (hb hby d16_16)
  refine Run.st (T70.setTop (mkF m 19 #[.val (.ref b1), .val (.int (Int32.ofNat xs.length)), .unset] [(.ref t68)])) st70 ?_
  refine Run.st (T70.setTop (mkF m 21 #[.val (.ref b1), .val (.int (Int32.ofNat xs.length)), .val (.ref t68)] [(.ref b1)])) (fun _ k => XS.astoreN A70.here hx rfl (hb hby d16_19) rfl rfl (l' := #[.val (.ref b1), .val (.int (Int32.ofNat xs.length)), .val (.ref t68)]) rfl (XS.aloadN A70.here hx rfl (hb hby d16_20) rfl rfl k)) ?_
  obtain ⟨v71, T71, h71, AA71, K71, ⟨L71, Q71⟩, st71⟩ := A70.callV hx (y := (⟨"java/lang/AbstractStringBuilder", "isLatin1", "()Z"⟩ : MethodName)) (z := (⟨"java/lang/AbstractStringBuilder", "isLatin1", "()Z"⟩ : MethodName)) (tw117 H.1) (tw118 H.1) (tw120 H.1) (tw119 H.1) (nfSel (tw120 H.1)) (by decide) Ee68 (g := (mkF m 21 #[.val (.ref b1), .val (.int (Int32.ofNat xs.length)), .val (.ref t68)] [(.ref b1)])) rfl (by rw [hml]; rfl) [] [] (lenOf pd_11 rfl) rfl (Wd := 0) (by show 2 * 0 + _ ≤ _; exact Nat.le_of_eq rfl) (hb hby d16_21) (by decide) (by decide) [] (fun _ _ _ q => q.2) all0 (fun vm0 hZ => payN (ct_islat H b1 A70.old Fk68) (tw121 H.1) (tw54 H.1) (by decide) (by decide) hZ)
  obtain ⟨Q71, N71, -⟩ := Q71
  obtain ⟨rfl, q71⟩ := Q71
  have q71 := q71.symm
  subst q71
  have A71 := AA71 [] all0
  refine Run.st (T71.setTop (mkF m 24 #[.val (.ref b1), .val (.int (Int32.ofNat xs.length)), .val (.ref t68)] [(.int (1 : Int32))])) st71 ?_
  refine Run.st (T71.setTop (mkF m 34 #[.val (.ref b1), .val (.int (Int32.ofNat (xs.length + 1))), .val (.ref t68)] [(.int (110 : Int32)), (.int (Int32.ofNat xs.length)), (.ref t68)])) (fun _ k => XS.ifNo A71.here hx rfl (hb hby d16_24) rfl (by decide) (XS.aloadN A71.here hx rfl (hb hby d16_27) rfl rfl (XS.iloadN A71.here hx rfl (hb hby d16_28) rfl (XS.iinc A71.here hx rfl (hb hby d16_29) rfl (l' := #[.val (.ref b1), .val (.int (Int32.ofNat (xs.length + 1))), .val (.ref t68)]) (by rw [show Int32.ofInt 1 = Int32.ofNat 1 from rfl, n_add]; rfl) (XS.bipush A71.here hx rfl (hb hby d16_32) k))))) ?_
  have Vp : Arv Z h68 t68 kt68 .byte (Int32.ofNat n68) (bs xs ++ List.replicate (n68 - xs.length) (Value.int 0)) (.int 0) := Arv.pad Ve68 (pad_rep _ _ _)
  obtain ⟨T72, h72, A72, K72, V72, st72⟩ := A71.stB hx Vp (List.mem_of_getElem? (i := 0) rfl) (j := (Int32.ofNat xs.length)) xs.length (n_clamp (by omega)) ⟨(n_pos (by omega)), ((n_lt (by omega) (by omega)).mpr (by omega))⟩ (by simp [bs_len]; omega) (fitsNB _) (g := (mkF m 34 #[.val (.ref b1), .val (.int (Int32.ofNat (xs.length + 1))), .val (.ref t68)] [(.int (110 : Int32)), (.int (Int32.ofNat xs.length)), (.ref t68)])) rfl rfl (hb hby d16_34)
  refine Run.st (T72.setTop (mkF m 35 #[.val (.ref b1), .val (.int (Int32.ofNat (xs.length + 1))), .val (.ref t68)] [])) st72 ?_
  refine Run.st (T72.setTop (mkF m 42 #[.val (.ref b1), .val (.int (Int32.ofNat ((xs.length + 1) + 1))), .val (.ref t68)] [(.int (117 : Int32)), (.int (Int32.ofNat (xs.length + 1))), (.ref t68)])) (fun _ k => XS.aloadN A72.here hx rfl (hb hby d16_35) rfl rfl (XS.iloadN A72.here hx rfl (hb hby d16_36) rfl (XS.iinc A72.here hx rfl (hb hby d16_37) rfl (l' := #[.val (.ref b1), .val (.int (Int32.ofNat ((xs.length + 1) + 1))), .val (.ref t68)]) (by rw [show Int32.ofInt 1 = Int32.ofNat 1 from rfl, n_add]; rfl) (XS.bipush A72.here hx rfl (hb hby d16_40) k)))) ?_
  obtain ⟨T73, h73, A73, K73, V73, st73⟩ := A72.stB hx V72 (List.mem_of_getElem? (i := 0) rfl) (j := (Int32.ofNat (xs.length + 1))) (xs.length + 1) (n_clamp (by omega)) ⟨(n_pos (by omega)), ((n_lt (by omega) (by omega)).mpr (by omega))⟩ (by simp [bs_len]; omega) (fitsNB _) (g := (mkF m 42 #[.val (.ref b1), .val (.int (Int32.ofNat ((xs.length + 1) + 1))), .val (.ref t68)] [(.int (117 : Int32)), (.int (Int32.ofNat (xs.length + 1))), (.ref t68)])) rfl rfl (hb hby d16_42)
  refine Run.st (T73.setTop (mkF m 43 #[.val (.ref b1), .val (.int (Int32.ofNat ((xs.length + 1) + 1))), .val (.ref t68)] [])) st73 ?_
  refine Run.st (T73.setTop (mkF m 50 #[.val (.ref b1), .val (.int (Int32.ofNat (((xs.length + 1) + 1) + 1))), .val (.ref t68)] [(.int (108 : Int32)), (.int (Int32.ofNat ((xs.length + 1) + 1))), (.ref t68)])) (fun _ k => XS.aloadN A73.here hx rfl (hb hby d16_43) rfl rfl (XS.iloadN A73.here hx rfl (hb hby d16_44) rfl (XS.iinc A73.here hx rfl (hb hby d16_45) rfl (l' := #[.val (.ref b1), .val (.int (Int32.ofNat (((xs.length + 1) + 1) + 1))), .val (.ref t68)]) (by rw [show Int32.ofInt 1 = Int32.ofNat 1 from rfl, n_add]; rfl) (XS.bipush A73.here hx rfl (hb hby d16_48) k)))) ?_
  obtain ⟨T74, h74, A74, K74, V74, st74⟩ := A73.stB hx V73 (List.mem_of_getElem? (i := 0) rfl) (j := (Int32.ofNat ((xs.length + 1) + 1))) ((xs.length + 1) + 1) (n_clamp (by omega)) ⟨(n_pos (by omega)), ((n_lt (by omega) (by omega)).mpr (by omega))⟩ (by simp [bs_len]; omega) (fitsNB _) (g := (mkF m 50 #[.val (.ref b1), .val (.int (Int32.ofNat (((xs.length + 1) + 1) + 1))), .val (.ref t68)] [(.int (108 : Int32)), (.int (Int32.ofNat ((xs.length + 1) + 1))), (.ref t68)])) rfl rfl (hb hby d16_50)
  refine Run.st (T74.setTop (mkF m 51 #[.val (.ref b1), .val (.int (Int32.ofNat (((xs.length + 1) + 1) + 1))), .val (.ref t68)] [])) st74 ?_
  refine Run.st (T74.setTop (mkF m 58 #[.val (.ref b1), .val (.int (Int32.ofNat ((((xs.length + 1) + 1) + 1) + 1))), .val (.ref t68)] [(.int (108 : Int32)), (.int (Int32.ofNat (((xs.length + 1) + 1) + 1))), (.ref t68)])) (fun _ k => XS.aloadN A74.here hx rfl (hb hby d16_51) rfl rfl (XS.iloadN A74.here hx rfl (hb hby d16_52) rfl (XS.iinc A74.here hx rfl (hb hby d16_53) rfl (l' := #[.val (.ref b1), .val (.int (Int32.ofNat ((((xs.length + 1) + 1) + 1) + 1))), .val (.ref t68)]) (by rw [show Int32.ofInt 1 = Int32.ofNat 1 from rfl, n_add]; rfl) (XS.bipush A74.here hx rfl (hb hby d16_56) k)))) ?_
  obtain ⟨T75, h75, A75, K75, V75, st75⟩ := A74.stB hx V74 (List.mem_of_getElem? (i := 0) rfl) (j := (Int32.ofNat (((xs.length + 1) + 1) + 1))) (((xs.length + 1) + 1) + 1) (n_clamp (by omega)) ⟨(n_pos (by omega)), ((n_lt (by omega) (by omega)).mpr (by omega))⟩ (by simp [bs_len]; omega) (fitsNB _) (g := (mkF m 58 #[.val (.ref b1), .val (.int (Int32.ofNat ((((xs.length + 1) + 1) + 1) + 1))), .val (.ref t68)] [(.int (108 : Int32)), (.int (Int32.ofNat (((xs.length + 1) + 1) + 1))), (.ref t68)])) rfl rfl (hb hby d16_58)
  refine Run.st (T75.setTop (mkF m 59 #[.val (.ref b1), .val (.int (Int32.ofNat ((((xs.length + 1) + 1) + 1) + 1))), .val (.ref t68)] [])) st75 ?_
  refine Run.st (T75.setTop (mkF m 78 #[.val (.ref b1), .val (.int (Int32.ofNat ((((xs.length + 1) + 1) + 1) + 1))), .val (.ref t68)] [(.int (Int32.ofNat ((((xs.length + 1) + 1) + 1) + 1))), (.ref b1)])) (fun _ k => XS.goto A75.here hx rfl (pc0 := 59) (pc' := 76) rfl (hb hby d16_59) (by decide) (by decide) (XS.aloadN A75.here hx rfl (hb hby d16_76) rfl rfl (XS.iloadN A75.here hx rfl (hb hby d16_77) rfl k))) ?_
  have f77 := (Ee68.keep K72)
  have f78 := ((Ee68.keep K72).keep K73)
  have f79 := (((Ee68.keep K72).keep K73).keep K74)
  have f80 := ((((Fc68.keep K72 (ninS (Exa.neArv Ee68 Vp (tw45 H.1)) nin0)).keep K73 (ninS (Exa.neArv f77 V72 (tw45 H.1)) nin0)).keep K74 (ninS (Exa.neArv f78 V73 (tw45 H.1)) nin0)).keep K75 (ninS (Exa.neArv f79 V74 (tw45 H.1)) nin0))
  have f81 := ((((Ee68.keep K72).keep K73).keep K74).keep K75)
  obtain ⟨T76, h76, A76, K76, W76, st76⟩ := A75.putF hx (tw84 H.1) Via.refl (a := b1) (List.mem_of_getElem? (i := 1) rfl) (v' := (.int (Int32.ofNat ((((xs.length + 1) + 1) + 1) + 1)))) f80 f81 (Or.inl (tw85 H.1)) (tw45 H.1) (ty := .int) (by decide) rfl rfl (g := (mkF m 78 #[.val (.ref b1), .val (.int (Int32.ofNat ((((xs.length + 1) + 1) + 1) + 1))), .val (.ref t68)] [(.int (Int32.ofNat ((((xs.length + 1) + 1) + 1) + 1))), (.ref b1)])) rfl rfl (hb hby d16_78)
  have F76 : Fld Z h76 b1 "java/lang/AbstractStringBuilder" "count" "I" (.int (Int32.ofNat ((((xs.length + 1) + 1) + 1) + 1))) := f80.same W76
  refine Run.st (T76.setTop (mkF m 81 #[.val (.ref b1), .val (.int (Int32.ofNat ((((xs.length + 1) + 1) + 1) + 1))), .val (.ref t68)] [])) st76 ?_
  refine Run.st (T76.setTop (mkF m 82 #[.val (.ref b1), .val (.int (Int32.ofNat ((((xs.length + 1) + 1) + 1) + 1))), .val (.ref t68)] [(.ref b1)])) (fun _ k => XS.aloadN A76.here hx rfl (hb hby d16_81) rfl rfl k) ?_
  have f82 := (V75.keep K76 (ninS (Ne.symm (Exa.neArv f81 V75 (tw45 H.1))) nin0))
  have Vq := null_ok hm68 f82
  have f83 := (((((Ee68.keep K72).keep K73).keep K74).keep K75).wr W76)
  have f84 := (((((Fe68.keep K72 (ninS (Exa.neArv Ee68 Vp (tw45 H.1)) nin0)).keep K73 (ninS (Exa.neArv f77 V72 (tw45 H.1)) nin0)).keep K74 (ninS (Exa.neArv f78 V73 (tw45 H.1)) nin0)).keep K75 (ninS (Exa.neArv f79 V74 (tw45 H.1)) nin0)).other W76 (Or.inr (slot_ne (Or.inl (tw59 H.1)) (Or.inl (tw85 H.1)) (by decide) (t := (.array .byte)) (t' := .int) (by decide) (by decide))))
  have f85 := (((((Fk68.keep K72 (ninS (Exa.neArv Ee68 Vp (tw45 H.1)) nin0)).keep K73 (ninS (Exa.neArv f77 V72 (tw45 H.1)) nin0)).keep K74 (ninS (Exa.neArv f78 V73 (tw45 H.1)) nin0)).keep K75 (ninS (Exa.neArv f79 V74 (tw45 H.1)) nin0)).other W76 (Or.inr (slot_ne (Or.inl (tw61 H.1)) (Or.inl (tw85 H.1)) (by decide) (t := .byte) (t' := .int) (by decide) (by decide))))
  have f86 := (((((Et68.keep K72).keep K73).keep K74).keep K75).wr W76)
  exact A76.leaveN hlk (some (.ref b1)) (fun q => by rw [hrt] at q; cases q) (by decide) (by decide) ⟨rfl, t68, ho68.imp id (fun q => ⟨q.1, Vq.lt⟩), f83, f84, by rw [List.length_append]; exact F76, f85, ⟨_, _, hn68, by rw [List.length_append]; exact hm68, Vq⟩, fun c hc => (List.mem_append.mp hc).elim (hcx c) ((by decide : ∀ c ∈ [(110 : Int32), (117 : Int32), (108 : Int32), (108 : Int32)], ¬ c < 0 ∧ ¬ (255 : Int32) < c) c), f86⟩ (fun X hr => retOut X hx (w := (.ref b1)) (t := (.object "java/lang/AbstractStringBuilder")) hrt rfl (Or.inr (Or.inr (Or.inr (Or.inr ⟨rfl, rfl, rfl⟩)))) (hb hby d16_82) hr)
theorem ef_asbappN (m : MethodId) (y0 : Addr) : entryFrame m #[(.ref y0), .null] 3 = mkF m 0 #[.val (.ref y0), .val .null, .unset] [] := by first | (simp [entryFrame, mkF, argsToLocals, Value.category, maxLocals]; done) | rfl
def Q_asbappN (Z : State) (b1 : Addr) (t1 : Addr) (xs : List Int32) (h0 : Heap) (v : Option Value) (h : Heap) : Prop := v = some (.ref b1) ∧ ∃ t : Addr, (t = t1 ∨ h0.size ≤ t ∧ t < h.size) ∧ SBA Z h b1 t (xs ++ [(110 : Int32), (117 : Int32), (108 : Int32), (108 : Int32)])
def rm_asbappN : Room := { frames := 5, cells := 1, slots := 34, locals := 76 }
set_option maxRecDepth 65536 in
set_option maxHeartbeats 40000000 in
theorem ct_asbappN {l : Launch} {Z : State} {a0 : Array Value} (H : Ev Z a0) (b1 : Addr) (t1 : Addr) (xs : List Int32) {h0 : Heap} {n0 : Nat} (O0 : Old Z n0 h0) (B1 : SBA Z h0 b1 t1 xs) (hm2 : xs.length + 4 ≤ 34) (g_b1 : n0 ≤ b1) (z_b1 : b1 < h0.size) (g_t1 : n0 ≤ t1) (z_t1 : t1 < h0.size) : CtrN l Z (⟨"java/lang/AbstractStringBuilder", "append", "(Ljava/lang/String;)Ljava/lang/AbstractStringBuilder;"⟩ : MethodName) jdk_68_method_22_code 3 (some (.object "java/lang/AbstractStringBuilder")) [] rm_asbappN #[(.ref b1), .null] h0 [b1, t1] n0 (Q_asbappN Z b1 t1 xs h0) := by
  refine enterN (a0 := a0) (plainFor_of_name pn_1) O0 (allS ⟨g_b1, z_b1⟩ (allS ⟨g_t1, z_t1⟩ all0)) ?_
  intro p e s m below meth c T0 hx hby hml hrt hnm hlk A0
  replace A0 : Wk false Z a0 [] n0 h0 [b1, t1] "java/lang/AbstractStringBuilder" p l e rm_asbappN s m #[(.ref b1), .null] below meth c [b1, t1] T0 h0 0 0 := A0
  refine Run.st (T0.setTop (mkF m 0 #[.val (.ref b1), .val .null, .unset] [])) (fun _ k => castTop (ef_asbappN m b1) k) ?_
  refine Run.st (T0.setTop (mkF m 5 #[.val (.ref b1), .val .null, .unset] [(.ref b1)])) (fun _ k => XS.aloadN A0.here hx rfl (hb hby d14_0) rfl rfl (XS.ifnonnullNo A0.here hx rfl (hb hby d14_1) rfl (XS.aloadN A0.here hx rfl (hb hby d14_4) rfl rfl k))) ?_
  obtain ⟨v87, T87, h87, AA87, K87, ⟨L87, Q87⟩, st87⟩ := A0.callV hx (y := (⟨"java/lang/AbstractStringBuilder", "appendNull", "()Ljava/lang/AbstractStringBuilder;"⟩ : MethodName)) (z := (⟨"java/lang/AbstractStringBuilder", "appendNull", "()Ljava/lang/AbstractStringBuilder;"⟩ : MethodName)) (tw112 H.1) (declOf (tw113 H.1) (tw116 H.1)) (tw115 H.1) (tw113 H.1) (nfSel (tw115 H.1)) (by decide) B1.1 (g := (mkF m 5 #[.val (.ref b1), .val .null, .unset] [(.ref b1)])) rfl (by rw [hml]; rfl) [] [] (lenOf pd_12 rfl) rfl (Wd := 0) (by show 2 * 0 + _ ≤ _; exact Nat.le_of_eq rfl) (hb hby d14_5) (by decide) (by decide) [b1, t1] (fun _ _ _ q => q.2) (allS (List.mem_of_getElem? (i := 0) rfl) (allS (List.mem_of_getElem? (i := 1) rfl) all0)) (fun vm0 hZ => payN (ct_asbnul H b1 t1 xs A0.old B1 hm2 (A0.nle (List.mem_of_getElem? (i := 0) rfl)) B1.lt (A0.nle (List.mem_of_getElem? (i := 1) rfl)) B1.tlt) (tw116 H.1) (tw54 H.1) (by decide) (by decide) hZ)
  obtain ⟨Q87, N87, -⟩ := Q87
  obtain ⟨rfl, t87, ho87, B87⟩ := Q87
  have A87 := AA87 [t87] (allS (tcase ho87 (List.mem_of_getElem? (i := 1) rfl)) all0)
  refine Run.st (T87.setTop (mkF m 8 #[.val (.ref b1), .val .null, .unset] [(.ref b1)])) st87 ?_
  exact A87.leaveN hlk (some (.ref b1)) (fun q => by rw [hrt] at q; cases q) (by decide) (by decide) ⟨rfl, t87, ho87, B87⟩ (fun X hr => retOut X hx (w := (.ref b1)) (t := (.object "java/lang/AbstractStringBuilder")) hrt rfl (Or.inr (Or.inr (Or.inr (Or.inr ⟨rfl, rfl, rfl⟩)))) (hb hby d14_8) hr)
theorem ef_sbappO (m : MethodId) (y0 : Addr) (y1 : Value) (c_y1 : y1.category = 1) : entryFrame m #[(.ref y0), y1] 2 = mkF m 0 #[.val (.ref y0), .val y1] [] := by first | (simp [entryFrame, mkF, argsToLocals, cat_r, cat_i, cat_l, cat_n, maxLocals, c_y1]; done) | rfl
def Q_sbappO (Z : State) (b1 : Addr) (t1 : Addr) (xs : List Int32) (w1 : Value) (o1 : Option (List Int32)) (h0 : Heap) (v : Option Value) (h : Heap) : Prop := v = some (.ref b1) ∧ ∃ t : Addr, (t = t1 ∨ h0.size ≤ t ∧ t < h.size) ∧ SBA Z h b1 t (xs ++ shL o1)
def rm_sbappO : Room := { frames := 6, cells := 1, slots := 34, locals := 90 }
set_option maxRecDepth 65536 in
set_option maxHeartbeats 40000000 in
theorem ct_sbappO {l : Launch} {Z : State} {a0 : Array Value} (H : Ev Z a0) (b1 : Addr) (t1 : Addr) (xs : List Int32) (w1 : Value) (o1 : Option (List Int32)) {h0 : Heap} {n0 : Nat} (O0 : Old Z n0 h0) (B1 : SBA Z h0 b1 t1 xs) (hv : OStr Z h0 w1 o1) (hm2 : xs.length + (shL o1).length ≤ 34) (g_b1 : n0 ≤ b1) (z_b1 : b1 < h0.size) (g_t1 : n0 ≤ t1) (z_t1 : t1 < h0.size) : CtrN l Z (⟨"java/lang/StringBuilder", "append", "(Ljava/lang/String;)Ljava/lang/StringBuilder;"⟩ : MethodName) jdk_67_method_7_code 2 (some (.object "java/lang/StringBuilder")) [] rm_sbappO #[(.ref b1), w1] h0 [b1, t1] n0 (Q_sbappO Z b1 t1 xs w1 o1 h0) := by
  refine enterN (a0 := a0) (plainFor_of_name pn_2) O0 (allS ⟨g_b1, z_b1⟩ (allS ⟨g_t1, z_t1⟩ all0)) ?_
  intro p e s m below meth c T0 hx hby hml hrt hnm hlk A0
  replace A0 : Wk false Z a0 [] n0 h0 [b1, t1] "java/lang/StringBuilder" p l e rm_sbappO s m #[(.ref b1), w1] below meth c [b1, t1] T0 h0 0 0 := A0
  refine Run.st (T0.setTop (mkF m 0 #[.val (.ref b1), .val w1] [])) (fun _ k => castTop (ef_sbappO m b1 w1 (catR hv.ref)) k) ?_
  rcases hv with ⟨rfl, rfl⟩ | ⟨s1, c1, rfl, rfl, S1, l1⟩
  · refine Run.st (T0.setTop (mkF m 2 #[.val (.ref b1), .val .null] [.null, (.ref b1)])) (fun _ k => XS.aloadN A0.here hx rfl (hb hby d15_0) rfl rfl (XS.aloadN A0.here hx rfl (hb hby d15_1) rfl rfl k)) ?_
    obtain ⟨v88, T88, h88, AA88, K88, ⟨L88, Q88⟩, st88⟩ := A0.callSup hx (y := (⟨"java/lang/AbstractStringBuilder", "append", "(Ljava/lang/String;)Ljava/lang/AbstractStringBuilder;"⟩ : MethodName)) (tw68 H.1) (sameOf (tw71 H.1) (nfSelC (tw89 H.1) rfl) (by decide)) (tw69 H.1) (tw70 H.1) (tw72 H.1) (by decide) (g := (mkF m 2 #[.val (.ref b1), .val .null] [.null, (.ref b1)])) rfl (by rw [hml]; rfl) (Ins.self B1.1) [.null] [] (lenOf pd_10 rfl) rfl (Wd := 0) (by show 2 * 0 + _ ≤ _; exact Nat.le_of_eq rfl) (hb hby d15_2) (by decide) (by decide) [b1, t1] (fun _ _ _ q => q.2) (allS (List.mem_of_getElem? (i := 0) rfl) (allS (List.mem_of_getElem? (i := 1) rfl) all0)) (fun vm0 hZ => payN (ct_asbappN H b1 t1 xs A0.old B1 hm2 (A0.nle (List.mem_of_getElem? (i := 0) rfl)) B1.lt (A0.nle (List.mem_of_getElem? (i := 1) rfl)) B1.tlt) (tw72 H.1) (tw54 H.1) (by decide) (by decide) hZ)
    obtain ⟨Q88, N88, -⟩ := Q88
    obtain ⟨rfl, t88, ho88, B88⟩ := Q88
    have A88 := AA88 [t88] (allS (tcase ho88 (List.mem_of_getElem? (i := 1) rfl)) all0)
    refine Run.st (T88.setTop (mkF m 5 #[.val (.ref b1), .val .null] [(.ref b1)])) st88 ?_
    refine Run.st (T88.setTop (mkF m 7 #[.val (.ref b1), .val .null] [(.ref b1)])) (fun _ k => XS.pop A88.here hx rfl (hb hby d15_5) rfl rfl (XS.aloadN A88.here hx rfl (hb hby d15_6) rfl rfl k)) ?_
    exact A88.leaveN hlk (some (.ref b1)) (fun q => by rw [hrt] at q; cases q) (by decide) (by decide) ⟨rfl, t88, ho88, B88⟩ (fun X hr => retOut X hx (w := (.ref b1)) (t := (.object "java/lang/StringBuilder")) hrt rfl (Or.inr (Or.inr (Or.inr (Or.inr ⟨rfl, rfl, rfl⟩)))) (hb hby d15_7) hr)
  · refine Run.st (T0.setTop (mkF m 2 #[.val (.ref b1), .val (.ref s1)] [(.ref s1), (.ref b1)])) (fun _ k => XS.aloadN A0.here hx rfl (hb hby d15_0) rfl rfl (XS.aloadN A0.here hx rfl (hb hby d15_1) rfl rfl k)) ?_
    obtain ⟨v89, T89, h89, AA89, K89, ⟨L89, Q89⟩, st89⟩ := A0.callSup hx (y := (⟨"java/lang/AbstractStringBuilder", "append", "(Ljava/lang/String;)Ljava/lang/AbstractStringBuilder;"⟩ : MethodName)) (tw68 H.1) (sameOf (tw71 H.1) (nfSelC (tw89 H.1) rfl) (by decide)) (tw69 H.1) (tw70 H.1) (tw72 H.1) (by decide) (g := (mkF m 2 #[.val (.ref b1), .val (.ref s1)] [(.ref s1), (.ref b1)])) rfl (by rw [hml]; rfl) (Ins.self B1.1) [(.ref s1)] [] (lenOf pd_10 rfl) rfl (Wd := 0) (by show 2 * 0 + _ ≤ _; exact Nat.le_of_eq rfl) (hb hby d15_2) (by decide) (by decide) [b1, t1] (fun _ _ _ q => q.2) (allS (List.mem_of_getElem? (i := 0) rfl) (allS (List.mem_of_getElem? (i := 1) rfl) all0)) (fun vm0 hZ => payN (ct_asbapp H b1 t1 xs s1 c1 A0.old B1 S1 hm2 (A0.nle (List.mem_of_getElem? (i := 0) rfl)) B1.lt (A0.nle (List.mem_of_getElem? (i := 1) rfl)) B1.tlt) (tw72 H.1) (tw54 H.1) (by decide) (by decide) hZ)
    obtain ⟨Q89, N89, -⟩ := Q89
    obtain ⟨rfl, t89, ho89, B89⟩ := Q89
    have A89 := AA89 [t89] (allS (tcase ho89 (List.mem_of_getElem? (i := 1) rfl)) all0)
    refine Run.st (T89.setTop (mkF m 5 #[.val (.ref b1), .val (.ref s1)] [(.ref b1)])) st89 ?_
    refine Run.st (T89.setTop (mkF m 7 #[.val (.ref b1), .val (.ref s1)] [(.ref b1)])) (fun _ k => XS.pop A89.here hx rfl (hb hby d15_5) rfl rfl (XS.aloadN A89.here hx rfl (hb hby d15_6) rfl rfl k)) ?_
    exact A89.leaveN hlk (some (.ref b1)) (fun q => by rw [hrt] at q; cases q) (by decide) (by decide) ⟨rfl, t89, ho89, B89⟩ (fun X hr => retOut X hx (w := (.ref b1)) (t := (.object "java/lang/StringBuilder")) hrt rfl (Or.inr (Or.inr (Or.inr (Or.inr ⟨rfl, rfl, rfl⟩)))) (hb hby d15_7) hr)
theorem ef_asbini (m : MethodId) (y0 : Addr) (y1 : Int32) : entryFrame m #[(.ref y0), (.int y1)] 2 = mkF m 0 #[.val (.ref y0), .val (.int y1)] [] := by first | (simp [entryFrame, mkF, argsToLocals, Value.category, maxLocals]; done) | rfl
def Q_asbini (Z : State) (b1 : Addr) (u2 : Value) (u3 : Value) (h0 : Heap) (v : Option Value) (h : Heap) : Prop := v = none ∧ ∃ t : Addr, (h0.size ≤ t ∧ t < h.size) ∧ SBA Z h b1 t []
def rm_asbini : Room := { frames := 1, cells := 1, slots := 16, locals := 12 }
set_option maxRecDepth 65536 in
set_option maxHeartbeats 40000000 in
theorem ct_asbini {l : Launch} {Z : State} {a0 : Array Value} (H : Ev Z a0) (b1 : Addr) (u2 : Value) (u3 : Value) {h0 : Heap} {n0 : Nat} (O0 : Old Z n0 h0) (E1 : Exa Z h0 b1 "java/lang/StringBuilder") (g_b1 : n0 ≤ b1) (z_b1 : b1 < h0.size) (F1 : Fld Z h0 b1 "java/lang/AbstractStringBuilder" "count" "I" (.int 0)) (F2 : Fld Z h0 b1 "java/lang/AbstractStringBuilder" "coder" "B" u2) (F3 : Fld Z h0 b1 "java/lang/AbstractStringBuilder" "value" "[B" u3) : CtrN l Z (⟨"java/lang/AbstractStringBuilder", "<init>", "(I)V"⟩ : MethodName) jdk_68_method_2_code 2 none [] rm_asbini #[(.ref b1), (.int (16 : Int32))] h0 [b1] n0 (Q_asbini Z b1 u2 u3 h0) := by
  refine enterN (a0 := a0) (plainFor_of_name pn_1) O0 (allS ⟨g_b1, z_b1⟩ all0) ?_
  intro p e s m below meth c T0 hx hby hml hrt hnm hlk A0
  replace A0 : Wk false Z a0 [] n0 h0 [b1] "java/lang/AbstractStringBuilder" p l e rm_asbini s m #[(.ref b1), (.int (16 : Int32))] below meth c [b1] T0 h0 0 0 := A0
  refine Run.st (T0.setTop (mkF m 0 #[.val (.ref b1), .val (.int (16 : Int32))] [])) (fun _ k => castTop (ef_asbini m b1 (16 : Int32)) k) ?_
  obtain ⟨zc, Sc, hzc⟩ := H.2.1
  refine Run.st (T0.setTop (mkF m 1 #[.val (.ref b1), .val (.int (16 : Int32))] [(.ref b1)])) (fun _ k => XS.aloadN A0.here hx rfl (hb hby d17_0) rfl rfl k) ?_
  obtain ⟨T90, A90, st90⟩ := A0.initO hx (tw56 H.1) (tw16 H.1) (tw17 H.1) (g := (mkF m 1 #[.val (.ref b1), .val (.int (16 : Int32))] [(.ref b1)])) rfl (by rw [hml]; rfl) rfl (hb hby d17_1) (by decide) (Wd := 0) (by show 2 * 0 + _ ≤ _; exact Nat.le_of_eq rfl) (by decide)
  refine Run.st (T90.setTop (mkF m 4 #[.val (.ref b1), .val (.int (16 : Int32))] [])) st90 ?_
  obtain ⟨T91, A91, st91⟩ := A90.getS hx (tw57 H.1) Via.refl (Sc.ext A90.old.2) (g := (mkF m 4 #[.val (.ref b1), .val (.int (16 : Int32))] [])) rfl (hb hby d17_4)
  refine Run.st (T91.setTop (mkF m 7 #[.val (.ref b1), .val (.int (16 : Int32))] [(.int zc)])) st91 ?_
  refine Run.st (T91.setTop (mkF m 12 #[.val (.ref b1), .val (.int (16 : Int32))] [(.int (16 : Int32)), (.ref b1)])) (fun _ k => XS.ifNo A91.here hx rfl (hb hby d17_7) rfl (by rw [if0]; exact (feq hzc).1) (XS.aloadN A91.here hx rfl (hb hby d17_10) rfl rfl (XS.iloadN A91.here hx rfl (hb hby d17_11) rfl k))) ?_
  obtain ⟨a92, T92, h92, kA92, A92, E92, g92, V92, Ex92, st92⟩ := A91.newPE hx (aty := .byte) (N := (16 : Int32)) (tw19 H.1) (g := (mkF m 12 #[.val (.ref b1), .val (.int (16 : Int32))] [(.int (16 : Int32)), (.ref b1)])) rfl (hb hby d17_12) rfl (by decide) (cap := 16) (by decide) (by decide) (by decide) (by decide) (ad := "[B") (by decide)
  refine Run.st (T92.setTop (mkF m 14 #[.val (.ref b1), .val (.int (16 : Int32))] [(.ref a92), (.ref b1)])) st92 ?_
  have X94 : Ext h0 h92 := E92
  have f95 := F3.ext X94
  have f96 := E1.ext X94
  obtain ⟨T93, h93, A93, K93, W93, st93⟩ := A92.putF hx (tw58 H.1) Via.refl (a := b1) (List.mem_of_getElem? (i := 1) rfl) (v' := (.ref a92)) f95 f96 (Or.inl (tw59 H.1)) (tw45 H.1) (ty := (.array .byte)) (by decide) rfl rfl (g := (mkF m 14 #[.val (.ref b1), .val (.int (16 : Int32))] [(.ref a92), (.ref b1)])) rfl rfl (hb hby d17_14)
  have F93 : Fld Z h93 b1 "java/lang/AbstractStringBuilder" "value" "[B" (.ref a92) := f95.same W93
  refine Run.st (T93.setTop (mkF m 17 #[.val (.ref b1), .val (.int (16 : Int32))] [])) st93 ?_
  refine Run.st (T93.setTop (mkF m 19 #[.val (.ref b1), .val (.int (16 : Int32))] [(.int (0 : Int32)), (.ref b1)])) (fun _ k => XS.aloadN A93.here hx rfl (hb hby d17_17) rfl rfl (XS.iconst A93.here hx rfl (hb hby d17_18) k)) ?_
  have f98 := ((F2.ext E92).other W93 (Or.inr (slot_ne (Or.inl (tw61 H.1)) (Or.inl (tw59 H.1)) (by decide) (t := .byte) (t' := (.array .byte)) (by decide) (by decide))))
  have f99 := ((E1.ext E92).wr W93)
  obtain ⟨T97, h97, A97, K97, W97, st97⟩ := A93.putF hx (tw60 H.1) Via.refl (a := b1) (List.mem_of_getElem? (i := 1) rfl) (v' := (.int (0 : Int32))) f98 f99 (Or.inl (tw61 H.1)) (tw45 H.1) (ty := .byte) (by decide) rfl rfl (g := (mkF m 19 #[.val (.ref b1), .val (.int (16 : Int32))] [(.int (0 : Int32)), (.ref b1)])) rfl rfl (hb hby d17_19)
  have F97 : Fld Z h97 b1 "java/lang/AbstractStringBuilder" "coder" "B" (.int (0 : Int32)) := f98.same W97
  refine Run.st (T97.setTop (mkF m 22 #[.val (.ref b1), .val (.int (16 : Int32))] [])) st97 ?_
  refine Run.st (T97.setTop (mkF m 38 #[.val (.ref b1), .val (.int (16 : Int32))] [])) (fun _ k => XS.goto A97.here hx rfl (pc0 := 22) (pc' := 38) rfl (hb hby d17_22) (by decide) (by decide) k) ?_
  have f100 := ((V92.keep K93 (ninS (Ne.symm (Exa.neArv f96 V92 (tw45 H.1))) nin0)).keep K97 (ninS (Ne.symm (Exa.neArv f99 (V92.keep K93 (ninS (Ne.symm (Exa.neArv f96 V92 (tw45 H.1))) nin0)) (tw45 H.1))) nin0))
  have Vz : Arv Z h97 a92 kA92 .byte (16 : Int32) (List.replicate 16 (.int (0 : Int32))) (.int (0 : Int32)) := f100
  have f101 := (((E1.ext E92).wr W93).wr W97)
  have f102 := (F93.other W97 (Or.inr (slot_ne (Or.inl (tw59 H.1)) (Or.inl (tw61 H.1)) (by decide) (t := (.array .byte)) (t' := .byte) (by decide) (by decide))))
  have f103 := (((F1.ext E92).other W93 (Or.inr (slot_ne (Or.inl (tw85 H.1)) (Or.inl (tw59 H.1)) (by decide) (t := .int) (t' := (.array .byte)) (by decide) (by decide)))).other W97 (Or.inr (slot_ne (Or.inl (tw85 H.1)) (Or.inl (tw61 H.1)) (by decide) (t := .int) (t' := .byte) (by decide) (by decide))))
  have f104 := ((Ex92.wr W93).wr W97)
  exact A97.leaveN hlk none (fun _ => rfl) (by decide) (by decide) ⟨rfl, a92, ⟨(Nat.le_of_eq g92), Vz.lt⟩, f101, f102, f103, F97, ⟨_, 16, Or.inl rfl, by decide, Vz.pad fun i => (pad_rep [] _ 16 i).symm⟩, chs0, f104⟩ (fun X hr => X.returnOut hx hrt (hb hby d17_38) hr)
theorem ef_sbini (m : MethodId) (y0 : Addr) : entryFrame m #[(.ref y0)] 1 = mkF m 0 #[.val (.ref y0)] [] := by first | (simp [entryFrame, mkF, argsToLocals, Value.category, maxLocals]; done) | rfl
def Q_sbini (Z : State) (b1 : Addr) (u2 : Value) (u3 : Value) (h0 : Heap) (v : Option Value) (h : Heap) : Prop := v = none ∧ ∃ t : Addr, (h0.size ≤ t ∧ t < h.size) ∧ SBA Z h b1 t []
def rm_sbini : Room := { frames := 2, cells := 1, slots := 16, locals := 25 }
set_option maxRecDepth 65536 in
set_option maxHeartbeats 40000000 in
theorem ct_sbini {l : Launch} {Z : State} {a0 : Array Value} (H : Ev Z a0) (b1 : Addr) (u2 : Value) (u3 : Value) {h0 : Heap} {n0 : Nat} (O0 : Old Z n0 h0) (E1 : Exa Z h0 b1 "java/lang/StringBuilder") (g_b1 : n0 ≤ b1) (z_b1 : b1 < h0.size) (F1 : Fld Z h0 b1 "java/lang/AbstractStringBuilder" "count" "I" (.int 0)) (F2 : Fld Z h0 b1 "java/lang/AbstractStringBuilder" "coder" "B" u2) (F3 : Fld Z h0 b1 "java/lang/AbstractStringBuilder" "value" "[B" u3) : CtrN l Z (⟨"java/lang/StringBuilder", "<init>", "()V"⟩ : MethodName) jdk_67_method_1_code 1 none [] rm_sbini #[(.ref b1)] h0 [b1] n0 (Q_sbini Z b1 u2 u3 h0) := by
  refine enterN (a0 := a0) (plainFor_of_name pn_2) O0 (allS ⟨g_b1, z_b1⟩ all0) ?_
  intro p e s m below meth c T0 hx hby hml hrt hnm hlk A0
  replace A0 : Wk false Z a0 [] n0 h0 [b1] "java/lang/StringBuilder" p l e rm_sbini s m #[(.ref b1)] below meth c [b1] T0 h0 0 0 := A0
  refine Run.st (T0.setTop (mkF m 0 #[.val (.ref b1)] [])) (fun _ k => castTop (ef_sbini m b1) k) ?_
  refine Run.st (T0.setTop (mkF m 3 #[.val (.ref b1)] [(.int (16 : Int32)), (.ref b1)])) (fun _ k => XS.aloadN A0.here hx rfl (hb hby d18_0) rfl rfl (XS.bipush A0.here hx rfl (hb hby d18_1) k)) ?_
  obtain ⟨v105, T105, h105, AA105, K105, ⟨L105, Q105⟩, st105⟩ := A0.callI hx (y := (⟨"java/lang/AbstractStringBuilder", "<init>", "(I)V"⟩ : MethodName)) rfl (tw50 H.1) (tw51 H.1) (tw55 H.1) (by decide) (g := (mkF m 3 #[.val (.ref b1)] [(.int (16 : Int32)), (.ref b1)])) rfl (by rw [hml]; rfl) b1 [(.int (16 : Int32))] [] (lenOf pd_8 rfl) rfl (Wd := 0) (by show 2 * 0 + _ ≤ _; exact Nat.le_of_eq rfl) (hb hby d18_3) (by decide) (by decide) [b1] (fun _ _ _ q => q.2) (allS (List.mem_of_getElem? (i := 0) rfl) all0) (fun vm0 hZ => payN (ct_asbini H b1 u2 u3 A0.old E1 (A0.nle (List.mem_of_getElem? (i := 0) rfl)) E1.lt F1 F2 F3) (tw55 H.1) (tw54 H.1) (by decide) (by decide) hZ)
  obtain ⟨Q105, N105, -⟩ := Q105
  obtain ⟨rfl, t105, hf105, B105⟩ := Q105
  have A105 := AA105 [t105] (allS (Or.inr hf105) all0)
  refine Run.st (T105.setTop (mkF m 6 #[.val (.ref b1)] [])) st105 ?_
  exact A105.leaveN hlk none (fun _ => rfl) (by decide) (by decide) ⟨rfl, t105, hf105, B105⟩ (fun X hr => X.returnOut hx hrt (hb hby d18_6) hr)
theorem ef_chklen (m : MethodId) (y0 : Int32) (y1 : Int32) : entryFrame m #[(.int y0), (.int y1)] 2 = mkF m 0 #[.val (.int y0), .val (.int y1)] [] := by first | (simp [entryFrame, mkF, argsToLocals, Value.category, maxLocals]; done) | rfl
def Q_chklen (Z : State) (p1 : Int32) (h0 : Heap) (v : Option Value) (h : Heap) : Prop := v = none ∧ h = h0
def rm_chklen : Room := { frames := 0, cells := 0, slots := 0, locals := 0 }
set_option maxRecDepth 65536 in
set_option maxHeartbeats 40000000 in
theorem ct_chklen {l : Launch} {Z : State} {a0 : Array Value} (H : Ev Z a0) (p1 : Int32) {h0 : Heap} {n0 : Nat} (O0 : Old Z n0 h0) (hk : ¬ p1 < 0) : CtrN l Z (⟨"java/util/Arrays", "checkLength", "(II)V"⟩ : MethodName) jdk_65_method_131_code 2 none [] rm_chklen #[(.int (0 : Int32)), (.int p1)] h0 [] n0 (Q_chklen Z p1 h0) := by
  refine enterN (a0 := a0) (plainFor_of_name pn_4) O0 all0 ?_
  intro p e s m below meth c T0 hx hby hml hrt hnm hlk A0
  replace A0 : Wk false Z a0 [] n0 h0 [] "java/util/Arrays" p l e rm_chklen s m #[(.int (0 : Int32)), (.int p1)] below meth c [] T0 h0 0 0 := A0
  refine Run.st (T0.setTop (mkF m 0 #[.val (.int (0 : Int32)), .val (.int p1)] [])) (fun _ k => castTop (ef_chklen m (0 : Int32) p1) k) ?_
  refine Run.st (T0.setTop (mkF m 37 #[.val (.int (0 : Int32)), .val (.int p1)] [])) (fun _ k => XS.iloadN A0.here hx rfl (hb hby d19_0) rfl (XS.iloadN A0.here hx rfl (hb hby d19_1) rfl (XS.icmpYes A0.here hx rfl (pc0 := 2) (pc' := 37) rfl (hb hby d19_2) rfl (flt hk).2.1 (by decide) (by decide) k))) ?_
  exact A0.leaveN hlk none (fun _ => rfl) (by decide) (by decide) ⟨rfl, rfl⟩ (fun X hr => X.returnOut hx hrt (hb hby d19_37) hr)
theorem ef_corb (m : MethodId) (y0 : Addr) (y1 : Int32) (y2 : Int32) : entryFrame m #[(.ref y0), (.int y1), (.int y2)] 5 = mkF m 0 #[.val (.ref y0), .val (.int y1), .val (.int y2), .unset, .unset] [] := by first | (simp [entryFrame, mkF, argsToLocals, Value.category, maxLocals]; done) | rfl
def Q_corb (Z : State) (t1 : Addr) (kb : ClassId) (n1 : Nat) (xs : List Int32) (h0 : Heap) (v : Option Value) (h : Heap) : Prop := ∃ (t : Addr) (kt : ClassId), v = some (.ref t) ∧ h0.size ≤ t ∧ Ext h0 h ∧ Arv Z h t kt .byte (Int32.ofNat xs.length) (bs xs) (.int 0)
def rm_corb : Room := { frames := 1, cells := 1, slots := 34, locals := 18 }
set_option maxRecDepth 65536 in
set_option maxHeartbeats 40000000 in
theorem ct_corb {l : Launch} {Z : State} {a0 : Array Value} (H : Ev Z a0) (t1 : Addr) (kb : ClassId) (n1 : Nat) (xs : List Int32) {h0 : Heap} {n0 : Nat} (O0 : Old Z n0 h0) (Vt : Arv Z h0 t1 kb .byte (Int32.ofNat n1) (bs xs) (.int 0)) (hn : n1 = 16 ∨ n1 = 34) (hxn : xs.length ≤ n1) : CtrN l Z (⟨"java/util/Arrays", "copyOfRangeByte", "([BII)[B"⟩ : MethodName) jdk_65_method_133_code 5 (some (.array .byte)) [] rm_corb #[(.ref t1), (.int (0 : Int32)), (.int (Int32.ofNat xs.length))] h0 [] n0 (Q_corb Z t1 kb n1 xs h0) := by
  refine enterN (a0 := a0) (plainFor_of_name pn_4) O0 all0 ?_
  intro p e s m below meth c T0 hx hby hml hrt hnm hlk A0
  replace A0 : Wk false Z a0 [] n0 h0 [] "java/util/Arrays" p l e rm_corb s m #[(.ref t1), (.int (0 : Int32)), (.int (Int32.ofNat xs.length))] below meth c [] T0 h0 0 0 := A0
  refine Run.st (T0.setTop (mkF m 0 #[.val (.ref t1), .val (.int (0 : Int32)), .val (.int (Int32.ofNat xs.length)), .unset, .unset] [])) (fun _ k => castTop (ef_corb m t1 (0 : Int32) (Int32.ofNat xs.length)) k) ?_
  rcases hn with rfl | rfl
  · have Vt : Arv Z h0 t1 kb .byte (16 : Int32) (bs xs) (.int 0) := Vt
    refine Run.st (T0.setTop (mkF m 2 #[.val (.ref t1), .val (.int (0 : Int32)), .val (.int (Int32.ofNat xs.length)), .unset, .unset] [(.int (Int32.ofNat xs.length)), (.int (0 : Int32))])) (fun _ k => XS.iloadN A0.here hx rfl (hb hby d20_0) rfl (XS.iloadN A0.here hx rfl (hb hby d20_1) rfl k)) ?_
    obtain ⟨v106, T106, h106, AA106, K106, ⟨L106, Q106⟩, st106⟩ := A0.callS hx (tw178 H.1) (tw179 H.1) (tw140 H.1) (tw180 H.1) (by decide) (g := (mkF m 2 #[.val (.ref t1), .val (.int (0 : Int32)), .val (.int (Int32.ofNat xs.length)), .unset, .unset] [(.int (Int32.ofNat xs.length)), (.int (0 : Int32))])) rfl (by rw [hml]; rfl) [(.int (0 : Int32)), (.int (Int32.ofNat xs.length))] [] (lenOf pd_13 rfl) rfl (Wd := 0) (by show 2 * 0 + _ ≤ _; exact Nat.le_of_eq rfl) (hb hby d20_2) (by decide) (by decide) [] (fun _ _ _ q => q.2) all0 (fun vm0 hZ => payN (ct_chklen H (Int32.ofNat xs.length) A0.old (n_pos (by omega))) (tw180 H.1) (tw140 H.1) (by decide) (by decide) hZ)
    obtain ⟨Q106, N106, -⟩ := Q106
    obtain ⟨rfl, q106⟩ := Q106
    have q106 := q106.symm
    subst q106
    have A106 := AA106 [] all0
    refine Run.st (T106.setTop (mkF m 5 #[.val (.ref t1), .val (.int (0 : Int32)), .val (.int (Int32.ofNat xs.length)), .unset, .unset] [])) st106 ?_
    refine Run.st (T106.setTop (mkF m 7 #[.val (.ref t1), .val (.int (0 : Int32)), .val (.int (Int32.ofNat xs.length)), .unset, .unset] [(.int (0 : Int32)), (.int (Int32.ofNat xs.length))])) (fun _ k => XS.iloadN A106.here hx rfl (hb hby d20_5) rfl (XS.iloadN A106.here hx rfl (hb hby d20_6) rfl k)) ?_
    refine Run.st (T106.setTop (mkF m 8 #[.val (.ref t1), .val (.int (0 : Int32)), .val (.int (Int32.ofNat xs.length)), .unset, .unset] [(.int ((Int32.ofNat xs.length) - (0 : Int32)))])) (fun _ k => XS.isub A106.here hx rfl (hb hby d20_7) rfl k) ?_
    rw [show ((Int32.ofNat xs.length) - (0 : Int32)) = (Int32.ofNat xs.length) from ((n_sub (a := xs.length) (b := 0) (Nat.zero_le _)).trans (congrArg Int32.ofNat (Nat.sub_zero _)))]
    refine Run.st (T106.setTop (mkF m 10 #[.val (.ref t1), .val (.int (0 : Int32)), .val (.int (Int32.ofNat xs.length)), .val (.int (Int32.ofNat xs.length)), .unset] [(.int (Int32.ofNat xs.length))])) (fun _ k => XS.istoreN A106.here hx rfl (hb hby d20_8) rfl (l' := #[.val (.ref t1), .val (.int (0 : Int32)), .val (.int (Int32.ofNat xs.length)), .val (.int (Int32.ofNat xs.length)), .unset]) rfl (XS.iloadN A106.here hx rfl (hb hby d20_9) rfl k)) ?_
    obtain ⟨a107, T107, h107, kA107, A107, E107, g107, V107, st107⟩ := A106.newP hx (aty := .byte) (N := (Int32.ofNat xs.length)) (tw19 H.1) (g := (mkF m 10 #[.val (.ref t1), .val (.int (0 : Int32)), .val (.int (Int32.ofNat xs.length)), .val (.int (Int32.ofNat xs.length)), .unset] [(.int (Int32.ofNat xs.length))])) rfl (hb hby d20_10) rfl (n_pos (by omega)) (cap := 34) (by rw [n_clamp (by omega)]; omega) (by decide) (by decide) (by decide)
    refine Run.st (T107.setTop (mkF m 12 #[.val (.ref t1), .val (.int (0 : Int32)), .val (.int (Int32.ofNat xs.length)), .val (.int (Int32.ofNat xs.length)), .unset] [(.ref a107)])) st107 ?_
    refine Run.st (T107.setTop (mkF m 20 #[.val (.ref t1), .val (.int (0 : Int32)), .val (.int (Int32.ofNat xs.length)), .val (.int (Int32.ofNat xs.length)), .val (.ref a107)] [(.ref t1), (.int (0 : Int32)), (.ref a107), (.int (0 : Int32)), (.ref t1)])) (fun _ k => XS.astore A107.here hx rfl (hb hby d20_12) rfl rfl (l' := #[.val (.ref t1), .val (.int (0 : Int32)), .val (.int (Int32.ofNat xs.length)), .val (.int (Int32.ofNat xs.length)), .val (.ref a107)]) rfl (XS.aloadN A107.here hx rfl (hb hby d20_14) rfl rfl (XS.iloadN A107.here hx rfl (hb hby d20_15) rfl (XS.aload A107.here hx rfl (hb hby d20_16) rfl rfl (XS.iconst A107.here hx rfl (hb hby d20_18) (XS.aloadN A107.here hx rfl (hb hby d20_19) rfl rfl k)))))) ?_
    have X108 : Ext h0 h107 := E107
    have f109 := Vt.ext X108
    refine Run.st (T107.setTop (mkF m 21 #[.val (.ref t1), .val (.int (0 : Int32)), .val (.int (Int32.ofNat xs.length)), .val (.int (Int32.ofNat xs.length)), .val (.ref a107)] [(.int (16 : Int32)), (.int (0 : Int32)), (.ref a107), (.int (0 : Int32)), (.ref t1)])) (A107.alen hx f109 (g := (mkF m 20 #[.val (.ref t1), .val (.int (0 : Int32)), .val (.int (Int32.ofNat xs.length)), .val (.int (Int32.ofNat xs.length)), .val (.ref a107)] [(.ref t1), (.int (0 : Int32)), (.ref a107), (.int (0 : Int32)), (.ref t1)])) rfl rfl (hb hby d20_20)) ?_
    refine Run.st (T107.setTop (mkF m 24 #[.val (.ref t1), .val (.int (0 : Int32)), .val (.int (Int32.ofNat xs.length)), .val (.int (Int32.ofNat xs.length)), .val (.ref a107)] [(.int (Int32.ofNat xs.length)), (.int (16 : Int32)), (.int (0 : Int32)), (.ref a107), (.int (0 : Int32)), (.ref t1)])) (fun _ k => XS.iloadN A107.here hx rfl (hb hby d20_21) rfl (XS.isub A107.here hx rfl (hb hby d20_22) rfl (XS.iloadN A107.here hx rfl (hb hby d20_23) rfl k))) ?_
    obtain ⟨v110, T110, h110, AA110, K110, ⟨L110, Q110⟩, st110⟩ := A107.callS hx (tw142 H.1) (tw143 H.1) (tw134 H.1) (tw144 H.1) (by decide) (g := (mkF m 24 #[.val (.ref t1), .val (.int (0 : Int32)), .val (.int (Int32.ofNat xs.length)), .val (.int (Int32.ofNat xs.length)), .val (.ref a107)] [(.int (Int32.ofNat xs.length)), (.int (16 : Int32)), (.int (0 : Int32)), (.ref a107), (.int (0 : Int32)), (.ref t1)])) rfl (by rw [hml]; rfl) [(.int (16 : Int32)), (.int (Int32.ofNat xs.length))] [(.int (0 : Int32)), (.ref a107), (.int (0 : Int32)), (.ref t1)] (lenOf pd_4 rfl) rfl (Wd := 4) (by show 2 * 0 + _ ≤ _; exact Nat.le_of_eq rfl) (hb hby d20_24) (by decide) (by decide) [] (fun _ _ _ q => q.2) all0 (fun vm0 hZ => payN (ct_min1 H (16 : Int32) (Int32.ofNat xs.length) A107.old (fun q => absurd ((n_lt (a := 16) (by decide) (by omega)).mp q) (by omega))) (tw144 H.1) (tw134 H.1) (by decide) (by decide) hZ)
    obtain ⟨Q110, N110, -⟩ := Q110
    obtain ⟨rfl, q110⟩ := Q110
    have q110 := q110.symm
    subst q110
    have A110 := AA110 [] all0
    refine Run.st (T110.setTop (mkF m 27 #[.val (.ref t1), .val (.int (0 : Int32)), .val (.int (Int32.ofNat xs.length)), .val (.int (Int32.ofNat xs.length)), .val (.ref a107)] [(.int (Int32.ofNat xs.length)), (.int (0 : Int32)), (.ref a107), (.int (0 : Int32)), (.ref t1)])) st110 ?_
    obtain ⟨T111, h111, A111, K111, V111, st111⟩ := A110.copy hx (sp := (0 : Int32)) (dp := (0 : Int32)) (nn := (Int32.ofNat xs.length)) (tw145 H.1) (tw110 H.1) (tw108 H.1) (tw109 H.1) f109 V107 rfl (by decide) (by decide) (n_pos (by omega)) (by rw [n_clamp (by omega)]; exact (by simpa using hxn)) (by rw [n_clamp (by omega)]; exact (by simp)) rfl (by rw [n_clamp (by omega)]; simp; omega) (List.mem_of_getElem? (i := 0) rfl) (g := (mkF m 27 #[.val (.ref t1), .val (.int (0 : Int32)), .val (.int (Int32.ofNat xs.length)), .val (.int (Int32.ofNat xs.length)), .val (.ref a107)] [(.int (Int32.ofNat xs.length)), (.int (0 : Int32)), (.ref a107), (.int (0 : Int32)), (.ref t1)])) rfl (by rw [hml]; rfl) rfl (hb hby d20_27) (by decide) (Wd := 0) (by show 2 * 0 + _ ≤ _; exact Nat.le_of_eq rfl) (by decide)
    refine Run.st (T111.setTop (mkF m 30 #[.val (.ref t1), .val (.int (0 : Int32)), .val (.int (Int32.ofNat xs.length)), .val (.int (Int32.ofNat xs.length)), .val (.ref a107)] [])) st111 ?_
    rw [n_clamp (by omega)] at V111
    refine Run.st (T111.setTop (mkF m 32 #[.val (.ref t1), .val (.int (0 : Int32)), .val (.int (Int32.ofNat xs.length)), .val (.int (Int32.ofNat xs.length)), .val (.ref a107)] [(.ref a107)])) (fun _ k => XS.aload A111.here hx rfl (hb hby d20_30) rfl rfl k) ?_
    exact A111.leaveN hlk (some (.ref a107)) (fun q => by rw [hrt] at q; cases q) (by decide) (by decide) ⟨_, _, rfl, (Nat.le_of_eq g107), keepE A111.keep, new_ok (m := 0) (k := xs.length) (Nat.le_refl _) (by omega) V111⟩ (fun X hr => retOut X hx (w := (.ref a107)) (t := (.array .byte)) hrt rfl (Or.inr (Or.inr (Or.inr (Or.inr ⟨rfl, rfl, rfl⟩)))) (hb hby d20_32) hr)
  · have Vt : Arv Z h0 t1 kb .byte (34 : Int32) (bs xs) (.int 0) := Vt
    refine Run.st (T0.setTop (mkF m 2 #[.val (.ref t1), .val (.int (0 : Int32)), .val (.int (Int32.ofNat xs.length)), .unset, .unset] [(.int (Int32.ofNat xs.length)), (.int (0 : Int32))])) (fun _ k => XS.iloadN A0.here hx rfl (hb hby d20_0) rfl (XS.iloadN A0.here hx rfl (hb hby d20_1) rfl k)) ?_
    obtain ⟨v112, T112, h112, AA112, K112, ⟨L112, Q112⟩, st112⟩ := A0.callS hx (tw178 H.1) (tw179 H.1) (tw140 H.1) (tw180 H.1) (by decide) (g := (mkF m 2 #[.val (.ref t1), .val (.int (0 : Int32)), .val (.int (Int32.ofNat xs.length)), .unset, .unset] [(.int (Int32.ofNat xs.length)), (.int (0 : Int32))])) rfl (by rw [hml]; rfl) [(.int (0 : Int32)), (.int (Int32.ofNat xs.length))] [] (lenOf pd_13 rfl) rfl (Wd := 0) (by show 2 * 0 + _ ≤ _; exact Nat.le_of_eq rfl) (hb hby d20_2) (by decide) (by decide) [] (fun _ _ _ q => q.2) all0 (fun vm0 hZ => payN (ct_chklen H (Int32.ofNat xs.length) A0.old (n_pos (by omega))) (tw180 H.1) (tw140 H.1) (by decide) (by decide) hZ)
    obtain ⟨Q112, N112, -⟩ := Q112
    obtain ⟨rfl, q112⟩ := Q112
    have q112 := q112.symm
    subst q112
    have A112 := AA112 [] all0
    refine Run.st (T112.setTop (mkF m 5 #[.val (.ref t1), .val (.int (0 : Int32)), .val (.int (Int32.ofNat xs.length)), .unset, .unset] [])) st112 ?_
    refine Run.st (T112.setTop (mkF m 7 #[.val (.ref t1), .val (.int (0 : Int32)), .val (.int (Int32.ofNat xs.length)), .unset, .unset] [(.int (0 : Int32)), (.int (Int32.ofNat xs.length))])) (fun _ k => XS.iloadN A112.here hx rfl (hb hby d20_5) rfl (XS.iloadN A112.here hx rfl (hb hby d20_6) rfl k)) ?_
    refine Run.st (T112.setTop (mkF m 8 #[.val (.ref t1), .val (.int (0 : Int32)), .val (.int (Int32.ofNat xs.length)), .unset, .unset] [(.int ((Int32.ofNat xs.length) - (0 : Int32)))])) (fun _ k => XS.isub A112.here hx rfl (hb hby d20_7) rfl k) ?_
    rw [show ((Int32.ofNat xs.length) - (0 : Int32)) = (Int32.ofNat xs.length) from ((n_sub (a := xs.length) (b := 0) (Nat.zero_le _)).trans (congrArg Int32.ofNat (Nat.sub_zero _)))]
    refine Run.st (T112.setTop (mkF m 10 #[.val (.ref t1), .val (.int (0 : Int32)), .val (.int (Int32.ofNat xs.length)), .val (.int (Int32.ofNat xs.length)), .unset] [(.int (Int32.ofNat xs.length))])) (fun _ k => XS.istoreN A112.here hx rfl (hb hby d20_8) rfl (l' := #[.val (.ref t1), .val (.int (0 : Int32)), .val (.int (Int32.ofNat xs.length)), .val (.int (Int32.ofNat xs.length)), .unset]) rfl (XS.iloadN A112.here hx rfl (hb hby d20_9) rfl k)) ?_
    obtain ⟨a113, T113, h113, kA113, A113, E113, g113, V113, st113⟩ := A112.newP hx (aty := .byte) (N := (Int32.ofNat xs.length)) (tw19 H.1) (g := (mkF m 10 #[.val (.ref t1), .val (.int (0 : Int32)), .val (.int (Int32.ofNat xs.length)), .val (.int (Int32.ofNat xs.length)), .unset] [(.int (Int32.ofNat xs.length))])) rfl (hb hby d20_10) rfl (n_pos (by omega)) (cap := 34) (by rw [n_clamp (by omega)]; omega) (by decide) (by decide) (by decide)
    refine Run.st (T113.setTop (mkF m 12 #[.val (.ref t1), .val (.int (0 : Int32)), .val (.int (Int32.ofNat xs.length)), .val (.int (Int32.ofNat xs.length)), .unset] [(.ref a113)])) st113 ?_
    refine Run.st (T113.setTop (mkF m 20 #[.val (.ref t1), .val (.int (0 : Int32)), .val (.int (Int32.ofNat xs.length)), .val (.int (Int32.ofNat xs.length)), .val (.ref a113)] [(.ref t1), (.int (0 : Int32)), (.ref a113), (.int (0 : Int32)), (.ref t1)])) (fun _ k => XS.astore A113.here hx rfl (hb hby d20_12) rfl rfl (l' := #[.val (.ref t1), .val (.int (0 : Int32)), .val (.int (Int32.ofNat xs.length)), .val (.int (Int32.ofNat xs.length)), .val (.ref a113)]) rfl (XS.aloadN A113.here hx rfl (hb hby d20_14) rfl rfl (XS.iloadN A113.here hx rfl (hb hby d20_15) rfl (XS.aload A113.here hx rfl (hb hby d20_16) rfl rfl (XS.iconst A113.here hx rfl (hb hby d20_18) (XS.aloadN A113.here hx rfl (hb hby d20_19) rfl rfl k)))))) ?_
    have X114 : Ext h0 h113 := E113
    have f115 := Vt.ext X114
    refine Run.st (T113.setTop (mkF m 21 #[.val (.ref t1), .val (.int (0 : Int32)), .val (.int (Int32.ofNat xs.length)), .val (.int (Int32.ofNat xs.length)), .val (.ref a113)] [(.int (34 : Int32)), (.int (0 : Int32)), (.ref a113), (.int (0 : Int32)), (.ref t1)])) (A113.alen hx f115 (g := (mkF m 20 #[.val (.ref t1), .val (.int (0 : Int32)), .val (.int (Int32.ofNat xs.length)), .val (.int (Int32.ofNat xs.length)), .val (.ref a113)] [(.ref t1), (.int (0 : Int32)), (.ref a113), (.int (0 : Int32)), (.ref t1)])) rfl rfl (hb hby d20_20)) ?_
    refine Run.st (T113.setTop (mkF m 24 #[.val (.ref t1), .val (.int (0 : Int32)), .val (.int (Int32.ofNat xs.length)), .val (.int (Int32.ofNat xs.length)), .val (.ref a113)] [(.int (Int32.ofNat xs.length)), (.int (34 : Int32)), (.int (0 : Int32)), (.ref a113), (.int (0 : Int32)), (.ref t1)])) (fun _ k => XS.iloadN A113.here hx rfl (hb hby d20_21) rfl (XS.isub A113.here hx rfl (hb hby d20_22) rfl (XS.iloadN A113.here hx rfl (hb hby d20_23) rfl k))) ?_
    obtain ⟨v116, T116, h116, AA116, K116, ⟨L116, Q116⟩, st116⟩ := A113.callS hx (tw142 H.1) (tw143 H.1) (tw134 H.1) (tw144 H.1) (by decide) (g := (mkF m 24 #[.val (.ref t1), .val (.int (0 : Int32)), .val (.int (Int32.ofNat xs.length)), .val (.int (Int32.ofNat xs.length)), .val (.ref a113)] [(.int (Int32.ofNat xs.length)), (.int (34 : Int32)), (.int (0 : Int32)), (.ref a113), (.int (0 : Int32)), (.ref t1)])) rfl (by rw [hml]; rfl) [(.int (34 : Int32)), (.int (Int32.ofNat xs.length))] [(.int (0 : Int32)), (.ref a113), (.int (0 : Int32)), (.ref t1)] (lenOf pd_4 rfl) rfl (Wd := 4) (by show 2 * 0 + _ ≤ _; exact Nat.le_of_eq rfl) (hb hby d20_24) (by decide) (by decide) [] (fun _ _ _ q => q.2) all0 (fun vm0 hZ => payN (ct_min1 H (34 : Int32) (Int32.ofNat xs.length) A113.old (fun q => absurd ((n_lt (a := 34) (by decide) (by omega)).mp q) (by omega))) (tw144 H.1) (tw134 H.1) (by decide) (by decide) hZ)
    obtain ⟨Q116, N116, -⟩ := Q116
    obtain ⟨rfl, q116⟩ := Q116
    have q116 := q116.symm
    subst q116
    have A116 := AA116 [] all0
    refine Run.st (T116.setTop (mkF m 27 #[.val (.ref t1), .val (.int (0 : Int32)), .val (.int (Int32.ofNat xs.length)), .val (.int (Int32.ofNat xs.length)), .val (.ref a113)] [(.int (Int32.ofNat xs.length)), (.int (0 : Int32)), (.ref a113), (.int (0 : Int32)), (.ref t1)])) st116 ?_
    obtain ⟨T117, h117, A117, K117, V117, st117⟩ := A116.copy hx (sp := (0 : Int32)) (dp := (0 : Int32)) (nn := (Int32.ofNat xs.length)) (tw145 H.1) (tw110 H.1) (tw108 H.1) (tw109 H.1) f115 V113 rfl (by decide) (by decide) (n_pos (by omega)) (by rw [n_clamp (by omega)]; exact (by simpa using hxn)) (by rw [n_clamp (by omega)]; exact (by simp)) rfl (by rw [n_clamp (by omega)]; simp; omega) (List.mem_of_getElem? (i := 0) rfl) (g := (mkF m 27 #[.val (.ref t1), .val (.int (0 : Int32)), .val (.int (Int32.ofNat xs.length)), .val (.int (Int32.ofNat xs.length)), .val (.ref a113)] [(.int (Int32.ofNat xs.length)), (.int (0 : Int32)), (.ref a113), (.int (0 : Int32)), (.ref t1)])) rfl (by rw [hml]; rfl) rfl (hb hby d20_27) (by decide) (Wd := 0) (by show 2 * 0 + _ ≤ _; exact Nat.le_of_eq rfl) (by decide)
    refine Run.st (T117.setTop (mkF m 30 #[.val (.ref t1), .val (.int (0 : Int32)), .val (.int (Int32.ofNat xs.length)), .val (.int (Int32.ofNat xs.length)), .val (.ref a113)] [])) st117 ?_
    rw [n_clamp (by omega)] at V117
    refine Run.st (T117.setTop (mkF m 32 #[.val (.ref t1), .val (.int (0 : Int32)), .val (.int (Int32.ofNat xs.length)), .val (.int (Int32.ofNat xs.length)), .val (.ref a113)] [(.ref a113)])) (fun _ k => XS.aload A117.here hx rfl (hb hby d20_30) rfl rfl k) ?_
    exact A117.leaveN hlk (some (.ref a113)) (fun q => by rw [hrt] at q; cases q) (by decide) (by decide) ⟨_, _, rfl, (Nat.le_of_eq g113), keepE A117.keep, new_ok (m := 0) (k := xs.length) (Nat.le_refl _) (by omega) V117⟩ (fun X hr => retOut X hx (w := (.ref a113)) (t := (.array .byte)) hrt rfl (Or.inr (Or.inr (Or.inr (Or.inr ⟨rfl, rfl, rfl⟩)))) (hb hby d20_32) hr)
theorem ef_cor (m : MethodId) (y0 : Addr) (y1 : Int32) (y2 : Int32) : entryFrame m #[(.ref y0), (.int y1), (.int y2)] 3 = mkF m 0 #[.val (.ref y0), .val (.int y1), .val (.int y2)] [] := by first | (simp [entryFrame, mkF, argsToLocals, Value.category, maxLocals]; done) | rfl
def Q_cor (Z : State) (t1 : Addr) (kb : ClassId) (n1 : Nat) (xs : List Int32) (h0 : Heap) (v : Option Value) (h : Heap) : Prop := ∃ (t : Addr) (kt : ClassId), v = some (.ref t) ∧ h0.size ≤ t ∧ Ext h0 h ∧ Arv Z h t kt .byte (Int32.ofNat xs.length) (bs xs) (.int 0)
def rm_cor : Room := { frames := 2, cells := 1, slots := 34, locals := 34 }
set_option maxRecDepth 65536 in
set_option maxHeartbeats 40000000 in
theorem ct_cor {l : Launch} {Z : State} {a0 : Array Value} (H : Ev Z a0) (t1 : Addr) (kb : ClassId) (n1 : Nat) (xs : List Int32) {h0 : Heap} {n0 : Nat} (O0 : Old Z n0 h0) (Vt : Arv Z h0 t1 kb .byte (Int32.ofNat n1) (bs xs) (.int 0)) (hn : n1 = 16 ∨ n1 = 34) (hxn : xs.length ≤ n1) (Et1 : Exa Z h0 t1 "[B") : CtrN l Z (⟨"java/util/Arrays", "copyOfRange", "([BII)[B"⟩ : MethodName) jdk_65_method_132_code 3 (some (.array .byte)) [] rm_cor #[(.ref t1), (.int (0 : Int32)), (.int (Int32.ofNat xs.length))] h0 [] n0 (Q_cor Z t1 kb n1 xs h0) := by
  refine enterN (a0 := a0) (plainFor_of_name pn_4) O0 all0 ?_
  intro p e s m below meth c T0 hx hby hml hrt hnm hlk A0
  replace A0 : Wk false Z a0 [] n0 h0 [] "java/util/Arrays" p l e rm_cor s m #[(.ref t1), (.int (0 : Int32)), (.int (Int32.ofNat xs.length))] below meth c [] T0 h0 0 0 := A0
  refine Run.st (T0.setTop (mkF m 0 #[.val (.ref t1), .val (.int (0 : Int32)), .val (.int (Int32.ofNat xs.length))] [])) (fun _ k => castTop (ef_cor m t1 (0 : Int32) (Int32.ofNat xs.length)) k) ?_
  refine Run.st (T0.setTop (mkF m 6 #[.val (.ref t1), .val (.int (0 : Int32)), .val (.int (Int32.ofNat xs.length))] [(.ref t1), (.int (Int32.ofNat xs.length))])) (fun _ k => XS.iloadN A0.here hx rfl (hb hby d21_0) rfl (XS.ifNo A0.here hx rfl (hb hby d21_1) rfl (by decide) (XS.iloadN A0.here hx rfl (hb hby d21_4) rfl (XS.aloadN A0.here hx rfl (hb hby d21_5) rfl rfl k)))) ?_
  refine Run.st (T0.setTop (mkF m 7 #[.val (.ref t1), .val (.int (0 : Int32)), .val (.int (Int32.ofNat xs.length))] [(.int (Int32.ofNat n1)), (.int (Int32.ofNat xs.length))])) (A0.alen hx Vt (g := (mkF m 6 #[.val (.ref t1), .val (.int (0 : Int32)), .val (.int (Int32.ofNat xs.length))] [(.ref t1), (.int (Int32.ofNat xs.length))])) rfl rfl (hb hby d21_6)) ?_
  by_cases c118 : (Int32.ofNat xs.length) = (Int32.ofNat n1)
  · refine Run.st (T0.setTop (mkF m 18 #[.val (.ref t1), .val (.int (0 : Int32)), .val (.int (Int32.ofNat xs.length))] [(.ref t1)])) (fun _ k => XS.icmpYes A0.here hx rfl (pc0 := 7) (pc' := 17) rfl (hb hby d21_7) rfl (teq c118).1 (by decide) (by decide) (XS.aloadN A0.here hx rfl (hb hby d21_17) rfl rfl k)) ?_
    obtain ⟨a119, T119, h119, A119, E119, g119, V119, Ex119, st119⟩ := A0.clone hx (tw224 H.1) (tw225 H.1) (tw229 H.1) (tw227 H.1) (tw228 H.1) (tw230 H.1) Vt Et1 (g := (mkF m 18 #[.val (.ref t1), .val (.int (0 : Int32)), .val (.int (Int32.ofNat xs.length))] [(.ref t1)])) rfl (by rw [hml]; rfl) rfl (hb hby d21_18) (by decide) (Wd := 0) (cap := 34) (by show 2 * 0 + _ ≤ _; exact Nat.le_of_eq rfl) (by decide) (by rw [n_clamp (by omega)]; omega) (by decide) (by decide)
    refine Run.st (T119.setTop (mkF m 21 #[.val (.ref t1), .val (.int (0 : Int32)), .val (.int (Int32.ofNat xs.length))] [(.ref a119)])) st119 ?_
    obtain ⟨T120, A120, st120⟩ := A119.castY hx (tw231 H.1) (Ins.self Ex119) (g := (mkF m 21 #[.val (.ref t1), .val (.int (0 : Int32)), .val (.int (Int32.ofNat xs.length))] [(.ref a119)])) rfl rfl (hb hby d21_21)
    refine Run.st (T120.setTop (mkF m 24 #[.val (.ref t1), .val (.int (0 : Int32)), .val (.int (Int32.ofNat xs.length))] [(.ref a119)])) st120 ?_
    exact A120.leaveN hlk (some (.ref a119)) (fun q => by rw [hrt] at q; cases q) (by decide) (by decide) ⟨_, _, rfl, (Nat.le_of_eq g119), keepE A120.keep, by rw [show (Int32.ofNat xs.length) = Int32.ofNat n1 from c118]; exact V119⟩ (fun X hr => retOut X hx (w := (.ref a119)) (t := (.array .byte)) hrt rfl (Or.inr (Or.inr (Or.inr (Or.inr ⟨rfl, rfl, rfl⟩)))) (hb hby d21_24) hr)
  · refine Run.st (T0.setTop (mkF m 13 #[.val (.ref t1), .val (.int (0 : Int32)), .val (.int (Int32.ofNat xs.length))] [(.int (Int32.ofNat xs.length)), (.int (0 : Int32)), (.ref t1)])) (fun _ k => XS.icmpNo A0.here hx rfl (hb hby d21_7) rfl (feq c118).1 (XS.aloadN A0.here hx rfl (hb hby d21_10) rfl rfl (XS.iloadN A0.here hx rfl (hb hby d21_11) rfl (XS.iloadN A0.here hx rfl (hb hby d21_12) rfl k)))) ?_
    obtain ⟨v121, T121, h121, AA121, K121, ⟨L121, Q121⟩, st121⟩ := A0.callS hx (tw175 H.1) (tw176 H.1) (tw140 H.1) (tw177 H.1) (by decide) (g := (mkF m 13 #[.val (.ref t1), .val (.int (0 : Int32)), .val (.int (Int32.ofNat xs.length))] [(.int (Int32.ofNat xs.length)), (.int (0 : Int32)), (.ref t1)])) rfl (by rw [hml]; rfl) [(.ref t1), (.int (0 : Int32)), (.int (Int32.ofNat xs.length))] [] (lenOf pd_14 rfl) rfl (Wd := 0) (by show 2 * 0 + _ ≤ _; exact Nat.le_of_eq rfl) (hb hby d21_13) (by decide) (by decide) [] (fun _ _ _ q => q.2) all0 (fun vm0 hZ => payN (ct_corb H t1 kb n1 xs A0.old Vt hn hxn) (tw177 H.1) (tw140 H.1) (by decide) (by decide) hZ)
    obtain ⟨Q121, N121, -⟩ := Q121
    obtain ⟨t121, kt121, rfl, lt121, X121, Vn121⟩ := Q121
    have A121 := AA121 [] all0
    refine Run.st (T121.setTop (mkF m 16 #[.val (.ref t1), .val (.int (0 : Int32)), .val (.int (Int32.ofNat xs.length))] [(.ref t121)])) st121 ?_
    exact A121.leaveN hlk (some (.ref t121)) (fun q => by rw [hrt] at q; cases q) (by decide) (by decide) ⟨_, _, rfl, lt121, keepE A121.keep, Vn121⟩ (fun X hr => retOut X hx (w := (.ref t121)) (t := (.array .byte)) hrt rfl (Or.inr (Or.inr (Or.inr (Or.inr ⟨rfl, rfl, rfl⟩)))) (hb hby d21_16) hr)
theorem ef_sini2 (m : MethodId) (y0 : Addr) (y1 : Addr) : entryFrame m #[(.ref y0), (.ref y1), .null] 5 = mkF m 0 #[.val (.ref y0), .val (.ref y1), .val .null, .unset, .unset] [] := by first | (simp [entryFrame, mkF, argsToLocals, Value.category, maxLocals]; done) | rfl
def Q_sini2 (Z : State) (x1 : Addr) (b1 : Addr) (t1 : Addr) (xs : List Int32) (u1 : Value) (u2 : Value) (h0 : Heap) (v : Option Value) (h : Heap) : Prop := v = none ∧ StrA Z h x1 xs
def rm_sini2 : Room := { frames := 3, cells := 1, slots := 34, locals := 49 }
set_option maxRecDepth 65536 in
set_option maxHeartbeats 40000000 in
theorem ct_sini2 {l : Launch} {Z : State} {a0 : Array Value} (H : Ev Z a0) (x1 : Addr) (b1 : Addr) (t1 : Addr) (xs : List Int32) (u1 : Value) (u2 : Value) {h0 : Heap} {n0 : Nat} (O0 : Old Z n0 h0) (E0 : Exa Z h0 x1 "java/lang/String") (g_x1 : n0 ≤ x1) (z_x1 : x1 < h0.size) (G_value : Fld Z h0 x1 "java/lang/String" "value" "[B" u1) (G_coder : Fld Z h0 x1 "java/lang/String" "coder" "B" u2) (B1 : SBA Z h0 b1 t1 xs) : CtrN l Z (⟨"java/lang/String", "<init>", "(Ljava/lang/AbstractStringBuilder;Ljava/lang/Void;)V"⟩ : MethodName) jdk_42_method_150_code 5 none [] rm_sini2 #[(.ref x1), (.ref b1), .null] h0 [x1] n0 (Q_sini2 Z x1 b1 t1 xs u1 u2 h0) := by
  refine enterN (a0 := a0) (plainFor_of_name pn_0) O0 (allS ⟨g_x1, z_x1⟩ all0) ?_
  intro p e s m below meth c T0 hx hby hml hrt hnm hlk A0
  replace A0 : Wk false Z a0 [] n0 h0 [x1] "java/lang/String" p l e rm_sini2 s m #[(.ref x1), (.ref b1), .null] below meth c [x1] T0 h0 0 0 := A0
  refine Run.st (T0.setTop (mkF m 0 #[.val (.ref x1), .val (.ref b1), .val .null, .unset, .unset] [])) (fun _ k => castTop (ef_sini2 m x1 b1) k) ?_
  obtain ⟨E1, F3, F1, F2, ⟨kb, n1, hn, hxn, Vt⟩, hcx, Et1⟩ := id B1
  refine Run.st (T0.setTop (mkF m 1 #[.val (.ref x1), .val (.ref b1), .val .null, .unset, .unset] [(.ref x1)])) (fun _ k => XS.aloadN A0.here hx rfl (hb hby d22_0) rfl rfl k) ?_
  obtain ⟨T122, A122, st122⟩ := A0.initO hx (tw15 H.1) (tw16 H.1) (tw17 H.1) (g := (mkF m 1 #[.val (.ref x1), .val (.ref b1), .val .null, .unset, .unset] [(.ref x1)])) rfl (by rw [hml]; rfl) rfl (hb hby d22_1) (by decide) (Wd := 0) (by show 2 * 0 + _ ≤ _; exact Nat.le_of_eq rfl) (by decide)
  refine Run.st (T122.setTop (mkF m 4 #[.val (.ref x1), .val (.ref b1), .val .null, .unset, .unset] [])) st122 ?_
  refine Run.st (T122.setTop (mkF m 5 #[.val (.ref x1), .val (.ref b1), .val .null, .unset, .unset] [(.ref b1)])) (fun _ k => XS.aloadN A122.here hx rfl (hb hby d22_4) rfl rfl k) ?_
  obtain ⟨v123, T123, h123, AA123, K123, ⟨L123, Q123⟩, st123⟩ := A122.callV hx (y := (⟨"java/lang/AbstractStringBuilder", "getValue", "()[B"⟩ : MethodName)) (z := (⟨"java/lang/AbstractStringBuilder", "getValue", "()[B"⟩ : MethodName)) (tw158 H.1) (tw159 H.1) (tw161 H.1) (tw160 H.1) (nfSel (tw161 H.1)) (by decide) E1 (g := (mkF m 5 #[.val (.ref x1), .val (.ref b1), .val .null, .unset, .unset] [(.ref b1)])) rfl (by rw [hml]; rfl) [] [] (lenOf pd_15 rfl) rfl (Wd := 0) (by show 2 * 0 + _ ≤ _; exact Nat.le_of_eq rfl) (hb hby d22_5) (by decide) (by decide) [] (fun _ _ _ q => q.2) all0 (fun vm0 hZ => payN (ct_getval H b1 t1 A122.old F3) (tw162 H.1) (tw54 H.1) (by decide) (by decide) hZ)
  obtain ⟨Q123, N123, -⟩ := Q123
  obtain ⟨rfl, q123⟩ := Q123
  have q123 := q123.symm
  subst q123
  have A123 := AA123 [] all0
  refine Run.st (T123.setTop (mkF m 8 #[.val (.ref x1), .val (.ref b1), .val .null, .unset, .unset] [(.ref t1)])) st123 ?_
  refine Run.st (T123.setTop (mkF m 10 #[.val (.ref x1), .val (.ref b1), .val .null, .val (.ref t1), .unset] [(.ref b1)])) (fun _ k => XS.astoreN A123.here hx rfl (hb hby d22_8) rfl rfl (l' := #[.val (.ref x1), .val (.ref b1), .val .null, .val (.ref t1), .unset]) rfl (XS.aloadN A123.here hx rfl (hb hby d22_9) rfl rfl k)) ?_
  obtain ⟨v124, T124, h124, AA124, K124, ⟨L124, Q124⟩, st124⟩ := A123.callV hx (y := (⟨"java/lang/AbstractStringBuilder", "length", "()I"⟩ : MethodName)) (z := (⟨"java/lang/StringBuilder", "length", "()I"⟩ : MethodName)) (tw163 H.1) (tw164 H.1) (tw166 H.1) (tw167 H.1) (nfSelC (tw89 H.1) rfl) (by decide) E1 (g := (mkF m 10 #[.val (.ref x1), .val (.ref b1), .val .null, .val (.ref t1), .unset] [(.ref b1)])) rfl (by rw [hml]; rfl) [] [] (lenOf pd_0 rfl) rfl (Wd := 0) (by show 2 * 0 + _ ≤ _; exact Nat.le_of_eq rfl) (hb hby d22_10) (by decide) (by decide) [] (fun _ _ _ q => q.2) all0 (fun vm0 hZ => payN (ct_sblen H b1 (Int32.ofNat xs.length) A123.old E1 F1) (tw168 H.1) (tw46 H.1) (by decide) (by decide) hZ)
  obtain ⟨Q124, N124, -⟩ := Q124
  obtain ⟨rfl, q124⟩ := Q124
  have q124 := q124.symm
  subst q124
  have A124 := AA124 [] all0
  refine Run.st (T124.setTop (mkF m 13 #[.val (.ref x1), .val (.ref b1), .val .null, .val (.ref t1), .unset] [(.int (Int32.ofNat xs.length))])) st124 ?_
  refine Run.st (T124.setTop (mkF m 16 #[.val (.ref x1), .val (.ref b1), .val .null, .val (.ref t1), .val (.int (Int32.ofNat xs.length))] [(.ref b1)])) (fun _ k => XS.istore A124.here hx rfl (hb hby d22_13) rfl (l' := #[.val (.ref x1), .val (.ref b1), .val .null, .val (.ref t1), .val (.int (Int32.ofNat xs.length))]) rfl (XS.aloadN A124.here hx rfl (hb hby d22_15) rfl rfl k)) ?_
  obtain ⟨v125, T125, h125, AA125, K125, ⟨L125, Q125⟩, st125⟩ := A124.callV hx (y := (⟨"java/lang/AbstractStringBuilder", "isLatin1", "()Z"⟩ : MethodName)) (z := (⟨"java/lang/AbstractStringBuilder", "isLatin1", "()Z"⟩ : MethodName)) (tw171 H.1) (tw118 H.1) (tw120 H.1) (tw119 H.1) (nfSel (tw120 H.1)) (by decide) E1 (g := (mkF m 16 #[.val (.ref x1), .val (.ref b1), .val .null, .val (.ref t1), .val (.int (Int32.ofNat xs.length))] [(.ref b1)])) rfl (by rw [hml]; rfl) [] [] (lenOf pd_11 rfl) rfl (Wd := 0) (by show 2 * 0 + _ ≤ _; exact Nat.le_of_eq rfl) (hb hby d22_16) (by decide) (by decide) [] (fun _ _ _ q => q.2) all0 (fun vm0 hZ => payN (ct_islat H b1 A124.old F2) (tw121 H.1) (tw54 H.1) (by decide) (by decide) hZ)
  obtain ⟨Q125, N125, -⟩ := Q125
  obtain ⟨rfl, q125⟩ := Q125
  have q125 := q125.symm
  subst q125
  have A125 := AA125 [] all0
  refine Run.st (T125.setTop (mkF m 19 #[.val (.ref x1), .val (.ref b1), .val .null, .val (.ref t1), .val (.int (Int32.ofNat xs.length))] [(.int (1 : Int32))])) st125 ?_
  refine Run.st (T125.setTop (mkF m 24 #[.val (.ref x1), .val (.ref b1), .val .null, .val (.ref t1), .val (.int (Int32.ofNat xs.length))] [(.int (0 : Int32)), (.ref x1)])) (fun _ k => XS.ifNo A125.here hx rfl (hb hby d22_19) rfl (by decide) (XS.aloadN A125.here hx rfl (hb hby d22_22) rfl rfl (XS.iconst A125.here hx rfl (hb hby d22_23) k))) ?_
  obtain ⟨T126, h126, A126, K126, W126, st126⟩ := A125.putF hx (tw25 H.1) Via.refl (a := x1) (List.mem_of_getElem? (i := 0) rfl) (v' := (.int (0 : Int32))) G_coder E0 (Or.inr ⟨(tw21 H.1), rfl, hnm⟩) (tw5 H.1) (ty := .byte) (by decide) rfl rfl (g := (mkF m 24 #[.val (.ref x1), .val (.ref b1), .val .null, .val (.ref t1), .val (.int (Int32.ofNat xs.length))] [(.int (0 : Int32)), (.ref x1)])) rfl rfl (hb hby d22_24)
  have F126 : Fld Z h126 x1 "java/lang/String" "coder" "B" (.int (0 : Int32)) := G_coder.same W126
  refine Run.st (T126.setTop (mkF m 27 #[.val (.ref x1), .val (.ref b1), .val .null, .val (.ref t1), .val (.int (Int32.ofNat xs.length))] [])) st126 ?_
  refine Run.st (T126.setTop (mkF m 32 #[.val (.ref x1), .val (.ref b1), .val .null, .val (.ref t1), .val (.int (Int32.ofNat xs.length))] [(.int (Int32.ofNat xs.length)), (.int (0 : Int32)), (.ref t1), (.ref x1)])) (fun _ k => XS.aloadN A126.here hx rfl (hb hby d22_27) rfl rfl (XS.aloadN A126.here hx rfl (hb hby d22_28) rfl rfl (XS.iconst A126.here hx rfl (hb hby d22_29) (XS.iload A126.here hx rfl (hb hby d22_30) rfl k)))) ?_
  have f128 := (Vt.keep K126 (ninS (Ne.symm (Exa.neArv E0 Vt (tw5 H.1))) nin0))
  have f129 := (Et1.wr W126)
  obtain ⟨v127, T127, h127, AA127, K127, ⟨L127, Q127⟩, st127⟩ := A126.callS hx (tw172 H.1) (tw173 H.1) (tw140 H.1) (tw174 H.1) (by decide) (g := (mkF m 32 #[.val (.ref x1), .val (.ref b1), .val .null, .val (.ref t1), .val (.int (Int32.ofNat xs.length))] [(.int (Int32.ofNat xs.length)), (.int (0 : Int32)), (.ref t1), (.ref x1)])) rfl (by rw [hml]; rfl) [(.ref t1), (.int (0 : Int32)), (.int (Int32.ofNat xs.length))] [(.ref x1)] (lenOf pd_14 rfl) rfl (Wd := 1) (by show 2 * 0 + _ ≤ _; exact Nat.le_of_eq rfl) (hb hby d22_32) (by decide) (by decide) [] (fun _ _ _ q => q.2) all0 (fun vm0 hZ => payN (ct_cor H t1 kb n1 xs A126.old f128 hn hxn f129) (tw174 H.1) (tw140 H.1) (by decide) (by decide) hZ)
  obtain ⟨Q127, N127, -⟩ := Q127
  obtain ⟨t127, kt127, rfl, lt127, X127, Vn127⟩ := Q127
  have A127 := AA127 [] all0
  refine Run.st (T127.setTop (mkF m 35 #[.val (.ref x1), .val (.ref b1), .val .null, .val (.ref t1), .val (.int (Int32.ofNat xs.length))] [(.ref t127), (.ref x1)])) st127 ?_
  have f131 := ((G_value.other W126 (Or.inr (slot_ne (Or.inr (tw20 H.1)) (Or.inr (tw21 H.1)) (by decide) (t := (.array .byte)) (t' := .byte) (by decide) (by decide)))).ext X127)
  have f132 := ((E0.wr W126).ext X127)
  obtain ⟨T130, h130, A130, K130, W130, st130⟩ := A127.putF hx (tw24 H.1) Via.refl (a := x1) (List.mem_of_getElem? (i := 0) rfl) (v' := (.ref t127)) f131 f132 (Or.inr ⟨(tw20 H.1), rfl, hnm⟩) (tw5 H.1) (ty := (.array .byte)) (by decide) rfl rfl (g := (mkF m 35 #[.val (.ref x1), .val (.ref b1), .val .null, .val (.ref t1), .val (.int (Int32.ofNat xs.length))] [(.ref t127), (.ref x1)])) rfl rfl (hb hby d22_35)
  have F130 : Fld Z h130 x1 "java/lang/String" "value" "[B" (.ref t127) := f131.same W130
  refine Run.st (T130.setTop (mkF m 38 #[.val (.ref x1), .val (.ref b1), .val .null, .val (.ref t1), .val (.int (Int32.ofNat xs.length))] [])) st130 ?_
  refine Run.st (T130.setTop (mkF m 97 #[.val (.ref x1), .val (.ref b1), .val .null, .val (.ref t1), .val (.int (Int32.ofNat xs.length))] [])) (fun _ k => XS.goto A130.here hx rfl (pc0 := 38) (pc' := 97) rfl (hb hby d22_38) (by decide) (by decide) k) ?_
  have f133 := (((E0.wr W126).ext X127).wr W130)
  have f134 := ((F126.ext X127).other W130 (Or.inr (slot_ne (Or.inr (tw21 H.1)) (Or.inr (tw20 H.1)) (by decide) (t := .byte) (t' := (.array .byte)) (by decide) (by decide))))
  have f135 := (Vn127.keep K130 (ninS (Ne.symm (Exa.neArv f132 Vn127 (tw5 H.1))) nin0))
  exact A130.leaveN hlk none (fun _ => rfl) (by decide) (by decide) ⟨rfl, f133, f134, ⟨_, _, F130, f135⟩, hcx, by omega⟩ (fun X hr => X.returnOut hx hrt (hb hby d22_97) hr)
theorem ef_sini1 (m : MethodId) (y0 : Addr) (y1 : Addr) : entryFrame m #[(.ref y0), (.ref y1)] 2 = mkF m 0 #[.val (.ref y0), .val (.ref y1)] [] := by first | (simp [entryFrame, mkF, argsToLocals, Value.category, maxLocals]; done) | rfl
def Q_sini1 (Z : State) (x1 : Addr) (b1 : Addr) (t1 : Addr) (xs : List Int32) (u1 : Value) (u2 : Value) (h0 : Heap) (v : Option Value) (h : Heap) : Prop := v = none ∧ StrA Z h x1 xs
def rm_sini1 : Room := { frames := 4, cells := 1, slots := 34, locals := 65 }
set_option maxRecDepth 65536 in
set_option maxHeartbeats 40000000 in
theorem ct_sini1 {l : Launch} {Z : State} {a0 : Array Value} (H : Ev Z a0) (x1 : Addr) (b1 : Addr) (t1 : Addr) (xs : List Int32) (u1 : Value) (u2 : Value) {h0 : Heap} {n0 : Nat} (O0 : Old Z n0 h0) (E0 : Exa Z h0 x1 "java/lang/String") (g_x1 : n0 ≤ x1) (z_x1 : x1 < h0.size) (G_value : Fld Z h0 x1 "java/lang/String" "value" "[B" u1) (G_coder : Fld Z h0 x1 "java/lang/String" "coder" "B" u2) (B1 : SBA Z h0 b1 t1 xs) : CtrN l Z (⟨"java/lang/String", "<init>", "(Ljava/lang/StringBuilder;)V"⟩ : MethodName) jdk_42_method_53_code 2 none [] rm_sini1 #[(.ref x1), (.ref b1)] h0 [x1] n0 (Q_sini1 Z x1 b1 t1 xs u1 u2 h0) := by
  refine enterN (a0 := a0) (plainFor_of_name pn_0) O0 (allS ⟨g_x1, z_x1⟩ all0) ?_
  intro p e s m below meth c T0 hx hby hml hrt hnm hlk A0
  replace A0 : Wk false Z a0 [] n0 h0 [x1] "java/lang/String" p l e rm_sini1 s m #[(.ref x1), (.ref b1)] below meth c [x1] T0 h0 0 0 := A0
  refine Run.st (T0.setTop (mkF m 0 #[.val (.ref x1), .val (.ref b1)] [])) (fun _ k => castTop (ef_sini1 m x1 b1) k) ?_
  refine Run.st (T0.setTop (mkF m 3 #[.val (.ref x1), .val (.ref b1)] [.null, (.ref b1), (.ref x1)])) (fun _ k => XS.aloadN A0.here hx rfl (hb hby d23_0) rfl rfl (XS.aloadN A0.here hx rfl (hb hby d23_1) rfl rfl (XS.aconstNull A0.here hx rfl (hb hby d23_2) k))) ?_
  obtain ⟨v136, T136, h136, AA136, K136, ⟨L136, Q136⟩, st136⟩ := A0.callI hx (y := (⟨"java/lang/String", "<init>", "(Ljava/lang/AbstractStringBuilder;Ljava/lang/Void;)V"⟩ : MethodName)) rfl (tw155 H.1) (tw156 H.1) (tw157 H.1) (by decide) (g := (mkF m 3 #[.val (.ref x1), .val (.ref b1)] [.null, (.ref b1), (.ref x1)])) rfl (by rw [hml]; rfl) x1 [(.ref b1), .null] [] (lenOf pd_16 rfl) rfl (Wd := 0) (by show 2 * 0 + _ ≤ _; exact Nat.le_of_eq rfl) (hb hby d23_3) (by decide) (by decide) [x1] (fun _ _ _ q => q.2) (allS (List.mem_of_getElem? (i := 0) rfl) all0) (fun vm0 hZ => payN (ct_sini2 H x1 b1 t1 xs u1 u2 A0.old E0 (A0.nle (List.mem_of_getElem? (i := 0) rfl)) E0.lt G_value G_coder B1) (tw157 H.1) (tw6 H.1) (by decide) (by decide) hZ)
  obtain ⟨Q136, N136, -⟩ := Q136
  obtain ⟨rfl, S136⟩ := Q136
  have A136 := AA136 [] all0
  refine Run.st (T136.setTop (mkF m 6 #[.val (.ref x1), .val (.ref b1)] [])) st136 ?_
  exact A136.leaveN hlk none (fun _ => rfl) (by decide) (by decide) ⟨rfl, S136⟩ (fun X hr => X.returnOut hx hrt (hb hby d23_6) hr)
theorem ef_tostr (m : MethodId) (y0 : Addr) : entryFrame m #[(.ref y0)] 1 = mkF m 0 #[.val (.ref y0)] [] := by first | (simp [entryFrame, mkF, argsToLocals, Value.category, maxLocals]; done) | rfl
def Q_tostr (Z : State) (b1 : Addr) (t1 : Addr) (xs : List Int32) (h0 : Heap) (v : Option Value) (h : Heap) : Prop := ∃ a : Addr, v = some (.ref a) ∧ Ext h0 h ∧ StrA Z h a xs
def rm_tostr : Room := { frames := 5, cells := 2, slots := 38, locals := 79 }
set_option maxRecDepth 65536 in
set_option maxHeartbeats 40000000 in
theorem ct_tostr {l : Launch} {Z : State} {a0 : Array Value} (H : Ev Z a0) (b1 : Addr) (t1 : Addr) (xs : List Int32) {h0 : Heap} {n0 : Nat} (O0 : Old Z n0 h0) (B1 : SBA Z h0 b1 t1 xs) : CtrN l Z (⟨"java/lang/StringBuilder", "toString", "()Ljava/lang/String;"⟩ : MethodName) jdk_67_method_42_code 1 (some (.object "java/lang/String")) [] rm_tostr #[(.ref b1)] h0 [] n0 (Q_tostr Z b1 t1 xs h0) := by
  refine enterN (a0 := a0) (plainFor_of_name pn_2) O0 all0 ?_
  intro p e s m below meth c T0 hx hby hml hrt hnm hlk A0
  replace A0 : Wk false Z a0 [] n0 h0 [] "java/lang/StringBuilder" p l e rm_tostr s m #[(.ref b1)] below meth c [] T0 h0 0 0 := A0
  refine Run.st (T0.setTop (mkF m 0 #[.val (.ref b1)] [])) (fun _ k => castTop (ef_tostr m b1) k) ?_
  obtain ⟨a137, T137, h137, A137, E137, g137, Ex137, D137, st137⟩ := A0.newO hx (tw151 H.1) (tw5 H.1) (tw6 H.1) (g := (mkF m 0 #[.val (.ref b1)] [])) rfl (hb hby d24_0) (by decide) (by decide)
  refine Run.st (T137.setTop (mkF m 3 #[.val (.ref b1)] [(.ref a137)])) st137 ?_
  refine Run.st (T137.setTop (mkF m 5 #[.val (.ref b1)] [(.ref b1), (.ref a137), (.ref a137)])) (fun _ k => XS.dup A137.here hx rfl (hb hby d24_3) rfl rfl (XS.aloadN A137.here hx rfl (hb hby d24_4) rfl rfl k)) ?_
  have F139 : Fld Z h137 a137 "java/lang/String" "value" "[B" .null := D137 (Or.inr (tw20 H.1)) (ty := (.array .byte)) (by decide)
  have F140 : Fld Z h137 a137 "java/lang/String" "coder" "B" (.int 0) := D137 (Or.inr (tw21 H.1)) (ty := .byte) (by decide)
  have X141 : Ext h0 h137 := E137
  have f142 := B1.ext X141
  obtain ⟨v138, T138, h138, AA138, K138, ⟨L138, Q138⟩, st138⟩ := A137.callI hx (y := (⟨"java/lang/String", "<init>", "(Ljava/lang/StringBuilder;)V"⟩ : MethodName)) rfl (tw152 H.1) (tw153 H.1) (tw154 H.1) (by decide) (g := (mkF m 5 #[.val (.ref b1)] [(.ref b1), (.ref a137), (.ref a137)])) rfl (by rw [hml]; rfl) a137 [(.ref b1)] [(.ref a137)] (lenOf pd_17 rfl) rfl (Wd := 1) (by show 2 * 0 + _ ≤ _; exact Nat.le_of_eq rfl) (hb hby d24_5) (by decide) (by decide) [a137] (fun _ _ _ q => q.2) (allS (List.mem_of_getElem? (i := 0) rfl) all0) (fun vm0 hZ => payN (ct_sini1 H a137 b1 t1 xs .null (.int 0) A137.old Ex137 (A137.nle (List.mem_of_getElem? (i := 0) rfl)) Ex137.lt F139 F140 f142) (tw154 H.1) (tw6 H.1) (by decide) (by decide) hZ)
  obtain ⟨Q138, N138, -⟩ := Q138
  obtain ⟨rfl, S138⟩ := Q138
  have A138 := AA138 [] all0
  refine Run.st (T138.setTop (mkF m 8 #[.val (.ref b1)] [(.ref a137)])) st138 ?_
  exact A138.leaveN hlk (some (.ref a137)) (fun q => by rw [hrt] at q; cases q) (by decide) (by decide) ⟨a137, rfl, keepE A138.keep, S138⟩ (fun X hr => retOut X hx (w := (.ref a137)) (t := (.object "java/lang/String")) hrt rfl (Or.inr (Or.inr (Or.inr (Or.inr ⟨rfl, rfl, rfl⟩)))) (hb hby d24_8) hr)
theorem ef_ini4 (m : MethodId) (y0 : Addr) (y1 : Addr) (y2 : Int32) (y3 : Int32) : entryFrame m #[(.ref y0), (.ref y1), (.int y2), (.int y3), .null] 6 = mkF m 0 #[.val (.ref y0), .val (.ref y1), .val (.int y2), .val (.int y3), .val .null, .unset] [] := by first | (simp [entryFrame, mkF, argsToLocals, Value.category, maxLocals]; done) | rfl
def Q_ini4 (Z : State) (a1 : Addr) (b1 : Addr) (u1 : Value) (u2 : Value) (h0 : Heap) (v : Option Value) (h : Heap) : Prop := v = none ∧ StrA Z h a1 []
def rm_ini4 : Room := { frames := 1, cells := 4, slots := 8, locals := 12 }
set_option maxRecDepth 65536 in
set_option maxHeartbeats 40000000 in
theorem ct_ini4 {l : Launch} {Z : State} {a0 : Array Value} (H : Ev Z a0) (a1 : Addr) (b1 : Addr) (u1 : Value) (u2 : Value) {h0 : Heap} {n0 : Nat} (O0 : Old Z n0 h0) (E1 : Exa Z h0 a1 "java/lang/String") (g_a1 : n0 ≤ a1) (z_a1 : a1 < h0.size) (F_value : Fld Z h0 a1 "java/lang/String" "value" "[B" u1) (F_coder : Fld Z h0 a1 "java/lang/String" "coder" "B" u2) : CtrW l Z EL (⟨"java/lang/String", "<init>", "([CIILjava/lang/Void;)V"⟩ : MethodName) jdk_42_method_149_code 6 none [] rm_ini4 #[(.ref a1), (.ref b1), (.int (0 : Int32)), (.int (0 : Int32)), .null] h0 [a1] n0 (Q_ini4 Z a1 b1 u1 u2 h0) := by
  refine enterW (a0 := a0) (plainFor_of_name pn_0) (elA H) O0 (allS ⟨g_a1, z_a1⟩ all0) ?_
  intro p e s m below meth c T0 hx hby hml hrt hnm hlk hh0 A0
  replace A0 : Wk true Z a0 EL n0 h0 [a1] "java/lang/String" p l e rm_ini4 s m #[(.ref a1), (.ref b1), (.int (0 : Int32)), (.int (0 : Int32)), .null] below meth c [a1] T0 h0 0 0 := A0
  refine Run.st (T0.setTop (mkF m 0 #[.val (.ref a1), .val (.ref b1), .val (.int (0 : Int32)), .val (.int (0 : Int32)), .val .null, .unset] [])) (fun _ k => castTop (ef_ini4 m a1 b1 (0 : Int32) (0 : Int32)) k) ?_
  refine Run.st (T0.setTop (mkF m 1 #[.val (.ref a1), .val (.ref b1), .val (.int (0 : Int32)), .val (.int (0 : Int32)), .val .null, .unset] [(.ref a1)])) (fun _ k => XS.aloadN A0.here hx rfl (hb hby d25_0) rfl rfl k) ?_
  obtain ⟨T143, A143, st143⟩ := A0.initO hx (tw15 H.1) (tw16 H.1) (tw17 H.1) (g := (mkF m 1 #[.val (.ref a1), .val (.ref b1), .val (.int (0 : Int32)), .val (.int (0 : Int32)), .val .null, .unset] [(.ref a1)])) rfl (by rw [hml]; rfl) rfl (hb hby d25_1) (by decide) (Wd := 0) (by show 2 * 0 + _ ≤ _; exact Nat.le_of_eq rfl) (by decide)
  refine Run.st (T143.setTop (mkF m 4 #[.val (.ref a1), .val (.ref b1), .val (.int (0 : Int32)), .val (.int (0 : Int32)), .val .null, .unset] [])) st143 ?_
  refine Run.st (T143.setTop (mkF m 9 #[.val (.ref a1), .val (.ref b1), .val (.int (0 : Int32)), .val (.int (0 : Int32)), .val .null, .unset] [(.ref a1)])) (fun _ k => XS.iloadN A143.here hx rfl (hb hby d25_4) rfl (XS.ifNo A143.here hx rfl (hb hby d25_5) rfl (by decide) (XS.aloadN A143.here hx rfl (hb hby d25_8) rfl rfl k))) ?_
  obtain ⟨a144, b144, kA144, T144, h144, A144, E144, Ex144, Fc144, Fv144, Va144, ne144, st144⟩ := A143.ldc hx (tw18 H.1) (strsA H) (List.mem_of_getElem? (i := 7) rfl) (vs := (([] : List Int32).map fun c => c.toInt8.toInt32).map Value.int) (z := (0 : Int32)) ⟨by decide, by decide +kernel⟩ (by decide) (by decide +kernel) (g := (mkF m 9 #[.val (.ref a1), .val (.ref b1), .val (.int (0 : Int32)), .val (.int (0 : Int32)), .val .null, .unset] [(.ref a1)])) rfl (hb hby d25_9) (q := 0) (by decide) (by decide) (by decide) (by decide)
  have S144 : StrA Z h144 a144 [] := ⟨Ex144, Fc144, ⟨b144, kA144, Fv144, Va144⟩, by decide, by decide⟩
  refine Run.st (T144.setTop (mkF m 11 #[.val (.ref a1), .val (.ref b1), .val (.int (0 : Int32)), .val (.int (0 : Int32)), .val .null, .unset] [(.ref a144), (.ref a1)])) st144 ?_
  obtain ⟨T145, A145, st145⟩ := A144.getF hx (tw24 H.1) Via.refl Fv144 (g := (mkF m 11 #[.val (.ref a1), .val (.ref b1), .val (.int (0 : Int32)), .val (.int (0 : Int32)), .val .null, .unset] [(.ref a144), (.ref a1)])) rfl rfl (hb hby d25_11)
  refine Run.st (T145.setTop (mkF m 14 #[.val (.ref a1), .val (.ref b1), .val (.int (0 : Int32)), .val (.int (0 : Int32)), .val .null, .unset] [(.ref b144), (.ref a1)])) st145 ?_
  have X147 : Ext h0 h144 := E144
  have f148 := F_value.ext X147
  have f149 := E1.ext X147
  obtain ⟨T146, h146, A146, K146, W146, st146⟩ := A145.putF hx (tw24 H.1) Via.refl (a := a1) (List.mem_of_getElem? (i := 0) rfl) (v' := (.ref b144)) f148 f149 (Or.inr ⟨(tw20 H.1), rfl, hnm⟩) (tw5 H.1) (ty := (.array .byte)) (by decide) rfl rfl (g := (mkF m 14 #[.val (.ref a1), .val (.ref b1), .val (.int (0 : Int32)), .val (.int (0 : Int32)), .val .null, .unset] [(.ref b144), (.ref a1)])) rfl rfl (hb hby d25_14)
  have F146 : Fld Z h146 a1 "java/lang/String" "value" "[B" (.ref b144) := f148.same W146
  refine Run.st (T146.setTop (mkF m 17 #[.val (.ref a1), .val (.ref b1), .val (.int (0 : Int32)), .val (.int (0 : Int32)), .val .null, .unset] [])) st146 ?_
  refine Run.st (T146.setTop (mkF m 18 #[.val (.ref a1), .val (.ref b1), .val (.int (0 : Int32)), .val (.int (0 : Int32)), .val .null, .unset] [(.ref a1)])) (fun _ k => XS.aloadN A146.here hx rfl (hb hby d25_17) rfl rfl k) ?_
  obtain ⟨a150, b150, kA150, T150, h150, A150, E150, Ex150, Fc150, Fv150, Va150, ne150, st150⟩ := A146.ldc hx (tw18 H.1) (strsA H) (List.mem_of_getElem? (i := 7) rfl) (vs := (([] : List Int32).map fun c => c.toInt8.toInt32).map Value.int) (z := (0 : Int32)) ⟨by decide, by decide +kernel⟩ (by decide) (by decide +kernel) (g := (mkF m 18 #[.val (.ref a1), .val (.ref b1), .val (.int (0 : Int32)), .val (.int (0 : Int32)), .val .null, .unset] [(.ref a1)])) rfl (hb hby d25_18) (q := 0) (by decide) (by decide) (by decide) (by decide)
  have S150 : StrA Z h150 a150 [] := ⟨Ex150, Fc150, ⟨b150, kA150, Fv150, Va150⟩, by decide, by decide⟩
  refine Run.st (T150.setTop (mkF m 20 #[.val (.ref a1), .val (.ref b1), .val (.int (0 : Int32)), .val (.int (0 : Int32)), .val .null, .unset] [(.ref a150), (.ref a1)])) st150 ?_
  obtain ⟨T151, A151, st151⟩ := A150.getF hx (tw25 H.1) Via.refl Fc150 (g := (mkF m 20 #[.val (.ref a1), .val (.ref b1), .val (.int (0 : Int32)), .val (.int (0 : Int32)), .val .null, .unset] [(.ref a150), (.ref a1)])) rfl rfl (hb hby d25_20)
  refine Run.st (T151.setTop (mkF m 23 #[.val (.ref a1), .val (.ref b1), .val (.int (0 : Int32)), .val (.int (0 : Int32)), .val .null, .unset] [(.int (0 : Int32)), (.ref a1)])) st151 ?_
  have f153 := (((F_coder.ext E144).other W146 (Or.inr (slot_ne (Or.inr (tw21 H.1)) (Or.inr (tw20 H.1)) (by decide) (t := .byte) (t' := (.array .byte)) (by decide) (by decide)))).ext E150)
  have f154 := (((E1.ext E144).wr W146).ext E150)
  obtain ⟨T152, h152, A152, K152, W152, st152⟩ := A151.putF hx (tw25 H.1) Via.refl (a := a1) (List.mem_of_getElem? (i := 0) rfl) (v' := (.int (0 : Int32))) f153 f154 (Or.inr ⟨(tw21 H.1), rfl, hnm⟩) (tw5 H.1) (ty := .byte) (by decide) rfl rfl (g := (mkF m 23 #[.val (.ref a1), .val (.ref b1), .val (.int (0 : Int32)), .val (.int (0 : Int32)), .val .null, .unset] [(.int (0 : Int32)), (.ref a1)])) rfl rfl (hb hby d25_23)
  have F152 : Fld Z h152 a1 "java/lang/String" "coder" "B" (.int (0 : Int32)) := f153.same W152
  refine Run.st (T152.setTop (mkF m 26 #[.val (.ref a1), .val (.ref b1), .val (.int (0 : Int32)), .val (.int (0 : Int32)), .val .null, .unset] [])) st152 ?_
  have f155 := ((((E1.ext E144).wr W146).ext E150).wr W152)
  have f156 := ((F146.ext E150).other W152 (Or.inr (slot_ne (Or.inr (tw20 H.1)) (Or.inr (tw21 H.1)) (by decide) (t := (.array .byte)) (t' := .byte) (by decide) (by decide))))
  have f157 := (((Va144.keep K146 (ninS (Ne.symm (ne144 a1 (List.mem_of_getElem? (i := 0) rfl)).2) nin0)).ext E150).keep K152 (ninS (Ne.symm (ne144 a1 (List.mem_of_getElem? (i := 0) rfl)).2) nin0))
  exact A152.leaveW hlk hh0 none (fun _ => rfl) (by decide) (by decide) ⟨rfl, f155, F152, ⟨_, _, f156, f157⟩, chs0, by decide⟩ (fun X hr => X.returnOut hx hrt (hb hby d25_26) hr)
theorem ef_ini1 (m : MethodId) (y0 : Addr) (y1 : Addr) : entryFrame m #[(.ref y0), (.ref y1)] 2 = mkF m 0 #[.val (.ref y0), .val (.ref y1)] [] := by first | (simp [entryFrame, mkF, argsToLocals, Value.category, maxLocals]; done) | rfl
def Q_ini1 (Z : State) (a1 : Addr) (b1 : Addr) (u1 : Value) (u2 : Value) (kC : ClassId) (dv : Value) (h0 : Heap) (v : Option Value) (h : Heap) : Prop := v = none ∧ StrA Z h a1 []
def rm_ini1 : Room := { frames := 2, cells := 4, slots := 8, locals := 29 }
set_option maxRecDepth 65536 in
set_option maxHeartbeats 40000000 in
theorem ct_ini1 {l : Launch} {Z : State} {a0 : Array Value} (H : Ev Z a0) (a1 : Addr) (b1 : Addr) (u1 : Value) (u2 : Value) (kC : ClassId) (dv : Value) {h0 : Heap} {n0 : Nat} (O0 : Old Z n0 h0) (E1 : Exa Z h0 a1 "java/lang/String") (g_a1 : n0 ≤ a1) (z_a1 : a1 < h0.size) (F_value : Fld Z h0 a1 "java/lang/String" "value" "[B" u1) (F_coder : Fld Z h0 a1 "java/lang/String" "coder" "B" u2) (Vb1 : Arv Z h0 b1 kC .char (0 : Int32) [] dv) : CtrW l Z EL (⟨"java/lang/String", "<init>", "([C)V"⟩ : MethodName) jdk_42_method_3_code 2 none [] rm_ini1 #[(.ref a1), (.ref b1)] h0 [a1] n0 (Q_ini1 Z a1 b1 u1 u2 kC dv h0) := by
  refine enterW (a0 := a0) (plainFor_of_name pn_0) (elA H) O0 (allS ⟨g_a1, z_a1⟩ all0) ?_
  intro p e s m below meth c T0 hx hby hml hrt hnm hlk hh0 A0
  replace A0 : Wk true Z a0 EL n0 h0 [a1] "java/lang/String" p l e rm_ini1 s m #[(.ref a1), (.ref b1)] below meth c [a1] T0 h0 0 0 := A0
  refine Run.st (T0.setTop (mkF m 0 #[.val (.ref a1), .val (.ref b1)] [])) (fun _ k => castTop (ef_ini1 m a1 b1) k) ?_
  refine Run.st (T0.setTop (mkF m 4 #[.val (.ref a1), .val (.ref b1)] [(.ref b1), (.int (0 : Int32)), (.ref b1), (.ref a1)])) (fun _ k => XS.aloadN A0.here hx rfl (hb hby d26_0) rfl rfl (XS.aloadN A0.here hx rfl (hb hby d26_1) rfl rfl (XS.iconst A0.here hx rfl (hb hby d26_2) (XS.aloadN A0.here hx rfl (hb hby d26_3) rfl rfl k)))) ?_
  refine Run.st (T0.setTop (mkF m 5 #[.val (.ref a1), .val (.ref b1)] [(.int (0 : Int32)), (.int (0 : Int32)), (.ref b1), (.ref a1)])) (A0.alen hx Vb1 (g := (mkF m 4 #[.val (.ref a1), .val (.ref b1)] [(.ref b1), (.int (0 : Int32)), (.ref b1), (.ref a1)])) rfl rfl (hb hby d26_4)) ?_
  refine Run.st (T0.setTop (mkF m 6 #[.val (.ref a1), .val (.ref b1)] [.null, (.int (0 : Int32)), (.int (0 : Int32)), (.ref b1), (.ref a1)])) (fun _ k => XS.aconstNull A0.here hx rfl (hb hby d26_5) k) ?_
  obtain ⟨v158, T158, h158, A158, K158, ⟨L158, Q158⟩, st158⟩ := A0.callIW hx (y := (⟨"java/lang/String", "<init>", "([CIILjava/lang/Void;)V"⟩ : MethodName)) rfl (tw11 H.1) (tw12 H.1) (tw14 H.1) (by decide) (g := (mkF m 6 #[.val (.ref a1), .val (.ref b1)] [.null, (.int (0 : Int32)), (.int (0 : Int32)), (.ref b1), (.ref a1)])) rfl (by rw [hml]; rfl) a1 [(.ref b1), (.int (0 : Int32)), (.int (0 : Int32)), .null] [] (lenOf pd_18 rfl) rfl (Wd := 0) (by show 2 * 0 + _ ≤ _; exact Nat.le_of_eq rfl) (hb hby d26_6) (by decide) (by decide) [a1] (fun _ _ _ q => q.2) (allS (List.mem_of_getElem? (i := 0) rfl) all0) (fun vm0 hZ hE hC hS => payW (ct_ini4 H a1 b1 u1 u2 A0.old E1 (A0.nle (List.mem_of_getElem? (i := 0) rfl)) E1.lt F_value F_coder) (tw14 H.1) (tw6 H.1) (by decide) (by decide) hZ hE hC hS)
  obtain ⟨Q158, N158, -⟩ := Q158
  obtain ⟨rfl, S158⟩ := Q158
  refine Run.st (T158.setTop (mkF m 9 #[.val (.ref a1), .val (.ref b1)] [])) st158 ?_
  exact A158.leaveW hlk hh0 none (fun _ => rfl) (by decide) (by decide) ⟨rfl, S158⟩ (fun X hr => X.returnOut hx hrt (hb hby d26_9) hr)
theorem ef_make (m : MethodId) (y0 : Int32) (y1 : Int32) : entryFrame m #[(.int y0), (.int y1)] 4 = mkF m 0 #[.val (.int y0), .val (.int y1), .unset, .unset] [] := by first | (simp [entryFrame, mkF, argsToLocals, Value.category, maxLocals]; done) | rfl
def Q_make (Z : State) (p0 : Int32) (p1 : Int32) (h0 : Heap) (v : Option Value) (h : Heap) : Prop := ∃ (w : Value) (o : Option (List Int32)), v = some w ∧ Ext h0 h ∧ OStr Z h w o
def rm_make : Room := { frames := 4, cells := 6, slots := 12, locals := 66 }
set_option maxRecDepth 65536 in
set_option maxHeartbeats 40000000 in
theorem ct_make {l : Launch} {Z : State} {a0 : Array Value} (H : Ev Z a0) (p0 : Int32) (p1 : Int32) {h0 : Heap} {n0 : Nat} (O0 : Old Z n0 h0) : CtrW l Z EL (⟨"com/example/gate_to_handlers/gatetohandlers/ObjectErrorToStringPinLaw", "make", "(II)Ljava/lang/String;"⟩ : MethodName) method_2_code 4 (some (.object "java/lang/String")) [] rm_make #[(.int p0), (.int p1)] h0 [] n0 (Q_make Z p0 p1 h0) := by
  refine enterW (a0 := a0) (plainFor_of_name pn_5) (elA H) O0 all0 ?_
  intro p e s m below meth c T0 hx hby hml hrt hnm hlk hh0 A0
  replace A0 : Wk true Z a0 EL n0 h0 [] "com/example/gate_to_handlers/gatetohandlers/ObjectErrorToStringPinLaw" p l e rm_make s m #[(.int p0), (.int p1)] below meth c [] T0 h0 0 0 := A0
  refine Run.st (T0.setTop (mkF m 0 #[.val (.int p0), .val (.int p1), .unset, .unset] [])) (fun _ k => castTop (ef_make m p0 p1) k) ?_
  refine Run.st (T0.setTop (mkF m 1 #[.val (.int p0), .val (.int p1), .unset, .unset] [(.int p1)])) (fun _ k => XS.iloadN A0.here hx rfl (hb hby d27_0) rfl k) ?_
  by_cases c159 : p1 = (0 : Int32)
  · refine Run.st (T0.setTop (mkF m 5 #[.val (.int p0), .val (.int p1), .unset, .unset] [.null])) (fun _ k => XS.ifNo A0.here hx rfl (hb hby d27_1) rfl (by rw [if0]; exact (teq c159).2) (XS.aconstNull A0.here hx rfl (hb hby d27_4) k)) ?_
    exact A0.leaveW hlk hh0 (some .null) (fun q => by rw [hrt] at q; cases q) (by decide) (by decide) ⟨_, _, rfl, keepE A0.keep, Or.inl ⟨rfl, rfl⟩⟩ (fun X hr => retOut X hx (w := .null) (t := (.object "java/lang/String")) hrt rfl (Or.inr (Or.inr (Or.inr (Or.inr ⟨rfl, rfl, rfl⟩)))) (hb hby d27_5) hr)
  · refine Run.st (T0.setTop (mkF m 8 #[.val (.int p0), .val (.int p1), .unset, .unset] [(.int (1 : Int32)), (.int p1)])) (fun _ k => XS.ifYes A0.here hx rfl (pc0 := 1) (pc' := 6) rfl (hb hby d27_1) rfl (by rw [if0]; exact (feq c159).2) (by decide) (by decide) (XS.iloadN A0.here hx rfl (hb hby d27_6) rfl (XS.iconst A0.here hx rfl (hb hby d27_7) k))) ?_
    by_cases c160 : p1 = (1 : Int32)
    · refine Run.st (T0.setTop (mkF m 11 #[.val (.int p0), .val (.int p1), .unset, .unset] [])) (fun _ k => XS.icmpNo A0.here hx rfl (hb hby d27_8) rfl (teq c160).2 k) ?_
      obtain ⟨a161, T161, h161, A161, E161, g161, Ex161, D161, st161⟩ := A0.newO hx (tw4 H.1) (tw5 H.1) (tw6 H.1) (g := (mkF m 11 #[.val (.int p0), .val (.int p1), .unset, .unset] [])) rfl (hb hby d27_11) (by decide) (by decide)
      refine Run.st (T161.setTop (mkF m 14 #[.val (.int p0), .val (.int p1), .unset, .unset] [(.ref a161)])) st161 ?_
      refine Run.st (T161.setTop (mkF m 16 #[.val (.int p0), .val (.int p1), .unset, .unset] [(.int (0 : Int32)), (.ref a161), (.ref a161)])) (fun _ k => XS.dup A161.here hx rfl (hb hby d27_14) rfl rfl (XS.iconst A161.here hx rfl (hb hby d27_15) k)) ?_
      obtain ⟨a162, T162, h162, kA162, A162, E162, g162, V162, st162⟩ := A161.newP hx (aty := .char) (N := (0 : Int32)) (tw7 H.1) (g := (mkF m 16 #[.val (.int p0), .val (.int p1), .unset, .unset] [(.int (0 : Int32)), (.ref a161), (.ref a161)])) rfl (hb hby d27_16) rfl (by decide) (cap := 0) (by decide) (by decide) (by decide) (by decide)
      refine Run.st (T162.setTop (mkF m 18 #[.val (.int p0), .val (.int p1), .unset, .unset] [(.ref a162), (.ref a161), (.ref a161)])) st162 ?_
      have F164 : Fld Z h161 a161 "java/lang/String" "value" "[B" .null := D161 (Or.inr (tw20 H.1)) (ty := (.array .byte)) (by decide)
      have F165 : Fld Z h161 a161 "java/lang/String" "coder" "B" (.int 0) := D161 (Or.inr (tw21 H.1)) (ty := .byte) (by decide)
      have X166 : Ext h161 h162 := E162
      have f167 := Ex161.ext X166
      have f168 := F164.ext X166
      have f169 := F165.ext X166
      obtain ⟨v163, T163, h163, A163, K163, ⟨L163, Q163⟩, st163⟩ := A162.callIW hx (y := (⟨"java/lang/String", "<init>", "([C)V"⟩ : MethodName)) rfl (tw8 H.1) (tw9 H.1) (tw10 H.1) (by decide) (g := (mkF m 18 #[.val (.int p0), .val (.int p1), .unset, .unset] [(.ref a162), (.ref a161), (.ref a161)])) rfl (by rw [hml]; rfl) a161 [(.ref a162)] [(.ref a161)] (lenOf pd_19 rfl) rfl (Wd := 1) (by show 2 * 0 + _ ≤ _; exact Nat.le_of_eq rfl) (hb hby d27_18) (by decide) (by decide) [a161] (fun _ _ _ q => q.2) (allS (List.mem_of_getElem? (i := 1) rfl) all0) (fun vm0 hZ hE hC hS => payW (ct_ini1 H a161 a162 .null (.int 0) _ _ A162.old f167 (A162.nle (List.mem_of_getElem? (i := 1) rfl)) f167.lt f168 f169 V162) (tw10 H.1) (tw6 H.1) (by decide) (by decide) hZ hE hC hS)
      obtain ⟨Q163, N163, -⟩ := Q163
      obtain ⟨rfl, S163⟩ := Q163
      refine Run.st (T163.setTop (mkF m 21 #[.val (.int p0), .val (.int p1), .unset, .unset] [(.ref a161)])) st163 ?_
      exact A163.leaveW hlk hh0 (some (.ref a161)) (fun q => by rw [hrt] at q; cases q) (by decide) (by decide) ⟨_, _, rfl, keepE A163.keep, Or.inr ⟨_, _, rfl, rfl, S163, Nat.le_of_ble_eq_true rfl⟩⟩ (fun X hr => retOut X hx (w := (.ref a161)) (t := (.object "java/lang/String")) hrt rfl (Or.inr (Or.inr (Or.inr (Or.inr ⟨rfl, rfl, rfl⟩)))) (hb hby d27_21) hr)
    · refine Run.st (T0.setTop (mkF m 33 #[.val (.int p0), .val (.int p1), .val (.int ((p0 &&& (255 : Int32)).toUInt32.toUInt16.toUInt32.toInt32)), .unset] [(.int (XT.ushr p0 (8 : Int32)))])) (fun _ k => XS.icmpYes A0.here hx rfl (pc0 := 8) (pc' := 22) rfl (hb hby d27_8) rfl (feq c160).2 (by decide) (by decide) (XS.iloadN A0.here hx rfl (hb hby d27_22) rfl (XS.sipush A0.here hx rfl (hb hby d27_23) (XS.iand A0.here hx rfl (hb hby d27_26) rfl (XS.i2c A0.here hx rfl (hb hby d27_27) rfl (XS.istoreN A0.here hx rfl (hb hby d27_28) rfl (l' := #[.val (.int p0), .val (.int p1), .val (.int ((p0 &&& (255 : Int32)).toUInt32.toUInt16.toUInt32.toInt32)), .unset]) rfl (XS.iloadN A0.here hx rfl (hb hby d27_29) rfl (XS.bipush A0.here hx rfl (hb hby d27_30) (XT.iushr A0.here hx rfl (hb hby d27_32) rfl k))))))))) ?_
      refine Run.st (T0.setTop (mkF m 41 #[.val (.int p0), .val (.int p1), .val (.int ((p0 &&& (255 : Int32)).toUInt32.toUInt16.toUInt32.toInt32)), .val (.int (((XT.ushr p0 (8 : Int32)) &&& (255 : Int32)).toUInt32.toUInt16.toUInt32.toInt32))] [(.int (2 : Int32)), (.int p1)])) (fun _ k => XS.sipush A0.here hx rfl (hb hby d27_33) (XS.iand A0.here hx rfl (hb hby d27_36) rfl (XS.i2c A0.here hx rfl (hb hby d27_37) rfl (XS.istoreN A0.here hx rfl (hb hby d27_38) rfl (l' := #[.val (.int p0), .val (.int p1), .val (.int ((p0 &&& (255 : Int32)).toUInt32.toUInt16.toUInt32.toInt32)), .val (.int (((XT.ushr p0 (8 : Int32)) &&& (255 : Int32)).toUInt32.toUInt16.toUInt32.toInt32))]) rfl (XS.iloadN A0.here hx rfl (hb hby d27_39) rfl (XS.iconst A0.here hx rfl (hb hby d27_40) k)))))) ?_
      by_cases c170 : p1 = (2 : Int32)
      · refine Run.st (T0.setTop (mkF m 44 #[.val (.int p0), .val (.int p1), .val (.int ((p0 &&& (255 : Int32)).toUInt32.toUInt16.toUInt32.toInt32)), .val (.int (((XT.ushr p0 (8 : Int32)) &&& (255 : Int32)).toUInt32.toUInt16.toUInt32.toInt32))] [])) (fun _ k => XS.icmpNo A0.here hx rfl (hb hby d27_41) rfl (teq c170).2 k) ?_
        obtain ⟨a171, T171, h171, A171, E171, g171, Ex171, D171, st171⟩ := A0.newO hx (tw4 H.1) (tw5 H.1) (tw6 H.1) (g := (mkF m 44 #[.val (.int p0), .val (.int p1), .val (.int ((p0 &&& (255 : Int32)).toUInt32.toUInt16.toUInt32.toInt32)), .val (.int (((XT.ushr p0 (8 : Int32)) &&& (255 : Int32)).toUInt32.toUInt16.toUInt32.toInt32))] [])) rfl (hb hby d27_44) (by decide) (by decide)
        refine Run.st (T171.setTop (mkF m 47 #[.val (.int p0), .val (.int p1), .val (.int ((p0 &&& (255 : Int32)).toUInt32.toUInt16.toUInt32.toInt32)), .val (.int (((XT.ushr p0 (8 : Int32)) &&& (255 : Int32)).toUInt32.toUInt16.toUInt32.toInt32))] [(.ref a171)])) st171 ?_
        refine Run.st (T171.setTop (mkF m 49 #[.val (.int p0), .val (.int p1), .val (.int ((p0 &&& (255 : Int32)).toUInt32.toUInt16.toUInt32.toInt32)), .val (.int (((XT.ushr p0 (8 : Int32)) &&& (255 : Int32)).toUInt32.toUInt16.toUInt32.toInt32))] [(.int (1 : Int32)), (.ref a171), (.ref a171)])) (fun _ k => XS.dup A171.here hx rfl (hb hby d27_47) rfl rfl (XS.iconst A171.here hx rfl (hb hby d27_48) k)) ?_
        obtain ⟨a172, T172, h172, kA172, A172, E172, g172, V172, st172⟩ := A171.newP hx (aty := .char) (N := (1 : Int32)) (tw7 H.1) (g := (mkF m 49 #[.val (.int p0), .val (.int p1), .val (.int ((p0 &&& (255 : Int32)).toUInt32.toUInt16.toUInt32.toInt32)), .val (.int (((XT.ushr p0 (8 : Int32)) &&& (255 : Int32)).toUInt32.toUInt16.toUInt32.toInt32))] [(.int (1 : Int32)), (.ref a171), (.ref a171)])) rfl (hb hby d27_49) rfl (by decide) (cap := 1) (by decide) (by decide) (by decide) (by decide)
        refine Run.st (T172.setTop (mkF m 51 #[.val (.int p0), .val (.int p1), .val (.int ((p0 &&& (255 : Int32)).toUInt32.toUInt16.toUInt32.toInt32)), .val (.int (((XT.ushr p0 (8 : Int32)) &&& (255 : Int32)).toUInt32.toUInt16.toUInt32.toInt32))] [(.ref a172), (.ref a171), (.ref a171)])) st172 ?_
        refine Run.st (T172.setTop (mkF m 54 #[.val (.int p0), .val (.int p1), .val (.int ((p0 &&& (255 : Int32)).toUInt32.toUInt16.toUInt32.toInt32)), .val (.int (((XT.ushr p0 (8 : Int32)) &&& (255 : Int32)).toUInt32.toUInt16.toUInt32.toInt32))] [(.int ((p0 &&& (255 : Int32)).toUInt32.toUInt16.toUInt32.toInt32)), (.int (0 : Int32)), (.ref a172), (.ref a172), (.ref a171), (.ref a171)])) (fun _ k => XS.dup A172.here hx rfl (hb hby d27_51) rfl rfl (XS.iconst A172.here hx rfl (hb hby d27_52) (XS.iloadN A172.here hx rfl (hb hby d27_53) rfl k))) ?_
        obtain ⟨T173, h173, A173, K173, V173, st173⟩ := A172.stC hx V172 (List.mem_of_getElem? (i := 0) rfl) (j := (0 : Int32)) 0 rfl ⟨by decide, by decide⟩ (Nat.le_of_ble_eq_true rfl) (g := (mkF m 54 #[.val (.int p0), .val (.int p1), .val (.int ((p0 &&& (255 : Int32)).toUInt32.toUInt16.toUInt32.toInt32)), .val (.int (((XT.ushr p0 (8 : Int32)) &&& (255 : Int32)).toUInt32.toUInt16.toUInt32.toInt32))] [(.int ((p0 &&& (255 : Int32)).toUInt32.toUInt16.toUInt32.toInt32)), (.int (0 : Int32)), (.ref a172), (.ref a172), (.ref a171), (.ref a171)])) rfl rfl (hb hby d27_54)
        refine Run.st (T173.setTop (mkF m 55 #[.val (.int p0), .val (.int p1), .val (.int ((p0 &&& (255 : Int32)).toUInt32.toUInt16.toUInt32.toInt32)), .val (.int (((XT.ushr p0 (8 : Int32)) &&& (255 : Int32)).toUInt32.toUInt16.toUInt32.toInt32))] [(.ref a172), (.ref a171), (.ref a171)])) st173 ?_
        have V175 : Arv Z h173 a172 kA172 .char (1 : Int32) [(.int (nar .char ((p0 &&& (255 : Int32)).toUInt32.toUInt16.toUInt32.toInt32)))] (.int (0 : Int32)) := V173
        rw [c8n p0] at V175
        have X176 : Ext h171 h172 := E172
        have X177 : Ext h171 h173 := extK X176 K173 (allS (Nat.le_of_eq g172) all0)
        have f178 := Ex171.ext X177
        have F179 : Fld Z h171 a171 "java/lang/String" "value" "[B" .null := D171 (Or.inr (tw20 H.1)) (ty := (.array .byte)) (by decide)
        have f180 := F179.ext X177
        have F181 : Fld Z h171 a171 "java/lang/String" "coder" "B" (.int 0) := D171 (Or.inr (tw21 H.1)) (ty := .byte) (by decide)
        have f182 := F181.ext X177
        obtain ⟨v174, T174, h174, AA174, K174, ⟨L174, Q174⟩, st174⟩ := A173.callI hx (y := (⟨"java/lang/String", "<init>", "([C)V"⟩ : MethodName)) rfl (tw8 H.1) (tw9 H.1) (tw10 H.1) (by decide) (g := (mkF m 55 #[.val (.int p0), .val (.int p1), .val (.int ((p0 &&& (255 : Int32)).toUInt32.toUInt16.toUInt32.toInt32)), .val (.int (((XT.ushr p0 (8 : Int32)) &&& (255 : Int32)).toUInt32.toUInt16.toUInt32.toInt32))] [(.ref a172), (.ref a171), (.ref a171)])) rfl (by rw [hml]; rfl) a171 [(.ref a172)] [(.ref a171)] (lenOf pd_19 rfl) rfl (Wd := 1) (by show 2 * 0 + _ ≤ _; exact Nat.le_of_eq rfl) (hb hby d27_55) (by decide) (by decide) [a171] (fun _ _ _ q => q.2.1) (allS (List.mem_of_getElem? (i := 1) rfl) all0) (fun vm0 hZ => payStr (nn := 1) H A173.old (A173.nle (List.mem_of_getElem? (i := 1) rfl)) f178 f180 f182 (cs := [(p0 &&& (255 : Int32))]) V175 rfl rfl (by decide) (by decide) (chsS (c8r p0) chs0) (by decide) (by decide) hZ)
        obtain ⟨rfl, -, S174⟩ := Q174
        have A174 := AA174 [] all0
        refine Run.st (T174.setTop (mkF m 58 #[.val (.int p0), .val (.int p1), .val (.int ((p0 &&& (255 : Int32)).toUInt32.toUInt16.toUInt32.toInt32)), .val (.int (((XT.ushr p0 (8 : Int32)) &&& (255 : Int32)).toUInt32.toUInt16.toUInt32.toInt32))] [(.ref a171)])) st174 ?_
        exact A174.leaveW hlk hh0 (some (.ref a171)) (fun q => by rw [hrt] at q; cases q) (by decide) (by decide) ⟨_, _, rfl, keepE A174.keep, Or.inr ⟨_, _, rfl, rfl, S174, Nat.le_of_ble_eq_true rfl⟩⟩ (fun X hr => retOut X hx (w := (.ref a171)) (t := (.object "java/lang/String")) hrt rfl (Or.inr (Or.inr (Or.inr (Or.inr ⟨rfl, rfl, rfl⟩)))) (hb hby d27_58) hr)
      · refine Run.st (T0.setTop (mkF m 59 #[.val (.int p0), .val (.int p1), .val (.int ((p0 &&& (255 : Int32)).toUInt32.toUInt16.toUInt32.toInt32)), .val (.int (((XT.ushr p0 (8 : Int32)) &&& (255 : Int32)).toUInt32.toUInt16.toUInt32.toInt32))] [])) (fun _ k => XS.icmpYes A0.here hx rfl (pc0 := 41) (pc' := 59) rfl (hb hby d27_41) rfl (feq c170).2 (by decide) (by decide) k) ?_
        obtain ⟨a183, T183, h183, A183, E183, g183, Ex183, D183, st183⟩ := A0.newO hx (tw4 H.1) (tw5 H.1) (tw6 H.1) (g := (mkF m 59 #[.val (.int p0), .val (.int p1), .val (.int ((p0 &&& (255 : Int32)).toUInt32.toUInt16.toUInt32.toInt32)), .val (.int (((XT.ushr p0 (8 : Int32)) &&& (255 : Int32)).toUInt32.toUInt16.toUInt32.toInt32))] [])) rfl (hb hby d27_59) (by decide) (by decide)
        refine Run.st (T183.setTop (mkF m 62 #[.val (.int p0), .val (.int p1), .val (.int ((p0 &&& (255 : Int32)).toUInt32.toUInt16.toUInt32.toInt32)), .val (.int (((XT.ushr p0 (8 : Int32)) &&& (255 : Int32)).toUInt32.toUInt16.toUInt32.toInt32))] [(.ref a183)])) st183 ?_
        refine Run.st (T183.setTop (mkF m 64 #[.val (.int p0), .val (.int p1), .val (.int ((p0 &&& (255 : Int32)).toUInt32.toUInt16.toUInt32.toInt32)), .val (.int (((XT.ushr p0 (8 : Int32)) &&& (255 : Int32)).toUInt32.toUInt16.toUInt32.toInt32))] [(.int (2 : Int32)), (.ref a183), (.ref a183)])) (fun _ k => XS.dup A183.here hx rfl (hb hby d27_62) rfl rfl (XS.iconst A183.here hx rfl (hb hby d27_63) k)) ?_
        obtain ⟨a184, T184, h184, kA184, A184, E184, g184, V184, st184⟩ := A183.newP hx (aty := .char) (N := (2 : Int32)) (tw7 H.1) (g := (mkF m 64 #[.val (.int p0), .val (.int p1), .val (.int ((p0 &&& (255 : Int32)).toUInt32.toUInt16.toUInt32.toInt32)), .val (.int (((XT.ushr p0 (8 : Int32)) &&& (255 : Int32)).toUInt32.toUInt16.toUInt32.toInt32))] [(.int (2 : Int32)), (.ref a183), (.ref a183)])) rfl (hb hby d27_64) rfl (by decide) (cap := 2) (by decide) (by decide) (by decide) (by decide)
        refine Run.st (T184.setTop (mkF m 66 #[.val (.int p0), .val (.int p1), .val (.int ((p0 &&& (255 : Int32)).toUInt32.toUInt16.toUInt32.toInt32)), .val (.int (((XT.ushr p0 (8 : Int32)) &&& (255 : Int32)).toUInt32.toUInt16.toUInt32.toInt32))] [(.ref a184), (.ref a183), (.ref a183)])) st184 ?_
        refine Run.st (T184.setTop (mkF m 69 #[.val (.int p0), .val (.int p1), .val (.int ((p0 &&& (255 : Int32)).toUInt32.toUInt16.toUInt32.toInt32)), .val (.int (((XT.ushr p0 (8 : Int32)) &&& (255 : Int32)).toUInt32.toUInt16.toUInt32.toInt32))] [(.int ((p0 &&& (255 : Int32)).toUInt32.toUInt16.toUInt32.toInt32)), (.int (0 : Int32)), (.ref a184), (.ref a184), (.ref a183), (.ref a183)])) (fun _ k => XS.dup A184.here hx rfl (hb hby d27_66) rfl rfl (XS.iconst A184.here hx rfl (hb hby d27_67) (XS.iloadN A184.here hx rfl (hb hby d27_68) rfl k))) ?_
        obtain ⟨T185, h185, A185, K185, V185, st185⟩ := A184.stC hx V184 (List.mem_of_getElem? (i := 0) rfl) (j := (0 : Int32)) 0 rfl ⟨by decide, by decide⟩ (Nat.le_of_ble_eq_true rfl) (g := (mkF m 69 #[.val (.int p0), .val (.int p1), .val (.int ((p0 &&& (255 : Int32)).toUInt32.toUInt16.toUInt32.toInt32)), .val (.int (((XT.ushr p0 (8 : Int32)) &&& (255 : Int32)).toUInt32.toUInt16.toUInt32.toInt32))] [(.int ((p0 &&& (255 : Int32)).toUInt32.toUInt16.toUInt32.toInt32)), (.int (0 : Int32)), (.ref a184), (.ref a184), (.ref a183), (.ref a183)])) rfl rfl (hb hby d27_69)
        refine Run.st (T185.setTop (mkF m 70 #[.val (.int p0), .val (.int p1), .val (.int ((p0 &&& (255 : Int32)).toUInt32.toUInt16.toUInt32.toInt32)), .val (.int (((XT.ushr p0 (8 : Int32)) &&& (255 : Int32)).toUInt32.toUInt16.toUInt32.toInt32))] [(.ref a184), (.ref a183), (.ref a183)])) st185 ?_
        refine Run.st (T185.setTop (mkF m 73 #[.val (.int p0), .val (.int p1), .val (.int ((p0 &&& (255 : Int32)).toUInt32.toUInt16.toUInt32.toInt32)), .val (.int (((XT.ushr p0 (8 : Int32)) &&& (255 : Int32)).toUInt32.toUInt16.toUInt32.toInt32))] [(.int (((XT.ushr p0 (8 : Int32)) &&& (255 : Int32)).toUInt32.toUInt16.toUInt32.toInt32)), (.int (1 : Int32)), (.ref a184), (.ref a184), (.ref a183), (.ref a183)])) (fun _ k => XS.dup A185.here hx rfl (hb hby d27_70) rfl rfl (XS.iconst A185.here hx rfl (hb hby d27_71) (XS.iloadN A185.here hx rfl (hb hby d27_72) rfl k))) ?_
        obtain ⟨T186, h186, A186, K186, V186, st186⟩ := A185.stC hx V185 (List.mem_of_getElem? (i := 0) rfl) (j := (1 : Int32)) 1 rfl ⟨by decide, by decide⟩ (Nat.le_of_ble_eq_true rfl) (g := (mkF m 73 #[.val (.int p0), .val (.int p1), .val (.int ((p0 &&& (255 : Int32)).toUInt32.toUInt16.toUInt32.toInt32)), .val (.int (((XT.ushr p0 (8 : Int32)) &&& (255 : Int32)).toUInt32.toUInt16.toUInt32.toInt32))] [(.int (((XT.ushr p0 (8 : Int32)) &&& (255 : Int32)).toUInt32.toUInt16.toUInt32.toInt32)), (.int (1 : Int32)), (.ref a184), (.ref a184), (.ref a183), (.ref a183)])) rfl rfl (hb hby d27_73)
        refine Run.st (T186.setTop (mkF m 74 #[.val (.int p0), .val (.int p1), .val (.int ((p0 &&& (255 : Int32)).toUInt32.toUInt16.toUInt32.toInt32)), .val (.int (((XT.ushr p0 (8 : Int32)) &&& (255 : Int32)).toUInt32.toUInt16.toUInt32.toInt32))] [(.ref a184), (.ref a183), (.ref a183)])) st186 ?_
        have V188 : Arv Z h186 a184 kA184 .char (2 : Int32) [(.int (nar .char ((p0 &&& (255 : Int32)).toUInt32.toUInt16.toUInt32.toInt32))), (.int (nar .char (((XT.ushr p0 (8 : Int32)) &&& (255 : Int32)).toUInt32.toUInt16.toUInt32.toInt32)))] (.int (0 : Int32)) := V186
        rw [c8n p0, c8n (XT.ushr p0 (8 : Int32))] at V188
        have X189 : Ext h183 h184 := E184
        have X190 : Ext h183 h185 := extK X189 K185 (allS (Nat.le_of_eq g184) all0)
        have X191 : Ext h183 h186 := extK X190 K186 (allS (Nat.le_of_eq g184) all0)
        have f192 := Ex183.ext X191
        have F193 : Fld Z h183 a183 "java/lang/String" "value" "[B" .null := D183 (Or.inr (tw20 H.1)) (ty := (.array .byte)) (by decide)
        have f194 := F193.ext X191
        have F195 : Fld Z h183 a183 "java/lang/String" "coder" "B" (.int 0) := D183 (Or.inr (tw21 H.1)) (ty := .byte) (by decide)
        have f196 := F195.ext X191
        obtain ⟨v187, T187, h187, AA187, K187, ⟨L187, Q187⟩, st187⟩ := A186.callI hx (y := (⟨"java/lang/String", "<init>", "([C)V"⟩ : MethodName)) rfl (tw8 H.1) (tw9 H.1) (tw10 H.1) (by decide) (g := (mkF m 74 #[.val (.int p0), .val (.int p1), .val (.int ((p0 &&& (255 : Int32)).toUInt32.toUInt16.toUInt32.toInt32)), .val (.int (((XT.ushr p0 (8 : Int32)) &&& (255 : Int32)).toUInt32.toUInt16.toUInt32.toInt32))] [(.ref a184), (.ref a183), (.ref a183)])) rfl (by rw [hml]; rfl) a183 [(.ref a184)] [(.ref a183)] (lenOf pd_19 rfl) rfl (Wd := 1) (by show 2 * 0 + _ ≤ _; exact Nat.le_of_eq rfl) (hb hby d27_74) (by decide) (by decide) [a183] (fun _ _ _ q => q.2.1) (allS (List.mem_of_getElem? (i := 1) rfl) all0) (fun vm0 hZ => payStr (nn := 2) H A186.old (A186.nle (List.mem_of_getElem? (i := 1) rfl)) f192 f194 f196 (cs := [(p0 &&& (255 : Int32)), ((XT.ushr p0 (8 : Int32)) &&& (255 : Int32))]) V188 rfl rfl (by decide) (by decide) (chsS (c8r p0) (chsS (c8r (XT.ushr p0 (8 : Int32))) chs0)) (by decide) (by decide) hZ)
        obtain ⟨rfl, -, S187⟩ := Q187
        have A187 := AA187 [] all0
        refine Run.st (T187.setTop (mkF m 77 #[.val (.int p0), .val (.int p1), .val (.int ((p0 &&& (255 : Int32)).toUInt32.toUInt16.toUInt32.toInt32)), .val (.int (((XT.ushr p0 (8 : Int32)) &&& (255 : Int32)).toUInt32.toUInt16.toUInt32.toInt32))] [(.ref a183)])) st187 ?_
        exact A187.leaveW hlk hh0 (some (.ref a183)) (fun q => by rw [hrt] at q; cases q) (by decide) (by decide) ⟨_, _, rfl, keepE A187.keep, Or.inr ⟨_, _, rfl, rfl, S187, Nat.le_of_ble_eq_true rfl⟩⟩ (fun X hr => retOut X hx (w := (.ref a183)) (t := (.object "java/lang/String")) hrt rfl (Or.inr (Or.inr (Or.inr (Or.inr ⟨rfl, rfl, rfl⟩)))) (hb hby d27_77) hr)
theorem ef_oe (m : MethodId) (y0 : Addr) (y1 : Value) (y2 : Value) (y3 : Value) (c_y1 : y1.category = 1) (c_y2 : y2.category = 1) (c_y3 : y3.category = 1) : entryFrame m #[(.ref y0), y1, y2, y3] 4 = mkF m 0 #[.val (.ref y0), .val y1, .val y2, .val y3] [] := by first | (simp [entryFrame, mkF, argsToLocals, cat_r, cat_i, cat_l, cat_n, maxLocals, c_y1, c_y2, c_y3]; done) | rfl
def Q_oe (Z : State) (a1 : Addr) (w1 : Value) (w2 : Value) (w3 : Value) (u_objectName : Value) (u_code : Value) (u_defaultMessage : Value) (h0 : Heap) (v : Option Value) (h : Heap) : Prop := v = none ∧ Exa Z h a1 "com/example/gate_to_handlers/gatetohandlers/ObjectError" ∧ Fld Z h a1 "com/example/gate_to_handlers/gatetohandlers/ObjectError" "objectName" "Ljava/lang/String;" w1 ∧ Fld Z h a1 "com/example/gate_to_handlers/gatetohandlers/ObjectError" "code" "Ljava/lang/String;" w2 ∧ Fld Z h a1 "com/example/gate_to_handlers/gatetohandlers/ObjectError" "defaultMessage" "Ljava/lang/String;" w3
def rm_oe : Room := { frames := 1, cells := 0, slots := 0, locals := 12 }
set_option maxRecDepth 65536 in
set_option maxHeartbeats 40000000 in
theorem ct_oe {l : Launch} {Z : State} {a0 : Array Value} (H : Ev Z a0) (a1 : Addr) (w1 : Value) (w2 : Value) (w3 : Value) (u_objectName : Value) (u_code : Value) (u_defaultMessage : Value) {h0 : Heap} {n0 : Nat} (O0 : Old Z n0 h0) (E1 : Exa Z h0 a1 "com/example/gate_to_handlers/gatetohandlers/ObjectError") (g_a1 : n0 ≤ a1) (z_a1 : a1 < h0.size) (F_objectName : Fld Z h0 a1 "com/example/gate_to_handlers/gatetohandlers/ObjectError" "objectName" "Ljava/lang/String;" u_objectName) (F_code : Fld Z h0 a1 "com/example/gate_to_handlers/gatetohandlers/ObjectError" "code" "Ljava/lang/String;" u_code) (F_defaultMessage : Fld Z h0 a1 "com/example/gate_to_handlers/gatetohandlers/ObjectError" "defaultMessage" "Ljava/lang/String;" u_defaultMessage) (r1 : w1.isRef = true) (r2 : w2.isRef = true) (r3 : w3.isRef = true) : CtrN l Z (⟨"com/example/gate_to_handlers/gatetohandlers/ObjectError", "<init>", "(Ljava/lang/String;Ljava/lang/String;Ljava/lang/String;)V"⟩ : MethodName) prog_78_method_1_code 4 none [] rm_oe #[(.ref a1), w1, w2, w3] h0 [a1] n0 (Q_oe Z a1 w1 w2 w3 u_objectName u_code u_defaultMessage h0) := by
  refine enterN (a0 := a0) (plainFor_of_name pn_6) O0 (allS ⟨g_a1, z_a1⟩ all0) ?_
  intro p e s m below meth c T0 hx hby hml hrt hnm hlk A0
  replace A0 : Wk false Z a0 [] n0 h0 [a1] "com/example/gate_to_handlers/gatetohandlers/ObjectError" p l e rm_oe s m #[(.ref a1), w1, w2, w3] below meth c [a1] T0 h0 0 0 := A0
  refine Run.st (T0.setTop (mkF m 0 #[.val (.ref a1), .val w1, .val w2, .val w3] [])) (fun _ k => castTop (ef_oe m a1 w1 w2 w3 (catR r1) (catR r2) (catR r3)) k) ?_
  refine Run.st (T0.setTop (mkF m 1 #[.val (.ref a1), .val w1, .val w2, .val w3] [(.ref a1)])) (fun _ k => XS.aloadN A0.here hx rfl (hb hby d28_0) rfl rfl k) ?_
  obtain ⟨T197, A197, st197⟩ := A0.initO hx (tw32 H.1) (tw16 H.1) (tw17 H.1) (g := (mkF m 1 #[.val (.ref a1), .val w1, .val w2, .val w3] [(.ref a1)])) rfl (by rw [hml]; rfl) rfl (hb hby d28_1) (by decide) (Wd := 0) (by show 2 * 0 + _ ≤ _; exact Nat.le_of_eq rfl) (by decide)
  refine Run.st (T197.setTop (mkF m 4 #[.val (.ref a1), .val w1, .val w2, .val w3] [])) st197 ?_
  refine Run.st (T197.setTop (mkF m 6 #[.val (.ref a1), .val w1, .val w2, .val w3] [w1, (.ref a1)])) (fun _ k => XS.aloadN A197.here hx rfl (hb hby d28_4) rfl rfl (XS.aloadN A197.here hx rfl (hb hby d28_5) rfl r1 k)) ?_
  obtain ⟨T198, h198, A198, K198, W198, st198⟩ := A197.putF hx (tw33 H.1) Via.refl (a := a1) (List.mem_of_getElem? (i := 0) rfl) (v' := w1) F_objectName E1 (Or.inr ⟨(tw34 H.1), rfl, hnm⟩) (tw27 H.1) (ty := (.object "java/lang/String")) (by decide) (narR r1 rfl) (fitR r1 rfl) (g := (mkF m 6 #[.val (.ref a1), .val w1, .val w2, .val w3] [w1, (.ref a1)])) rfl rfl (hb hby d28_6)
  have F198 : Fld Z h198 a1 "com/example/gate_to_handlers/gatetohandlers/ObjectError" "objectName" "Ljava/lang/String;" w1 := F_objectName.same W198
  refine Run.st (T198.setTop (mkF m 9 #[.val (.ref a1), .val w1, .val w2, .val w3] [])) st198 ?_
  refine Run.st (T198.setTop (mkF m 11 #[.val (.ref a1), .val w1, .val w2, .val w3] [w2, (.ref a1)])) (fun _ k => XS.aloadN A198.here hx rfl (hb hby d28_9) rfl rfl (XS.aloadN A198.here hx rfl (hb hby d28_10) rfl r2 k)) ?_
  have f200 := (F_code.other W198 (Or.inr (slot_ne (Or.inr (tw36 H.1)) (Or.inr (tw34 H.1)) (by decide) (t := (.object "java/lang/String")) (t' := (.object "java/lang/String")) (by decide) (by decide))))
  have f201 := (E1.wr W198)
  obtain ⟨T199, h199, A199, K199, W199, st199⟩ := A198.putF hx (tw35 H.1) Via.refl (a := a1) (List.mem_of_getElem? (i := 0) rfl) (v' := w2) f200 f201 (Or.inr ⟨(tw36 H.1), rfl, hnm⟩) (tw27 H.1) (ty := (.object "java/lang/String")) (by decide) (narR r2 rfl) (fitR r2 rfl) (g := (mkF m 11 #[.val (.ref a1), .val w1, .val w2, .val w3] [w2, (.ref a1)])) rfl rfl (hb hby d28_11)
  have F199 : Fld Z h199 a1 "com/example/gate_to_handlers/gatetohandlers/ObjectError" "code" "Ljava/lang/String;" w2 := f200.same W199
  refine Run.st (T199.setTop (mkF m 14 #[.val (.ref a1), .val w1, .val w2, .val w3] [])) st199 ?_
  refine Run.st (T199.setTop (mkF m 16 #[.val (.ref a1), .val w1, .val w2, .val w3] [w3, (.ref a1)])) (fun _ k => XS.aloadN A199.here hx rfl (hb hby d28_14) rfl rfl (XS.aloadN A199.here hx rfl (hb hby d28_15) rfl r3 k)) ?_
  have f203 := ((F_defaultMessage.other W198 (Or.inr (slot_ne (Or.inr (tw38 H.1)) (Or.inr (tw34 H.1)) (by decide) (t := (.object "java/lang/String")) (t' := (.object "java/lang/String")) (by decide) (by decide)))).other W199 (Or.inr (slot_ne (Or.inr (tw38 H.1)) (Or.inr (tw36 H.1)) (by decide) (t := (.object "java/lang/String")) (t' := (.object "java/lang/String")) (by decide) (by decide))))
  have f204 := ((E1.wr W198).wr W199)
  obtain ⟨T202, h202, A202, K202, W202, st202⟩ := A199.putF hx (tw37 H.1) Via.refl (a := a1) (List.mem_of_getElem? (i := 0) rfl) (v' := w3) f203 f204 (Or.inr ⟨(tw38 H.1), rfl, hnm⟩) (tw27 H.1) (ty := (.object "java/lang/String")) (by decide) (narR r3 rfl) (fitR r3 rfl) (g := (mkF m 16 #[.val (.ref a1), .val w1, .val w2, .val w3] [w3, (.ref a1)])) rfl rfl (hb hby d28_16)
  have F202 : Fld Z h202 a1 "com/example/gate_to_handlers/gatetohandlers/ObjectError" "defaultMessage" "Ljava/lang/String;" w3 := f203.same W202
  refine Run.st (T202.setTop (mkF m 19 #[.val (.ref a1), .val w1, .val w2, .val w3] [])) st202 ?_
  have f205 := (((E1.wr W198).wr W199).wr W202)
  have f206 := ((F198.other W199 (Or.inr (slot_ne (Or.inr (tw34 H.1)) (Or.inr (tw36 H.1)) (by decide) (t := (.object "java/lang/String")) (t' := (.object "java/lang/String")) (by decide) (by decide)))).other W202 (Or.inr (slot_ne (Or.inr (tw34 H.1)) (Or.inr (tw38 H.1)) (by decide) (t := (.object "java/lang/String")) (t' := (.object "java/lang/String")) (by decide) (by decide))))
  have f207 := (F199.other W202 (Or.inr (slot_ne (Or.inr (tw36 H.1)) (Or.inr (tw38 H.1)) (by decide) (t := (.object "java/lang/String")) (t' := (.object "java/lang/String")) (by decide) (by decide))))
  exact A202.leaveN hlk none (fun _ => rfl) (by decide) (by decide) ⟨rfl, f205, f206, f207, F202⟩ (fun X hr => X.returnOut hx hrt (hb hby d28_19) hr)
theorem ef_tos (m : MethodId) (y0 : Addr) : entryFrame m #[(.ref y0)] 1 = mkF m 0 #[.val (.ref y0)] [] := by first | (simp [entryFrame, mkF, argsToLocals, Value.category, maxLocals]; done) | rfl
def Q_tos (Z : State) (a1 : Addr) (w1 : Value) (o1 : Option (List Int32)) (w2 : Value) (o2 : Option (List Int32)) (w3 : Value) (o3 : Option (List Int32)) (h0 : Heap) (v : Option Value) (h : Heap) : Prop := ∃ a : Addr, v = some (.ref a) ∧ Ext h0 h ∧ StrA Z h a (errL (shL o2) (shL o1) (shL o3))
def rm_tos : Room := { frames := 7, cells := 16, slots := 322, locals := 103 }
set_option maxRecDepth 65536 in
set_option maxHeartbeats 40000000 in
theorem ct_tos {l : Launch} {Z : State} {a0 : Array Value} (H : Ev Z a0) (a1 : Addr) (w1 : Value) (o1 : Option (List Int32)) (w2 : Value) (o2 : Option (List Int32)) (w3 : Value) (o3 : Option (List Int32)) {h0 : Heap} {n0 : Nat} (O0 : Old Z n0 h0) (F1 : Fld Z h0 a1 "com/example/gate_to_handlers/gatetohandlers/ObjectError" "objectName" "Ljava/lang/String;" w1) (F2 : Fld Z h0 a1 "com/example/gate_to_handlers/gatetohandlers/ObjectError" "code" "Ljava/lang/String;" w2) (F3 : Fld Z h0 a1 "com/example/gate_to_handlers/gatetohandlers/ObjectError" "defaultMessage" "Ljava/lang/String;" w3) (R1 : OStr Z h0 w1 o1) (R2 : OStr Z h0 w2 o2) (R3 : OStr Z h0 w3 o3) : CtrW l Z EL (⟨"com/example/gate_to_handlers/gatetohandlers/ObjectError", "toString", "()Ljava/lang/String;"⟩ : MethodName) prog_78_method_5_code 1 (some (.object "java/lang/String")) [] rm_tos #[(.ref a1)] h0 [] n0 (Q_tos Z a1 w1 o1 w2 o2 w3 o3 h0) := by
  refine enterW (a0 := a0) (plainFor_of_name pn_6) (elA H) O0 all0 ?_
  intro p e s m below meth c T0 hx hby hml hrt hnm hlk hh0 A0
  replace A0 : Wk true Z a0 EL n0 h0 [] "com/example/gate_to_handlers/gatetohandlers/ObjectError" p l e rm_tos s m #[(.ref a1)] below meth c [] T0 h0 0 0 := A0
  refine Run.st (T0.setTop (mkF m 0 #[.val (.ref a1)] [])) (fun _ k => castTop (ef_tos m a1) k) ?_
  have l1 := R1.len
  have l2 := R2.len
  have l3 := R3.len
  obtain ⟨a208, T208, h208, A208, E208, g208, Ex208, D208, st208⟩ := A0.newO hx (tw44 H.1) (tw45 H.1) (tw46 H.1) (g := (mkF m 0 #[.val (.ref a1)] [])) rfl (hb hby d29_0) (by decide) (by decide)
  refine Run.st (T208.setTop (mkF m 3 #[.val (.ref a1)] [(.ref a208)])) st208 ?_
  refine Run.st (T208.setTop (mkF m 4 #[.val (.ref a1)] [(.ref a208), (.ref a208)])) (fun _ k => XS.dup A208.here hx rfl (hb hby d29_3) rfl rfl k) ?_
  have F210 : Fld Z h208 a208 "java/lang/AbstractStringBuilder" "count" "I" (.int 0) := D208 (Or.inl (tw85 H.1)) (ty := .int) (by decide)
  have F211 : Fld Z h208 a208 "java/lang/AbstractStringBuilder" "coder" "B" (.int 0) := D208 (Or.inl (tw61 H.1)) (ty := .byte) (by decide)
  have F212 : Fld Z h208 a208 "java/lang/AbstractStringBuilder" "value" "[B" .null := D208 (Or.inl (tw59 H.1)) (ty := (.array .byte)) (by decide)
  obtain ⟨v209, T209, h209, AA209, K209, ⟨L209, Q209⟩, st209⟩ := A208.callI hx (y := (⟨"java/lang/StringBuilder", "<init>", "()V"⟩ : MethodName)) rfl (tw47 H.1) (tw48 H.1) (tw49 H.1) (by decide) (g := (mkF m 4 #[.val (.ref a1)] [(.ref a208), (.ref a208)])) rfl (by rw [hml]; rfl) a208 [] [(.ref a208)] (lenOf pd_20 rfl) rfl (Wd := 1) (by show 2 * 0 + _ ≤ _; exact Nat.le_of_eq rfl) (hb hby d29_4) (by decide) (by decide) [a208] (fun _ _ _ q => q.2) (allS (List.mem_of_getElem? (i := 0) rfl) all0) (fun vm0 hZ => payN (ct_sbini H a208 (.int 0) .null A208.old Ex208 (A208.nle (List.mem_of_getElem? (i := 0) rfl)) Ex208.lt F210 F211 F212) (tw49 H.1) (tw46 H.1) (by decide) (by decide) hZ)
  obtain ⟨Q209, N209, -⟩ := Q209
  obtain ⟨rfl, t209, hf209, B209⟩ := Q209
  have A209 := AA209 [t209] (allS (Or.inr hf209) all0)
  refine Run.st (T209.setTop (mkF m 7 #[.val (.ref a1)] [(.ref a208)])) st209 ?_
  obtain ⟨a213, b213, kA213, T213, h213, A213, E213, Ex213, Fc213, Fv213, Va213, ne213, st213⟩ := A209.ldc hx (tw62 H.1) (strsA H) (List.mem_of_getElem? (i := 0) rfl) (vs := (([(101 : Int32), (114 : Int32), (114 : Int32), (111 : Int32), (114 : Int32), (32 : Int32)] : List Int32).map fun c => c.toInt8.toInt32).map Value.int) (z := (6 : Int32)) ⟨by decide, by decide +kernel⟩ (by decide) (by decide +kernel) (g := (mkF m 7 #[.val (.ref a1)] [(.ref a208)])) rfl (hb hby d29_7) (q := 24) (by decide) (by decide) (by decide) (by decide)
  have S213 : StrA Z h213 a213 [(101 : Int32), (114 : Int32), (114 : Int32), (111 : Int32), (114 : Int32), (32 : Int32)] := ⟨Ex213, Fc213, ⟨b213, kA213, Fv213, Va213⟩, by decide, by decide⟩
  refine Run.st (T213.setTop (mkF m 9 #[.val (.ref a1)] [(.ref a213), (.ref a208)])) st213 ?_
  have X215 : Ext h209 h213 := E213
  have f216 := B209.ext X215
  have f217 := B209.1.ext X215
  obtain ⟨v214, T214, h214, AA214, K214, ⟨L214, Q214⟩, st214⟩ := A213.callV hx (y := (⟨"java/lang/StringBuilder", "append", "(Ljava/lang/String;)Ljava/lang/StringBuilder;"⟩ : MethodName)) (z := (⟨"java/lang/StringBuilder", "append", "(Ljava/lang/String;)Ljava/lang/StringBuilder;"⟩ : MethodName)) (tw63 H.1) (tw64 H.1) (tw66 H.1) (tw65 H.1) (nfSel (tw66 H.1)) (by decide) f217 (g := (mkF m 9 #[.val (.ref a1)] [(.ref a213), (.ref a208)])) rfl (by rw [hml]; rfl) [(.ref a213)] [] (lenOf pd_21 rfl) rfl (Wd := 0) (by show 2 * 0 + _ ≤ _; exact Nat.le_of_eq rfl) (hb hby d29_9) (by decide) (by decide) [a208, t209] (fun _ _ _ q => q.2) (allS (List.mem_of_getElem? (i := 1) rfl) (allS (List.mem_of_getElem? (i := 0) rfl) all0)) (fun vm0 hZ => payN (ct_sbapp H a208 t209 [] a213 [(101 : Int32), (114 : Int32), (114 : Int32), (111 : Int32), (114 : Int32), (32 : Int32)] A213.old f216 S213 (by simp [List.length_append]; try omega) (A213.nle (List.mem_of_getElem? (i := 1) rfl)) f216.lt (A213.nle (List.mem_of_getElem? (i := 0) rfl)) f216.tlt) (tw67 H.1) (tw46 H.1) (by decide) (by decide) hZ)
  obtain ⟨Q214, N214, -⟩ := Q214
  obtain ⟨rfl, t214, ho214, B214⟩ := Q214
  have Z218 : h208.size ≤ h209.size := K209.1
  have Z219 : h208.size ≤ h213.size := Nat.le_trans Z218 E213.1
  have gt214 : h208.size ≤ t214 := ho214.elim (fun e => e ▸ hf209.1) (fun q => Nat.le_trans Z219 q.1)
  have A214 := AA214 [t214] (allS (tcase ho214 (List.mem_of_getElem? (i := 0) rfl)) all0)
  refine Run.st (T214.setTop (mkF m 12 #[.val (.ref a1)] [(.ref a208)])) st214 ?_
  refine Run.st (T214.setTop (mkF m 13 #[.val (.ref a1)] [(.ref a1), (.ref a208)])) (fun _ k => XS.aloadN A214.here hx rfl (hb hby d29_12) rfl rfl k) ?_
  have Z221 : h0.size ≤ h208.size := E208.1
  have X222 : Ext h0 h208 := E208
  have X223 : Ext h0 h209 := extK X222 K209 (allS (Nat.le_of_eq g208) all0)
  have X224 : Ext h0 h213 := (extT X223 E213)
  have X225 : Ext h0 h214 := extK X224 K214 (allS (Nat.le_of_eq g208) (allS (Nat.le_trans Z221 hf209.1) all0))
  have f226 := F2.ext X225
  obtain ⟨T220, A220, st220⟩ := A214.getF hx (tw35 H.1) Via.refl f226 (g := (mkF m 13 #[.val (.ref a1)] [(.ref a1), (.ref a208)])) rfl rfl (hb hby d29_13)
  refine Run.st (T220.setTop (mkF m 16 #[.val (.ref a1)] [w2, (.ref a208)])) st220 ?_
  have f228 := R2.ext X225
  obtain ⟨v227, T227, h227, AA227, K227, ⟨L227, Q227⟩, st227⟩ := A220.callV hx (y := (⟨"java/lang/StringBuilder", "append", "(Ljava/lang/String;)Ljava/lang/StringBuilder;"⟩ : MethodName)) (z := (⟨"java/lang/StringBuilder", "append", "(Ljava/lang/String;)Ljava/lang/StringBuilder;"⟩ : MethodName)) (tw63 H.1) (tw64 H.1) (tw66 H.1) (tw65 H.1) (nfSel (tw66 H.1)) (by decide) B214.1 (g := (mkF m 16 #[.val (.ref a1)] [w2, (.ref a208)])) rfl (by rw [hml]; rfl) [w2] [] (lenOf pd_21 rfl) rfl (Wd := 0) (by show 2 * 0 + _ ≤ _; exact Nat.le_of_eq rfl) (hb hby d29_16) (by decide) (by decide) [a208, t214] (fun _ _ _ q => q.2) (allS (List.mem_of_getElem? (i := 2) rfl) (allS (List.mem_of_getElem? (i := 0) rfl) all0)) (fun vm0 hZ => payN (ct_sbappO H a208 t214 ([] ++ [(101 : Int32), (114 : Int32), (114 : Int32), (111 : Int32), (114 : Int32), (32 : Int32)]) w2 o2 A220.old B214 f228 (by simp [List.length_append]; try omega) (A220.nle (List.mem_of_getElem? (i := 2) rfl)) B214.lt (A220.nle (List.mem_of_getElem? (i := 0) rfl)) B214.tlt) (tw67 H.1) (tw46 H.1) (by decide) (by decide) hZ)
  obtain ⟨Q227, N227, -⟩ := Q227
  obtain ⟨rfl, t227, ho227, B227⟩ := Q227
  have Z229 : h208.size ≤ h214.size := Nat.le_trans Z219 K214.1
  have gt227 : h208.size ≤ t227 := ho227.elim (fun e => e ▸ gt214) (fun q => Nat.le_trans Z229 q.1)
  have A227 := AA227 [t227] (allS (tcase ho227 (List.mem_of_getElem? (i := 0) rfl)) all0)
  refine Run.st (T227.setTop (mkF m 19 #[.val (.ref a1)] [(.ref a208)])) st227 ?_
  obtain ⟨a230, b230, kA230, T230, h230, A230, E230, Ex230, Fc230, Fv230, Va230, ne230, st230⟩ := A227.ldc hx (tw111 H.1) (strsA H) (List.mem_of_getElem? (i := 1) rfl) (vs := (([(32 : Int32), (111 : Int32), (102 : Int32), (32 : Int32)] : List Int32).map fun c => c.toInt8.toInt32).map Value.int) (z := (4 : Int32)) ⟨by decide, by decide +kernel⟩ (by decide) (by decide +kernel) (g := (mkF m 19 #[.val (.ref a1)] [(.ref a208)])) rfl (hb hby d29_19) (q := 16) (by decide) (by decide) (by decide) (by decide)
  have S230 : StrA Z h230 a230 [(32 : Int32), (111 : Int32), (102 : Int32), (32 : Int32)] := ⟨Ex230, Fc230, ⟨b230, kA230, Fv230, Va230⟩, by decide, by decide⟩
  refine Run.st (T230.setTop (mkF m 21 #[.val (.ref a1)] [(.ref a230), (.ref a208)])) st230 ?_
  have X232 : Ext h227 h230 := E230
  have f233 := B227.ext X232
  have f234 := B227.1.ext X232
  obtain ⟨v231, T231, h231, AA231, K231, ⟨L231, Q231⟩, st231⟩ := A230.callV hx (y := (⟨"java/lang/StringBuilder", "append", "(Ljava/lang/String;)Ljava/lang/StringBuilder;"⟩ : MethodName)) (z := (⟨"java/lang/StringBuilder", "append", "(Ljava/lang/String;)Ljava/lang/StringBuilder;"⟩ : MethodName)) (tw63 H.1) (tw64 H.1) (tw66 H.1) (tw65 H.1) (nfSel (tw66 H.1)) (by decide) f234 (g := (mkF m 21 #[.val (.ref a1)] [(.ref a230), (.ref a208)])) rfl (by rw [hml]; rfl) [(.ref a230)] [] (lenOf pd_21 rfl) rfl (Wd := 0) (by show 2 * 0 + _ ≤ _; exact Nat.le_of_eq rfl) (hb hby d29_21) (by decide) (by decide) [a208, t227] (fun _ _ _ q => q.2) (allS (List.mem_of_getElem? (i := 3) rfl) (allS (List.mem_of_getElem? (i := 0) rfl) all0)) (fun vm0 hZ => payN (ct_sbapp H a208 t227 (([] ++ [(101 : Int32), (114 : Int32), (114 : Int32), (111 : Int32), (114 : Int32), (32 : Int32)]) ++ shL o2) a230 [(32 : Int32), (111 : Int32), (102 : Int32), (32 : Int32)] A230.old f233 S230 (by simp [List.length_append]; try omega) (A230.nle (List.mem_of_getElem? (i := 3) rfl)) f233.lt (A230.nle (List.mem_of_getElem? (i := 0) rfl)) f233.tlt) (tw67 H.1) (tw46 H.1) (by decide) (by decide) hZ)
  obtain ⟨Q231, N231, -⟩ := Q231
  obtain ⟨rfl, t231, ho231, B231⟩ := Q231
  have Z235 : h208.size ≤ h227.size := Nat.le_trans Z229 K227.1
  have Z236 : h208.size ≤ h230.size := Nat.le_trans Z235 E230.1
  have gt231 : h208.size ≤ t231 := ho231.elim (fun e => e ▸ gt227) (fun q => Nat.le_trans Z236 q.1)
  have A231 := AA231 [t231] (allS (tcase ho231 (List.mem_of_getElem? (i := 0) rfl)) all0)
  refine Run.st (T231.setTop (mkF m 24 #[.val (.ref a1)] [(.ref a208)])) st231 ?_
  refine Run.st (T231.setTop (mkF m 25 #[.val (.ref a1)] [(.ref a1), (.ref a208)])) (fun _ k => XS.aloadN A231.here hx rfl (hb hby d29_24) rfl rfl k) ?_
  have X238 : Ext h0 h227 := extK X225 K227 (allS (Nat.le_of_eq g208) (allS (Nat.le_trans Z221 gt214) all0))
  have X239 : Ext h0 h230 := (extT X238 E230)
  have X240 : Ext h0 h231 := extK X239 K231 (allS (Nat.le_of_eq g208) (allS (Nat.le_trans Z221 gt227) all0))
  have f241 := F1.ext X240
  obtain ⟨T237, A237, st237⟩ := A231.getF hx (tw33 H.1) Via.refl f241 (g := (mkF m 25 #[.val (.ref a1)] [(.ref a1), (.ref a208)])) rfl rfl (hb hby d29_25)
  refine Run.st (T237.setTop (mkF m 28 #[.val (.ref a1)] [w1, (.ref a208)])) st237 ?_
  have f243 := R1.ext X240
  obtain ⟨v242, T242, h242, AA242, K242, ⟨L242, Q242⟩, st242⟩ := A237.callV hx (y := (⟨"java/lang/StringBuilder", "append", "(Ljava/lang/String;)Ljava/lang/StringBuilder;"⟩ : MethodName)) (z := (⟨"java/lang/StringBuilder", "append", "(Ljava/lang/String;)Ljava/lang/StringBuilder;"⟩ : MethodName)) (tw63 H.1) (tw64 H.1) (tw66 H.1) (tw65 H.1) (nfSel (tw66 H.1)) (by decide) B231.1 (g := (mkF m 28 #[.val (.ref a1)] [w1, (.ref a208)])) rfl (by rw [hml]; rfl) [w1] [] (lenOf pd_21 rfl) rfl (Wd := 0) (by show 2 * 0 + _ ≤ _; exact Nat.le_of_eq rfl) (hb hby d29_28) (by decide) (by decide) [a208, t231] (fun _ _ _ q => q.2) (allS (List.mem_of_getElem? (i := 4) rfl) (allS (List.mem_of_getElem? (i := 0) rfl) all0)) (fun vm0 hZ => payN (ct_sbappO H a208 t231 ((([] ++ [(101 : Int32), (114 : Int32), (114 : Int32), (111 : Int32), (114 : Int32), (32 : Int32)]) ++ shL o2) ++ [(32 : Int32), (111 : Int32), (102 : Int32), (32 : Int32)]) w1 o1 A237.old B231 f243 (by simp [List.length_append]; try omega) (A237.nle (List.mem_of_getElem? (i := 4) rfl)) B231.lt (A237.nle (List.mem_of_getElem? (i := 0) rfl)) B231.tlt) (tw67 H.1) (tw46 H.1) (by decide) (by decide) hZ)
  obtain ⟨Q242, N242, -⟩ := Q242
  obtain ⟨rfl, t242, ho242, B242⟩ := Q242
  have Z244 : h208.size ≤ h231.size := Nat.le_trans Z236 K231.1
  have gt242 : h208.size ≤ t242 := ho242.elim (fun e => e ▸ gt231) (fun q => Nat.le_trans Z244 q.1)
  have A242 := AA242 [t242] (allS (tcase ho242 (List.mem_of_getElem? (i := 0) rfl)) all0)
  refine Run.st (T242.setTop (mkF m 31 #[.val (.ref a1)] [(.ref a208)])) st242 ?_
  obtain ⟨a245, b245, kA245, T245, h245, A245, E245, Ex245, Fc245, Fv245, Va245, ne245, st245⟩ := A242.ldc hx (tw122 H.1) (strsA H) (List.mem_of_getElem? (i := 2) rfl) (vs := (([(58 : Int32), (32 : Int32)] : List Int32).map fun c => c.toInt8.toInt32).map Value.int) (z := (2 : Int32)) ⟨by decide, by decide +kernel⟩ (by decide) (by decide +kernel) (g := (mkF m 31 #[.val (.ref a1)] [(.ref a208)])) rfl (hb hby d29_31) (q := 8) (by decide) (by decide) (by decide) (by decide)
  have S245 : StrA Z h245 a245 [(58 : Int32), (32 : Int32)] := ⟨Ex245, Fc245, ⟨b245, kA245, Fv245, Va245⟩, by decide, by decide⟩
  refine Run.st (T245.setTop (mkF m 33 #[.val (.ref a1)] [(.ref a245), (.ref a208)])) st245 ?_
  have X247 : Ext h242 h245 := E245
  have f248 := B242.ext X247
  have f249 := B242.1.ext X247
  obtain ⟨v246, T246, h246, AA246, K246, ⟨L246, Q246⟩, st246⟩ := A245.callV hx (y := (⟨"java/lang/StringBuilder", "append", "(Ljava/lang/String;)Ljava/lang/StringBuilder;"⟩ : MethodName)) (z := (⟨"java/lang/StringBuilder", "append", "(Ljava/lang/String;)Ljava/lang/StringBuilder;"⟩ : MethodName)) (tw63 H.1) (tw64 H.1) (tw66 H.1) (tw65 H.1) (nfSel (tw66 H.1)) (by decide) f249 (g := (mkF m 33 #[.val (.ref a1)] [(.ref a245), (.ref a208)])) rfl (by rw [hml]; rfl) [(.ref a245)] [] (lenOf pd_21 rfl) rfl (Wd := 0) (by show 2 * 0 + _ ≤ _; exact Nat.le_of_eq rfl) (hb hby d29_33) (by decide) (by decide) [a208, t242] (fun _ _ _ q => q.2) (allS (List.mem_of_getElem? (i := 5) rfl) (allS (List.mem_of_getElem? (i := 0) rfl) all0)) (fun vm0 hZ => payN (ct_sbapp H a208 t242 (((([] ++ [(101 : Int32), (114 : Int32), (114 : Int32), (111 : Int32), (114 : Int32), (32 : Int32)]) ++ shL o2) ++ [(32 : Int32), (111 : Int32), (102 : Int32), (32 : Int32)]) ++ shL o1) a245 [(58 : Int32), (32 : Int32)] A245.old f248 S245 (by simp [List.length_append]; try omega) (A245.nle (List.mem_of_getElem? (i := 5) rfl)) f248.lt (A245.nle (List.mem_of_getElem? (i := 0) rfl)) f248.tlt) (tw67 H.1) (tw46 H.1) (by decide) (by decide) hZ)
  obtain ⟨Q246, N246, -⟩ := Q246
  obtain ⟨rfl, t246, ho246, B246⟩ := Q246
  have Z250 : h208.size ≤ h242.size := Nat.le_trans Z244 K242.1
  have Z251 : h208.size ≤ h245.size := Nat.le_trans Z250 E245.1
  have gt246 : h208.size ≤ t246 := ho246.elim (fun e => e ▸ gt242) (fun q => Nat.le_trans Z251 q.1)
  have A246 := AA246 [t246] (allS (tcase ho246 (List.mem_of_getElem? (i := 0) rfl)) all0)
  refine Run.st (T246.setTop (mkF m 36 #[.val (.ref a1)] [(.ref a208)])) st246 ?_
  refine Run.st (T246.setTop (mkF m 37 #[.val (.ref a1)] [(.ref a1), (.ref a208)])) (fun _ k => XS.aloadN A246.here hx rfl (hb hby d29_36) rfl rfl k) ?_
  have X253 : Ext h0 h242 := extK X240 K242 (allS (Nat.le_of_eq g208) (allS (Nat.le_trans Z221 gt231) all0))
  have X254 : Ext h0 h245 := (extT X253 E245)
  have X255 : Ext h0 h246 := extK X254 K246 (allS (Nat.le_of_eq g208) (allS (Nat.le_trans Z221 gt242) all0))
  have f256 := F3.ext X255
  obtain ⟨T252, A252, st252⟩ := A246.getF hx (tw37 H.1) Via.refl f256 (g := (mkF m 37 #[.val (.ref a1)] [(.ref a1), (.ref a208)])) rfl rfl (hb hby d29_37)
  refine Run.st (T252.setTop (mkF m 40 #[.val (.ref a1)] [w3, (.ref a208)])) st252 ?_
  have f258 := R3.ext X255
  obtain ⟨v257, T257, h257, AA257, K257, ⟨L257, Q257⟩, st257⟩ := A252.callV hx (y := (⟨"java/lang/StringBuilder", "append", "(Ljava/lang/String;)Ljava/lang/StringBuilder;"⟩ : MethodName)) (z := (⟨"java/lang/StringBuilder", "append", "(Ljava/lang/String;)Ljava/lang/StringBuilder;"⟩ : MethodName)) (tw63 H.1) (tw64 H.1) (tw66 H.1) (tw65 H.1) (nfSel (tw66 H.1)) (by decide) B246.1 (g := (mkF m 40 #[.val (.ref a1)] [w3, (.ref a208)])) rfl (by rw [hml]; rfl) [w3] [] (lenOf pd_21 rfl) rfl (Wd := 0) (by show 2 * 0 + _ ≤ _; exact Nat.le_of_eq rfl) (hb hby d29_40) (by decide) (by decide) [a208, t246] (fun _ _ _ q => q.2) (allS (List.mem_of_getElem? (i := 6) rfl) (allS (List.mem_of_getElem? (i := 0) rfl) all0)) (fun vm0 hZ => payN (ct_sbappO H a208 t246 ((((([] ++ [(101 : Int32), (114 : Int32), (114 : Int32), (111 : Int32), (114 : Int32), (32 : Int32)]) ++ shL o2) ++ [(32 : Int32), (111 : Int32), (102 : Int32), (32 : Int32)]) ++ shL o1) ++ [(58 : Int32), (32 : Int32)]) w3 o3 A252.old B246 f258 (by simp [List.length_append]; try omega) (A252.nle (List.mem_of_getElem? (i := 6) rfl)) B246.lt (A252.nle (List.mem_of_getElem? (i := 0) rfl)) B246.tlt) (tw67 H.1) (tw46 H.1) (by decide) (by decide) hZ)
  obtain ⟨Q257, N257, -⟩ := Q257
  obtain ⟨rfl, t257, ho257, B257⟩ := Q257
  have Z259 : h208.size ≤ h246.size := Nat.le_trans Z251 K246.1
  have gt257 : h208.size ≤ t257 := ho257.elim (fun e => e ▸ gt246) (fun q => Nat.le_trans Z259 q.1)
  have A257 := AA257 [t257] (allS (tcase ho257 (List.mem_of_getElem? (i := 0) rfl)) all0)
  refine Run.st (T257.setTop (mkF m 43 #[.val (.ref a1)] [(.ref a208)])) st257 ?_
  obtain ⟨v260, T260, h260, AA260, K260, ⟨L260, Q260⟩, st260⟩ := A257.callV hx (y := (⟨"java/lang/StringBuilder", "toString", "()Ljava/lang/String;"⟩ : MethodName)) (z := (⟨"java/lang/StringBuilder", "toString", "()Ljava/lang/String;"⟩ : MethodName)) (tw146 H.1) (tw147 H.1) (tw149 H.1) (tw148 H.1) (nfSel (tw149 H.1)) (by decide) B257.1 (g := (mkF m 43 #[.val (.ref a1)] [(.ref a208)])) rfl (by rw [hml]; rfl) [] [] (lenOf pd_22 rfl) rfl (Wd := 0) (by show 2 * 0 + _ ≤ _; exact Nat.le_of_eq rfl) (hb hby d29_43) (by decide) (by decide) [] (fun _ _ _ q => q.2) all0 (fun vm0 hZ => payN (ct_tostr H a208 t257 (((((([] ++ [(101 : Int32), (114 : Int32), (114 : Int32), (111 : Int32), (114 : Int32), (32 : Int32)]) ++ shL o2) ++ [(32 : Int32), (111 : Int32), (102 : Int32), (32 : Int32)]) ++ shL o1) ++ [(58 : Int32), (32 : Int32)]) ++ shL o3) A257.old B257) (tw150 H.1) (tw46 H.1) (by decide) (by decide) hZ)
  obtain ⟨Q260, N260, -⟩ := Q260
  obtain ⟨a260, rfl, X260, S260⟩ := Q260
  have A260 := AA260 [] all0
  refine Run.st (T260.setTop (mkF m 46 #[.val (.ref a1)] [(.ref a260)])) st260 ?_
  exact A260.leaveW hlk hh0 (some (.ref a260)) (fun q => by rw [hrt] at q; cases q) (by decide) (by decide) ⟨a260, rfl, keepE A260.keep, by simpa [List.append_assoc] using S260⟩ (fun X hr => retOut X hx (w := (.ref a260)) (t := (.object "java/lang/String")) hrt rfl (Or.inr (Or.inr (Or.inr (Or.inr ⟨rfl, rfl, rfl⟩)))) (hb hby d29_46) hr)
theorem ef_shown (m : MethodId) (y0 : Value) (c_y0 : y0.category = 1) : entryFrame m #[y0] 1 = mkF m 0 #[.val y0] [] := by first | (simp [entryFrame, mkF, argsToLocals, cat_r, cat_i, cat_l, cat_n, maxLocals, c_y0]; done) | rfl
def Q_shown (Z : State) (w1 : Value) (o1 : Option (List Int32)) (h0 : Heap) (v : Option Value) (h : Heap) : Prop := ∃ a : Addr, v = some (.ref a) ∧ Ext h0 h ∧ StrA Z h a (shL o1)
def rm_shown : Room := { frames := 0, cells := 2, slots := 20, locals := 0 }
set_option maxRecDepth 65536 in
set_option maxHeartbeats 40000000 in
theorem ct_shown {l : Launch} {Z : State} {a0 : Array Value} (H : Ev Z a0) (w1 : Value) (o1 : Option (List Int32)) {h0 : Heap} {n0 : Nat} (O0 : Old Z n0 h0) (hv : OStr Z h0 w1 o1) : CtrW l Z EL (⟨"com/example/gate_to_handlers/gatetohandlers/ObjectErrorToStringPinLaw", "shown", "(Ljava/lang/String;)Ljava/lang/String;"⟩ : MethodName) method_3_code 1 (some (.object "java/lang/String")) [] rm_shown #[w1] h0 [] n0 (Q_shown Z w1 o1 h0) := by
  refine enterW (a0 := a0) (plainFor_of_name pn_5) (elA H) O0 all0 ?_
  intro p e s m below meth c T0 hx hby hml hrt hnm hlk hh0 A0
  replace A0 : Wk true Z a0 EL n0 h0 [] "com/example/gate_to_handlers/gatetohandlers/ObjectErrorToStringPinLaw" p l e rm_shown s m #[w1] below meth c [] T0 h0 0 0 := A0
  refine Run.st (T0.setTop (mkF m 0 #[.val w1] [])) (fun _ k => castTop (ef_shown m w1 (catR hv.ref)) k) ?_
  rcases hv with ⟨rfl, rfl⟩ | ⟨s1, c1, rfl, rfl, S1, l1⟩
  · refine Run.st (T0.setTop (mkF m 4 #[.val .null] [])) (fun _ k => XS.aloadN A0.here hx rfl (hb hby d30_0) rfl rfl (XS.ifnonnullNo A0.here hx rfl (hb hby d30_1) rfl k)) ?_
    obtain ⟨a261, b261, kA261, T261, h261, A261, E261, Ex261, Fc261, Fv261, Va261, ne261, st261⟩ := A0.ldc hx (tw184 H.1) (strsA H) (List.mem_of_getElem? (i := 3) rfl) (vs := (([(110 : Int32), (117 : Int32), (108 : Int32), (108 : Int32)] : List Int32).map fun c => c.toInt8.toInt32).map Value.int) (z := (4 : Int32)) ⟨by decide, by decide +kernel⟩ (by decide) (by decide +kernel) (g := (mkF m 4 #[.val .null] [])) rfl (hb hby d30_4) (q := 16) (by decide) (by decide) (by decide) (by decide)
    have S261 : StrA Z h261 a261 [(110 : Int32), (117 : Int32), (108 : Int32), (108 : Int32)] := ⟨Ex261, Fc261, ⟨b261, kA261, Fv261, Va261⟩, by decide, by decide⟩
    refine Run.st (T261.setTop (mkF m 6 #[.val .null] [(.ref a261)])) st261 ?_
    exact A261.leaveW hlk hh0 (some (.ref a261)) (fun q => by rw [hrt] at q; cases q) (by decide) (by decide) ⟨a261, rfl, keepE A261.keep, S261⟩ (fun X hr => retOut X hx (w := (.ref a261)) (t := (.object "java/lang/String")) hrt rfl (Or.inr (Or.inr (Or.inr (Or.inr ⟨rfl, rfl, rfl⟩)))) (hb hby d30_6) hr)
  · refine Run.st (T0.setTop (mkF m 8 #[.val (.ref s1)] [(.ref s1)])) (fun _ k => XS.aloadN A0.here hx rfl (hb hby d30_0) rfl rfl (XS.ifnonnullYes A0.here hx rfl (pc0 := 1) (pc' := 7) rfl (hb hby d30_1) rfl (by decide) (by decide) (XS.aloadN A0.here hx rfl (hb hby d30_7) rfl rfl k))) ?_
    exact A0.leaveW hlk hh0 (some (.ref s1)) (fun q => by rw [hrt] at q; cases q) (by decide) (by decide) ⟨s1, rfl, keepE A0.keep, S1⟩ (fun X hr => retOut X hx (w := (.ref s1)) (t := (.object "java/lang/String")) hrt rfl (Or.inr (Or.inr (Or.inr (Or.inr ⟨rfl, rfl, rfl⟩)))) (hb hby d30_8) hr)
theorem ef_at (m : MethodId) (y0 : Addr) (y1 : Int32) (y2 : Addr) : entryFrame m #[(.ref y0), (.int y1), (.ref y2)] 4 = mkF m 0 #[.val (.ref y0), .val (.int y1), .val (.ref y2), .unset] [] := by first | (simp [entryFrame, mkF, argsToLocals, Value.category, maxLocals]; done) | rfl
def Q_at (Z : State) (s1 : Addr) (q1 : Addr) (pre : List Int32) (ps : List Int32) (post : List Int32) (k1 : Nat) (h0 : Heap) (v : Option Value) (h : Heap) : Prop := v = some (.int 1) ∧ h = h0
def rm_at : Room := { frames := 4, cells := 0, slots := 0, locals := 54 }
set_option maxRecDepth 65536 in
set_option maxHeartbeats 40000000 in
theorem ct_at {l : Launch} {Z : State} {a0 : Array Value} (H : Ev Z a0) (s1 : Addr) (q1 : Addr) (pre : List Int32) (ps : List Int32) (post : List Int32) (k1 : Nat) {h0 : Heap} {n0 : Nat} (O0 : Old Z n0 h0) (S1 : StrA Z h0 s1 (pre ++ (ps ++ post))) (S2 : StrA Z h0 q1 ps) (hk : pre.length = k1) (h6 : ps.length ≤ 6) : CtrN l Z (⟨"com/example/gate_to_handlers/gatetohandlers/ObjectErrorToStringPinLaw", "at", "(Ljava/lang/String;ILjava/lang/String;)Z"⟩ : MethodName) method_4_code 4 (some .boolean) [] rm_at #[(.ref s1), (.int (Int32.ofNat k1)), (.ref q1)] h0 [] n0 (Q_at Z s1 q1 pre ps post k1 h0) := by
  refine enterN (a0 := a0) (plainFor_of_name pn_5) O0 all0 ?_
  intro p e s m below meth c T0 hx hby hml hrt hnm hlk A0
  replace A0 : Wk false Z a0 [] n0 h0 [] "com/example/gate_to_handlers/gatetohandlers/ObjectErrorToStringPinLaw" p l e rm_at s m #[(.ref s1), (.int (Int32.ofNat k1)), (.ref q1)] below meth c [] T0 h0 0 0 := A0
  refine Run.st (T0.setTop (mkF m 0 #[.val (.ref s1), .val (.int (Int32.ofNat k1)), .val (.ref q1), .unset] [])) (fun _ k => castTop (ef_at m s1 (Int32.ofNat k1) q1) k) ?_
  have lt := S1.2.2.2.2
  simp only [List.length_append] at lt
  refine Run.st (T0.setTop (mkF m 1 #[.val (.ref s1), .val (.int (Int32.ofNat k1)), .val (.ref q1), .unset] [(.ref q1)])) (fun _ k => XS.aloadN A0.here hx rfl (hb hby d31_0) rfl rfl k) ?_
  obtain ⟨v262, T262, h262, AA262, K262, ⟨L262, Q262⟩, st262⟩ := A0.callV hx (y := (⟨"java/lang/String", "length", "()I"⟩ : MethodName)) (z := (⟨"java/lang/String", "length", "()I"⟩ : MethodName)) (tw189 H.1) (tw74 H.1) (tw76 H.1) (tw75 H.1) (nfSel (tw76 H.1)) (by decide) S2.1 (g := (mkF m 1 #[.val (.ref s1), .val (.int (Int32.ofNat k1)), .val (.ref q1), .unset] [(.ref q1)])) rfl (by rw [hml]; rfl) [] [] (lenOf pd_0 rfl) rfl (Wd := 0) (by show 2 * 0 + _ ≤ _; exact Nat.le_of_eq rfl) (hb hby d31_1) (by decide) (by decide) [] (fun _ _ _ q => by obtain ⟨⟨-, rfl⟩, rfl⟩ := q; exact ⟨Fr.nil _, Keep.refl _ _⟩) all0 (fun vm0 hZ => payLen H A0.old S2 (by decide) (by decide) hZ)
  obtain ⟨⟨rfl, q262⟩, -⟩ := Q262
  have q262 := q262.symm
  subst q262
  have A262 := AA262 [] all0
  refine Run.st (T262.setTop (mkF m 4 #[.val (.ref s1), .val (.int (Int32.ofNat k1)), .val (.ref q1), .unset] [(.int (Int32.ofNat ps.length))])) st262 ?_
  refine Run.st (T262.setTop (mkF m 19 #[.val (.ref s1), .val (.int (Int32.ofNat k1)), .val (.ref q1), .val (.int (Int32.ofNat ps.length))] [(.int (Int32.ofNat ps.length)), (.int (Int32.ofNat k1))])) (fun _ k => XS.istoreN A262.here hx rfl (hb hby d31_4) rfl (l' := #[.val (.ref s1), .val (.int (Int32.ofNat k1)), .val (.ref q1), .val (.int (Int32.ofNat ps.length))]) rfl (XS.iloadN A262.here hx rfl (hb hby d31_5) rfl (XS.bipush A262.here hx rfl (hb hby d31_6) (XS.icmpYes A262.here hx rfl (pc0 := 8) (pc' := 13) rfl (hb hby d31_8) rfl (flt (fun q => absurd ((n_lt (a := 6) (by decide) (by omega)).mp q) (by omega))).2.2.2 (by decide) (by decide) (XS.iloadN A262.here hx rfl (hb hby d31_13) rfl (XS.ifNo A262.here hx rfl (hb hby d31_14) rfl (by rw [if0]; exact (flt (n_pos (by omega))).1) (XS.iloadN A262.here hx rfl (hb hby d31_17) rfl (XS.iloadN A262.here hx rfl (hb hby d31_18) rfl k)))))))) ?_
  refine Run.st (T262.setTop (mkF m 20 #[.val (.ref s1), .val (.int (Int32.ofNat k1)), .val (.ref q1), .val (.int (Int32.ofNat ps.length))] [(.int ((Int32.ofNat k1) + (Int32.ofNat ps.length)))])) (fun _ k => XS.iadd A262.here hx rfl (hb hby d31_19) rfl k) ?_
  rw [show ((Int32.ofNat k1) + (Int32.ofNat ps.length)) = (Int32.ofNat (k1 + ps.length)) from n_add k1 ps.length]
  refine Run.st (T262.setTop (mkF m 21 #[.val (.ref s1), .val (.int (Int32.ofNat k1)), .val (.ref q1), .val (.int (Int32.ofNat ps.length))] [(.ref s1), (.int (Int32.ofNat (k1 + ps.length)))])) (fun _ k => XS.aloadN A262.here hx rfl (hb hby d31_20) rfl rfl k) ?_
  obtain ⟨v263, T263, h263, AA263, K263, ⟨L263, Q263⟩, st263⟩ := A262.callV hx (y := (⟨"java/lang/String", "length", "()I"⟩ : MethodName)) (z := (⟨"java/lang/String", "length", "()I"⟩ : MethodName)) (tw189 H.1) (tw74 H.1) (tw76 H.1) (tw75 H.1) (nfSel (tw76 H.1)) (by decide) S1.1 (g := (mkF m 21 #[.val (.ref s1), .val (.int (Int32.ofNat k1)), .val (.ref q1), .val (.int (Int32.ofNat ps.length))] [(.ref s1), (.int (Int32.ofNat (k1 + ps.length)))])) rfl (by rw [hml]; rfl) [] [(.int (Int32.ofNat (k1 + ps.length)))] (lenOf pd_0 rfl) rfl (Wd := 1) (by show 2 * 0 + _ ≤ _; exact Nat.le_of_eq rfl) (hb hby d31_21) (by decide) (by decide) [] (fun _ _ _ q => by obtain ⟨⟨-, rfl⟩, rfl⟩ := q; exact ⟨Fr.nil _, Keep.refl _ _⟩) all0 (fun vm0 hZ => payLen H A262.old S1 (by decide) (by decide) hZ)
  obtain ⟨⟨rfl, q263⟩, -⟩ := Q263
  have q263 := q263.symm
  subst q263
  have A263 := AA263 [] all0
  refine Run.st (T263.setTop (mkF m 24 #[.val (.ref s1), .val (.int (Int32.ofNat k1)), .val (.ref q1), .val (.int (Int32.ofNat ps.length))] [(.int (Int32.ofNat ((pre ++ (ps ++ post))).length)), (.int (Int32.ofNat (k1 + ps.length)))])) st263 ?_
  refine Run.st (T263.setTop (mkF m 30 #[.val (.ref s1), .val (.int (Int32.ofNat k1)), .val (.ref q1), .val (.int (Int32.ofNat ps.length))] [(.int (Int32.ofNat ps.length))])) (fun _ k => XS.icmpYes A263.here hx rfl (pc0 := 24) (pc' := 29) rfl (hb hby d31_24) rfl (flt (fun q => absurd ((n_lt (by simp only [List.length_append]; omega) (by omega)).mp q) (by simp only [List.length_append]; omega))).2.2.2 (by decide) (by decide) (XS.iloadN A263.here hx rfl (hb hby d31_29) rfl k)) ?_
  by_cases c264 : 0 < ps.length
  · refine Run.st (T263.setTop (mkF m 35 #[.val (.ref s1), .val (.int (Int32.ofNat k1)), .val (.ref q1), .val (.int (Int32.ofNat ps.length))] [(.int (Int32.ofNat k1)), (.ref s1)])) (fun _ k => XS.ifNo A263.here hx rfl (hb hby d31_30) rfl (by rw [if0]; exact (tlt ((n_lt (a := 0) (by decide) (by omega)).mpr c264)).2.2.2) (XS.aloadN A263.here hx rfl (hb hby d31_33) rfl rfl (XS.iloadN A263.here hx rfl (hb hby d31_34) rfl k))) ?_
    obtain ⟨v265, T265, h265, AA265, K265, ⟨L265, Q265⟩, st265⟩ := A263.callV hx (y := (⟨"java/lang/String", "charAt", "(I)C"⟩ : MethodName)) (z := (⟨"java/lang/String", "charAt", "(I)C"⟩ : MethodName)) (tw190 H.1) (tw191 H.1) (tw193 H.1) (tw192 H.1) (nfSel (tw193 H.1)) (by decide) S1.1 (g := (mkF m 35 #[.val (.ref s1), .val (.int (Int32.ofNat k1)), .val (.ref q1), .val (.int (Int32.ofNat ps.length))] [(.int (Int32.ofNat k1)), (.ref s1)])) rfl (by rw [hml]; rfl) [(.int (Int32.ofNat k1))] [] (lenOf pd_23 rfl) rfl (Wd := 0) (by show 2 * 0 + _ ≤ _; exact Nat.le_of_eq rfl) (hb hby d31_35) (by decide) (by decide) [] (fun _ _ _ q => by obtain ⟨⟨-, rfl⟩, rfl⟩ := q; exact ⟨Fr.nil _, Keep.refl _ _⟩) all0 (fun vm0 hZ => payCh H A263.old S1 (by first | exact c264 | (simp only [List.length_append]; omega)) rfl (by decide) (by decide) hZ)
    obtain ⟨⟨rfl, q265⟩, -⟩ := Q265
    have q265 := q265.symm
    subst q265
    have A265 := AA265 [] all0
    refine Run.st (T265.setTop (mkF m 38 #[.val (.ref s1), .val (.int (Int32.ofNat k1)), .val (.ref q1), .val (.int (Int32.ofNat ps.length))] [(.int (((pre ++ (ps ++ post))).getD k1 0))])) st265 ?_
    refine Run.st (T265.setTop (mkF m 40 #[.val (.ref s1), .val (.int (Int32.ofNat k1)), .val (.ref q1), .val (.int (Int32.ofNat ps.length))] [(.int (0 : Int32)), (.ref q1), (.int (((pre ++ (ps ++ post))).getD k1 0))])) (fun _ k => XS.aloadN A265.here hx rfl (hb hby d31_38) rfl rfl (XS.iconst A265.here hx rfl (hb hby d31_39) k)) ?_
    obtain ⟨v266, T266, h266, AA266, K266, ⟨L266, Q266⟩, st266⟩ := A265.callV hx (y := (⟨"java/lang/String", "charAt", "(I)C"⟩ : MethodName)) (z := (⟨"java/lang/String", "charAt", "(I)C"⟩ : MethodName)) (tw190 H.1) (tw191 H.1) (tw193 H.1) (tw192 H.1) (nfSel (tw193 H.1)) (by decide) S2.1 (g := (mkF m 40 #[.val (.ref s1), .val (.int (Int32.ofNat k1)), .val (.ref q1), .val (.int (Int32.ofNat ps.length))] [(.int (0 : Int32)), (.ref q1), (.int (((pre ++ (ps ++ post))).getD k1 0))])) rfl (by rw [hml]; rfl) [(.int (0 : Int32))] [(.int (((pre ++ (ps ++ post))).getD k1 0))] (lenOf pd_23 rfl) rfl (Wd := 1) (by show 2 * 0 + _ ≤ _; exact Nat.le_of_eq rfl) (hb hby d31_40) (by decide) (by decide) [] (fun _ _ _ q => by obtain ⟨⟨-, rfl⟩, rfl⟩ := q; exact ⟨Fr.nil _, Keep.refl _ _⟩) all0 (fun vm0 hZ => payCh H A265.old S2 (by first | exact c264 | (simp only [List.length_append]; omega)) rfl (by decide) (by decide) hZ)
    obtain ⟨⟨rfl, q266⟩, -⟩ := Q266
    have q266 := q266.symm
    subst q266
    have A266 := AA266 [] all0
    refine Run.st (T266.setTop (mkF m 43 #[.val (.ref s1), .val (.int (Int32.ofNat k1)), .val (.ref q1), .val (.int (Int32.ofNat ps.length))] [(.int ((ps).getD 0 0)), (.int (((pre ++ (ps ++ post))).getD k1 0))])) st266 ?_
    refine Run.st (T266.setTop (mkF m 50 #[.val (.ref s1), .val (.int (Int32.ofNat k1)), .val (.ref q1), .val (.int (Int32.ofNat ps.length))] [(.int (1 : Int32)), (.int (Int32.ofNat ps.length))])) (fun _ k => XS.icmpYes A266.here hx rfl (pc0 := 43) (pc' := 48) rfl (hb hby d31_43) rfl (teq (at_get (j := 0) hk c264)).1 (by decide) (by decide) (XS.iloadN A266.here hx rfl (hb hby d31_48) rfl (XS.iconst A266.here hx rfl (hb hby d31_49) k))) ?_
    by_cases c267 : 1 < ps.length
    · refine Run.st (T266.setTop (mkF m 56 #[.val (.ref s1), .val (.int (Int32.ofNat k1)), .val (.ref q1), .val (.int (Int32.ofNat ps.length))] [(.int (1 : Int32)), (.int (Int32.ofNat k1)), (.ref s1)])) (fun _ k => XS.icmpNo A266.here hx rfl (hb hby d31_50) rfl (tlt ((n_lt (a := 1) (by decide) (by omega)).mpr c267)).2.2.2 (XS.aloadN A266.here hx rfl (hb hby d31_53) rfl rfl (XS.iloadN A266.here hx rfl (hb hby d31_54) rfl (XS.iconst A266.here hx rfl (hb hby d31_55) k)))) ?_
      refine Run.st (T266.setTop (mkF m 57 #[.val (.ref s1), .val (.int (Int32.ofNat k1)), .val (.ref q1), .val (.int (Int32.ofNat ps.length))] [(.int ((Int32.ofNat k1) + (1 : Int32))), (.ref s1)])) (fun _ k => XS.iadd A266.here hx rfl (hb hby d31_56) rfl k) ?_
      rw [show ((Int32.ofNat k1) + (1 : Int32)) = (Int32.ofNat (k1 + 1)) from n_add k1 1]
      obtain ⟨v268, T268, h268, AA268, K268, ⟨L268, Q268⟩, st268⟩ := A266.callV hx (y := (⟨"java/lang/String", "charAt", "(I)C"⟩ : MethodName)) (z := (⟨"java/lang/String", "charAt", "(I)C"⟩ : MethodName)) (tw190 H.1) (tw191 H.1) (tw193 H.1) (tw192 H.1) (nfSel (tw193 H.1)) (by decide) S1.1 (g := (mkF m 57 #[.val (.ref s1), .val (.int (Int32.ofNat k1)), .val (.ref q1), .val (.int (Int32.ofNat ps.length))] [(.int (Int32.ofNat (k1 + 1))), (.ref s1)])) rfl (by rw [hml]; rfl) [(.int (Int32.ofNat (k1 + 1)))] [] (lenOf pd_23 rfl) rfl (Wd := 0) (by show 2 * 0 + _ ≤ _; exact Nat.le_of_eq rfl) (hb hby d31_57) (by decide) (by decide) [] (fun _ _ _ q => by obtain ⟨⟨-, rfl⟩, rfl⟩ := q; exact ⟨Fr.nil _, Keep.refl _ _⟩) all0 (fun vm0 hZ => payCh H A266.old S1 (by first | exact c267 | (simp only [List.length_append]; omega)) rfl (by decide) (by decide) hZ)
      obtain ⟨⟨rfl, q268⟩, -⟩ := Q268
      have q268 := q268.symm
      subst q268
      have A268 := AA268 [] all0
      refine Run.st (T268.setTop (mkF m 60 #[.val (.ref s1), .val (.int (Int32.ofNat k1)), .val (.ref q1), .val (.int (Int32.ofNat ps.length))] [(.int (((pre ++ (ps ++ post))).getD (k1 + 1) 0))])) st268 ?_
      refine Run.st (T268.setTop (mkF m 62 #[.val (.ref s1), .val (.int (Int32.ofNat k1)), .val (.ref q1), .val (.int (Int32.ofNat ps.length))] [(.int (1 : Int32)), (.ref q1), (.int (((pre ++ (ps ++ post))).getD (k1 + 1) 0))])) (fun _ k => XS.aloadN A268.here hx rfl (hb hby d31_60) rfl rfl (XS.iconst A268.here hx rfl (hb hby d31_61) k)) ?_
      obtain ⟨v269, T269, h269, AA269, K269, ⟨L269, Q269⟩, st269⟩ := A268.callV hx (y := (⟨"java/lang/String", "charAt", "(I)C"⟩ : MethodName)) (z := (⟨"java/lang/String", "charAt", "(I)C"⟩ : MethodName)) (tw190 H.1) (tw191 H.1) (tw193 H.1) (tw192 H.1) (nfSel (tw193 H.1)) (by decide) S2.1 (g := (mkF m 62 #[.val (.ref s1), .val (.int (Int32.ofNat k1)), .val (.ref q1), .val (.int (Int32.ofNat ps.length))] [(.int (1 : Int32)), (.ref q1), (.int (((pre ++ (ps ++ post))).getD (k1 + 1) 0))])) rfl (by rw [hml]; rfl) [(.int (1 : Int32))] [(.int (((pre ++ (ps ++ post))).getD (k1 + 1) 0))] (lenOf pd_23 rfl) rfl (Wd := 1) (by show 2 * 0 + _ ≤ _; exact Nat.le_of_eq rfl) (hb hby d31_62) (by decide) (by decide) [] (fun _ _ _ q => by obtain ⟨⟨-, rfl⟩, rfl⟩ := q; exact ⟨Fr.nil _, Keep.refl _ _⟩) all0 (fun vm0 hZ => payCh H A268.old S2 (by first | exact c267 | (simp only [List.length_append]; omega)) rfl (by decide) (by decide) hZ)
      obtain ⟨⟨rfl, q269⟩, -⟩ := Q269
      have q269 := q269.symm
      subst q269
      have A269 := AA269 [] all0
      refine Run.st (T269.setTop (mkF m 65 #[.val (.ref s1), .val (.int (Int32.ofNat k1)), .val (.ref q1), .val (.int (Int32.ofNat ps.length))] [(.int ((ps).getD 1 0)), (.int (((pre ++ (ps ++ post))).getD (k1 + 1) 0))])) st269 ?_
      refine Run.st (T269.setTop (mkF m 72 #[.val (.ref s1), .val (.int (Int32.ofNat k1)), .val (.ref q1), .val (.int (Int32.ofNat ps.length))] [(.int (2 : Int32)), (.int (Int32.ofNat ps.length))])) (fun _ k => XS.icmpYes A269.here hx rfl (pc0 := 65) (pc' := 70) rfl (hb hby d31_65) rfl (teq (at_get (j := 1) hk c267)).1 (by decide) (by decide) (XS.iloadN A269.here hx rfl (hb hby d31_70) rfl (XS.iconst A269.here hx rfl (hb hby d31_71) k))) ?_
      by_cases c270 : 2 < ps.length
      · refine Run.st (T269.setTop (mkF m 78 #[.val (.ref s1), .val (.int (Int32.ofNat k1)), .val (.ref q1), .val (.int (Int32.ofNat ps.length))] [(.int (2 : Int32)), (.int (Int32.ofNat k1)), (.ref s1)])) (fun _ k => XS.icmpNo A269.here hx rfl (hb hby d31_72) rfl (tlt ((n_lt (a := 2) (by decide) (by omega)).mpr c270)).2.2.2 (XS.aloadN A269.here hx rfl (hb hby d31_75) rfl rfl (XS.iloadN A269.here hx rfl (hb hby d31_76) rfl (XS.iconst A269.here hx rfl (hb hby d31_77) k)))) ?_
        refine Run.st (T269.setTop (mkF m 79 #[.val (.ref s1), .val (.int (Int32.ofNat k1)), .val (.ref q1), .val (.int (Int32.ofNat ps.length))] [(.int ((Int32.ofNat k1) + (2 : Int32))), (.ref s1)])) (fun _ k => XS.iadd A269.here hx rfl (hb hby d31_78) rfl k) ?_
        rw [show ((Int32.ofNat k1) + (2 : Int32)) = (Int32.ofNat (k1 + 2)) from n_add k1 2]
        obtain ⟨v271, T271, h271, AA271, K271, ⟨L271, Q271⟩, st271⟩ := A269.callV hx (y := (⟨"java/lang/String", "charAt", "(I)C"⟩ : MethodName)) (z := (⟨"java/lang/String", "charAt", "(I)C"⟩ : MethodName)) (tw190 H.1) (tw191 H.1) (tw193 H.1) (tw192 H.1) (nfSel (tw193 H.1)) (by decide) S1.1 (g := (mkF m 79 #[.val (.ref s1), .val (.int (Int32.ofNat k1)), .val (.ref q1), .val (.int (Int32.ofNat ps.length))] [(.int (Int32.ofNat (k1 + 2))), (.ref s1)])) rfl (by rw [hml]; rfl) [(.int (Int32.ofNat (k1 + 2)))] [] (lenOf pd_23 rfl) rfl (Wd := 0) (by show 2 * 0 + _ ≤ _; exact Nat.le_of_eq rfl) (hb hby d31_79) (by decide) (by decide) [] (fun _ _ _ q => by obtain ⟨⟨-, rfl⟩, rfl⟩ := q; exact ⟨Fr.nil _, Keep.refl _ _⟩) all0 (fun vm0 hZ => payCh H A269.old S1 (by first | exact c270 | (simp only [List.length_append]; omega)) rfl (by decide) (by decide) hZ)
        obtain ⟨⟨rfl, q271⟩, -⟩ := Q271
        have q271 := q271.symm
        subst q271
        have A271 := AA271 [] all0
        refine Run.st (T271.setTop (mkF m 82 #[.val (.ref s1), .val (.int (Int32.ofNat k1)), .val (.ref q1), .val (.int (Int32.ofNat ps.length))] [(.int (((pre ++ (ps ++ post))).getD (k1 + 2) 0))])) st271 ?_
        refine Run.st (T271.setTop (mkF m 84 #[.val (.ref s1), .val (.int (Int32.ofNat k1)), .val (.ref q1), .val (.int (Int32.ofNat ps.length))] [(.int (2 : Int32)), (.ref q1), (.int (((pre ++ (ps ++ post))).getD (k1 + 2) 0))])) (fun _ k => XS.aloadN A271.here hx rfl (hb hby d31_82) rfl rfl (XS.iconst A271.here hx rfl (hb hby d31_83) k)) ?_
        obtain ⟨v272, T272, h272, AA272, K272, ⟨L272, Q272⟩, st272⟩ := A271.callV hx (y := (⟨"java/lang/String", "charAt", "(I)C"⟩ : MethodName)) (z := (⟨"java/lang/String", "charAt", "(I)C"⟩ : MethodName)) (tw190 H.1) (tw191 H.1) (tw193 H.1) (tw192 H.1) (nfSel (tw193 H.1)) (by decide) S2.1 (g := (mkF m 84 #[.val (.ref s1), .val (.int (Int32.ofNat k1)), .val (.ref q1), .val (.int (Int32.ofNat ps.length))] [(.int (2 : Int32)), (.ref q1), (.int (((pre ++ (ps ++ post))).getD (k1 + 2) 0))])) rfl (by rw [hml]; rfl) [(.int (2 : Int32))] [(.int (((pre ++ (ps ++ post))).getD (k1 + 2) 0))] (lenOf pd_23 rfl) rfl (Wd := 1) (by show 2 * 0 + _ ≤ _; exact Nat.le_of_eq rfl) (hb hby d31_84) (by decide) (by decide) [] (fun _ _ _ q => by obtain ⟨⟨-, rfl⟩, rfl⟩ := q; exact ⟨Fr.nil _, Keep.refl _ _⟩) all0 (fun vm0 hZ => payCh H A271.old S2 (by first | exact c270 | (simp only [List.length_append]; omega)) rfl (by decide) (by decide) hZ)
        obtain ⟨⟨rfl, q272⟩, -⟩ := Q272
        have q272 := q272.symm
        subst q272
        have A272 := AA272 [] all0
        refine Run.st (T272.setTop (mkF m 87 #[.val (.ref s1), .val (.int (Int32.ofNat k1)), .val (.ref q1), .val (.int (Int32.ofNat ps.length))] [(.int ((ps).getD 2 0)), (.int (((pre ++ (ps ++ post))).getD (k1 + 2) 0))])) st272 ?_
        refine Run.st (T272.setTop (mkF m 94 #[.val (.ref s1), .val (.int (Int32.ofNat k1)), .val (.ref q1), .val (.int (Int32.ofNat ps.length))] [(.int (3 : Int32)), (.int (Int32.ofNat ps.length))])) (fun _ k => XS.icmpYes A272.here hx rfl (pc0 := 87) (pc' := 92) rfl (hb hby d31_87) rfl (teq (at_get (j := 2) hk c270)).1 (by decide) (by decide) (XS.iloadN A272.here hx rfl (hb hby d31_92) rfl (XS.iconst A272.here hx rfl (hb hby d31_93) k))) ?_
        by_cases c273 : 3 < ps.length
        · refine Run.st (T272.setTop (mkF m 100 #[.val (.ref s1), .val (.int (Int32.ofNat k1)), .val (.ref q1), .val (.int (Int32.ofNat ps.length))] [(.int (3 : Int32)), (.int (Int32.ofNat k1)), (.ref s1)])) (fun _ k => XS.icmpNo A272.here hx rfl (hb hby d31_94) rfl (tlt ((n_lt (a := 3) (by decide) (by omega)).mpr c273)).2.2.2 (XS.aloadN A272.here hx rfl (hb hby d31_97) rfl rfl (XS.iloadN A272.here hx rfl (hb hby d31_98) rfl (XS.iconst A272.here hx rfl (hb hby d31_99) k)))) ?_
          refine Run.st (T272.setTop (mkF m 101 #[.val (.ref s1), .val (.int (Int32.ofNat k1)), .val (.ref q1), .val (.int (Int32.ofNat ps.length))] [(.int ((Int32.ofNat k1) + (3 : Int32))), (.ref s1)])) (fun _ k => XS.iadd A272.here hx rfl (hb hby d31_100) rfl k) ?_
          rw [show ((Int32.ofNat k1) + (3 : Int32)) = (Int32.ofNat (k1 + 3)) from n_add k1 3]
          obtain ⟨v274, T274, h274, AA274, K274, ⟨L274, Q274⟩, st274⟩ := A272.callV hx (y := (⟨"java/lang/String", "charAt", "(I)C"⟩ : MethodName)) (z := (⟨"java/lang/String", "charAt", "(I)C"⟩ : MethodName)) (tw190 H.1) (tw191 H.1) (tw193 H.1) (tw192 H.1) (nfSel (tw193 H.1)) (by decide) S1.1 (g := (mkF m 101 #[.val (.ref s1), .val (.int (Int32.ofNat k1)), .val (.ref q1), .val (.int (Int32.ofNat ps.length))] [(.int (Int32.ofNat (k1 + 3))), (.ref s1)])) rfl (by rw [hml]; rfl) [(.int (Int32.ofNat (k1 + 3)))] [] (lenOf pd_23 rfl) rfl (Wd := 0) (by show 2 * 0 + _ ≤ _; exact Nat.le_of_eq rfl) (hb hby d31_101) (by decide) (by decide) [] (fun _ _ _ q => by obtain ⟨⟨-, rfl⟩, rfl⟩ := q; exact ⟨Fr.nil _, Keep.refl _ _⟩) all0 (fun vm0 hZ => payCh H A272.old S1 (by first | exact c273 | (simp only [List.length_append]; omega)) rfl (by decide) (by decide) hZ)
          obtain ⟨⟨rfl, q274⟩, -⟩ := Q274
          have q274 := q274.symm
          subst q274
          have A274 := AA274 [] all0
          refine Run.st (T274.setTop (mkF m 104 #[.val (.ref s1), .val (.int (Int32.ofNat k1)), .val (.ref q1), .val (.int (Int32.ofNat ps.length))] [(.int (((pre ++ (ps ++ post))).getD (k1 + 3) 0))])) st274 ?_
          refine Run.st (T274.setTop (mkF m 106 #[.val (.ref s1), .val (.int (Int32.ofNat k1)), .val (.ref q1), .val (.int (Int32.ofNat ps.length))] [(.int (3 : Int32)), (.ref q1), (.int (((pre ++ (ps ++ post))).getD (k1 + 3) 0))])) (fun _ k => XS.aloadN A274.here hx rfl (hb hby d31_104) rfl rfl (XS.iconst A274.here hx rfl (hb hby d31_105) k)) ?_
          obtain ⟨v275, T275, h275, AA275, K275, ⟨L275, Q275⟩, st275⟩ := A274.callV hx (y := (⟨"java/lang/String", "charAt", "(I)C"⟩ : MethodName)) (z := (⟨"java/lang/String", "charAt", "(I)C"⟩ : MethodName)) (tw190 H.1) (tw191 H.1) (tw193 H.1) (tw192 H.1) (nfSel (tw193 H.1)) (by decide) S2.1 (g := (mkF m 106 #[.val (.ref s1), .val (.int (Int32.ofNat k1)), .val (.ref q1), .val (.int (Int32.ofNat ps.length))] [(.int (3 : Int32)), (.ref q1), (.int (((pre ++ (ps ++ post))).getD (k1 + 3) 0))])) rfl (by rw [hml]; rfl) [(.int (3 : Int32))] [(.int (((pre ++ (ps ++ post))).getD (k1 + 3) 0))] (lenOf pd_23 rfl) rfl (Wd := 1) (by show 2 * 0 + _ ≤ _; exact Nat.le_of_eq rfl) (hb hby d31_106) (by decide) (by decide) [] (fun _ _ _ q => by obtain ⟨⟨-, rfl⟩, rfl⟩ := q; exact ⟨Fr.nil _, Keep.refl _ _⟩) all0 (fun vm0 hZ => payCh H A274.old S2 (by first | exact c273 | (simp only [List.length_append]; omega)) rfl (by decide) (by decide) hZ)
          obtain ⟨⟨rfl, q275⟩, -⟩ := Q275
          have q275 := q275.symm
          subst q275
          have A275 := AA275 [] all0
          refine Run.st (T275.setTop (mkF m 109 #[.val (.ref s1), .val (.int (Int32.ofNat k1)), .val (.ref q1), .val (.int (Int32.ofNat ps.length))] [(.int ((ps).getD 3 0)), (.int (((pre ++ (ps ++ post))).getD (k1 + 3) 0))])) st275 ?_
          refine Run.st (T275.setTop (mkF m 116 #[.val (.ref s1), .val (.int (Int32.ofNat k1)), .val (.ref q1), .val (.int (Int32.ofNat ps.length))] [(.int (4 : Int32)), (.int (Int32.ofNat ps.length))])) (fun _ k => XS.icmpYes A275.here hx rfl (pc0 := 109) (pc' := 114) rfl (hb hby d31_109) rfl (teq (at_get (j := 3) hk c273)).1 (by decide) (by decide) (XS.iloadN A275.here hx rfl (hb hby d31_114) rfl (XS.iconst A275.here hx rfl (hb hby d31_115) k))) ?_
          by_cases c276 : 4 < ps.length
          · refine Run.st (T275.setTop (mkF m 122 #[.val (.ref s1), .val (.int (Int32.ofNat k1)), .val (.ref q1), .val (.int (Int32.ofNat ps.length))] [(.int (4 : Int32)), (.int (Int32.ofNat k1)), (.ref s1)])) (fun _ k => XS.icmpNo A275.here hx rfl (hb hby d31_116) rfl (tlt ((n_lt (a := 4) (by decide) (by omega)).mpr c276)).2.2.2 (XS.aloadN A275.here hx rfl (hb hby d31_119) rfl rfl (XS.iloadN A275.here hx rfl (hb hby d31_120) rfl (XS.iconst A275.here hx rfl (hb hby d31_121) k)))) ?_
            refine Run.st (T275.setTop (mkF m 123 #[.val (.ref s1), .val (.int (Int32.ofNat k1)), .val (.ref q1), .val (.int (Int32.ofNat ps.length))] [(.int ((Int32.ofNat k1) + (4 : Int32))), (.ref s1)])) (fun _ k => XS.iadd A275.here hx rfl (hb hby d31_122) rfl k) ?_
            rw [show ((Int32.ofNat k1) + (4 : Int32)) = (Int32.ofNat (k1 + 4)) from n_add k1 4]
            obtain ⟨v277, T277, h277, AA277, K277, ⟨L277, Q277⟩, st277⟩ := A275.callV hx (y := (⟨"java/lang/String", "charAt", "(I)C"⟩ : MethodName)) (z := (⟨"java/lang/String", "charAt", "(I)C"⟩ : MethodName)) (tw190 H.1) (tw191 H.1) (tw193 H.1) (tw192 H.1) (nfSel (tw193 H.1)) (by decide) S1.1 (g := (mkF m 123 #[.val (.ref s1), .val (.int (Int32.ofNat k1)), .val (.ref q1), .val (.int (Int32.ofNat ps.length))] [(.int (Int32.ofNat (k1 + 4))), (.ref s1)])) rfl (by rw [hml]; rfl) [(.int (Int32.ofNat (k1 + 4)))] [] (lenOf pd_23 rfl) rfl (Wd := 0) (by show 2 * 0 + _ ≤ _; exact Nat.le_of_eq rfl) (hb hby d31_123) (by decide) (by decide) [] (fun _ _ _ q => by obtain ⟨⟨-, rfl⟩, rfl⟩ := q; exact ⟨Fr.nil _, Keep.refl _ _⟩) all0 (fun vm0 hZ => payCh H A275.old S1 (by first | exact c276 | (simp only [List.length_append]; omega)) rfl (by decide) (by decide) hZ)
            obtain ⟨⟨rfl, q277⟩, -⟩ := Q277
            have q277 := q277.symm
            subst q277
            have A277 := AA277 [] all0
            refine Run.st (T277.setTop (mkF m 126 #[.val (.ref s1), .val (.int (Int32.ofNat k1)), .val (.ref q1), .val (.int (Int32.ofNat ps.length))] [(.int (((pre ++ (ps ++ post))).getD (k1 + 4) 0))])) st277 ?_
            refine Run.st (T277.setTop (mkF m 128 #[.val (.ref s1), .val (.int (Int32.ofNat k1)), .val (.ref q1), .val (.int (Int32.ofNat ps.length))] [(.int (4 : Int32)), (.ref q1), (.int (((pre ++ (ps ++ post))).getD (k1 + 4) 0))])) (fun _ k => XS.aloadN A277.here hx rfl (hb hby d31_126) rfl rfl (XS.iconst A277.here hx rfl (hb hby d31_127) k)) ?_
            obtain ⟨v278, T278, h278, AA278, K278, ⟨L278, Q278⟩, st278⟩ := A277.callV hx (y := (⟨"java/lang/String", "charAt", "(I)C"⟩ : MethodName)) (z := (⟨"java/lang/String", "charAt", "(I)C"⟩ : MethodName)) (tw190 H.1) (tw191 H.1) (tw193 H.1) (tw192 H.1) (nfSel (tw193 H.1)) (by decide) S2.1 (g := (mkF m 128 #[.val (.ref s1), .val (.int (Int32.ofNat k1)), .val (.ref q1), .val (.int (Int32.ofNat ps.length))] [(.int (4 : Int32)), (.ref q1), (.int (((pre ++ (ps ++ post))).getD (k1 + 4) 0))])) rfl (by rw [hml]; rfl) [(.int (4 : Int32))] [(.int (((pre ++ (ps ++ post))).getD (k1 + 4) 0))] (lenOf pd_23 rfl) rfl (Wd := 1) (by show 2 * 0 + _ ≤ _; exact Nat.le_of_eq rfl) (hb hby d31_128) (by decide) (by decide) [] (fun _ _ _ q => by obtain ⟨⟨-, rfl⟩, rfl⟩ := q; exact ⟨Fr.nil _, Keep.refl _ _⟩) all0 (fun vm0 hZ => payCh H A277.old S2 (by first | exact c276 | (simp only [List.length_append]; omega)) rfl (by decide) (by decide) hZ)
            obtain ⟨⟨rfl, q278⟩, -⟩ := Q278
            have q278 := q278.symm
            subst q278
            have A278 := AA278 [] all0
            refine Run.st (T278.setTop (mkF m 131 #[.val (.ref s1), .val (.int (Int32.ofNat k1)), .val (.ref q1), .val (.int (Int32.ofNat ps.length))] [(.int ((ps).getD 4 0)), (.int (((pre ++ (ps ++ post))).getD (k1 + 4) 0))])) st278 ?_
            refine Run.st (T278.setTop (mkF m 138 #[.val (.ref s1), .val (.int (Int32.ofNat k1)), .val (.ref q1), .val (.int (Int32.ofNat ps.length))] [(.int (5 : Int32)), (.int (Int32.ofNat ps.length))])) (fun _ k => XS.icmpYes A278.here hx rfl (pc0 := 131) (pc' := 136) rfl (hb hby d31_131) rfl (teq (at_get (j := 4) hk c276)).1 (by decide) (by decide) (XS.iloadN A278.here hx rfl (hb hby d31_136) rfl (XS.iconst A278.here hx rfl (hb hby d31_137) k))) ?_
            by_cases c279 : 5 < ps.length
            · refine Run.st (T278.setTop (mkF m 144 #[.val (.ref s1), .val (.int (Int32.ofNat k1)), .val (.ref q1), .val (.int (Int32.ofNat ps.length))] [(.int (5 : Int32)), (.int (Int32.ofNat k1)), (.ref s1)])) (fun _ k => XS.icmpNo A278.here hx rfl (hb hby d31_138) rfl (tlt ((n_lt (a := 5) (by decide) (by omega)).mpr c279)).2.2.2 (XS.aloadN A278.here hx rfl (hb hby d31_141) rfl rfl (XS.iloadN A278.here hx rfl (hb hby d31_142) rfl (XS.iconst A278.here hx rfl (hb hby d31_143) k)))) ?_
              refine Run.st (T278.setTop (mkF m 145 #[.val (.ref s1), .val (.int (Int32.ofNat k1)), .val (.ref q1), .val (.int (Int32.ofNat ps.length))] [(.int ((Int32.ofNat k1) + (5 : Int32))), (.ref s1)])) (fun _ k => XS.iadd A278.here hx rfl (hb hby d31_144) rfl k) ?_
              rw [show ((Int32.ofNat k1) + (5 : Int32)) = (Int32.ofNat (k1 + 5)) from n_add k1 5]
              obtain ⟨v280, T280, h280, AA280, K280, ⟨L280, Q280⟩, st280⟩ := A278.callV hx (y := (⟨"java/lang/String", "charAt", "(I)C"⟩ : MethodName)) (z := (⟨"java/lang/String", "charAt", "(I)C"⟩ : MethodName)) (tw190 H.1) (tw191 H.1) (tw193 H.1) (tw192 H.1) (nfSel (tw193 H.1)) (by decide) S1.1 (g := (mkF m 145 #[.val (.ref s1), .val (.int (Int32.ofNat k1)), .val (.ref q1), .val (.int (Int32.ofNat ps.length))] [(.int (Int32.ofNat (k1 + 5))), (.ref s1)])) rfl (by rw [hml]; rfl) [(.int (Int32.ofNat (k1 + 5)))] [] (lenOf pd_23 rfl) rfl (Wd := 0) (by show 2 * 0 + _ ≤ _; exact Nat.le_of_eq rfl) (hb hby d31_145) (by decide) (by decide) [] (fun _ _ _ q => by obtain ⟨⟨-, rfl⟩, rfl⟩ := q; exact ⟨Fr.nil _, Keep.refl _ _⟩) all0 (fun vm0 hZ => payCh H A278.old S1 (by first | exact c279 | (simp only [List.length_append]; omega)) rfl (by decide) (by decide) hZ)
              obtain ⟨⟨rfl, q280⟩, -⟩ := Q280
              have q280 := q280.symm
              subst q280
              have A280 := AA280 [] all0
              refine Run.st (T280.setTop (mkF m 148 #[.val (.ref s1), .val (.int (Int32.ofNat k1)), .val (.ref q1), .val (.int (Int32.ofNat ps.length))] [(.int (((pre ++ (ps ++ post))).getD (k1 + 5) 0))])) st280 ?_
              refine Run.st (T280.setTop (mkF m 150 #[.val (.ref s1), .val (.int (Int32.ofNat k1)), .val (.ref q1), .val (.int (Int32.ofNat ps.length))] [(.int (5 : Int32)), (.ref q1), (.int (((pre ++ (ps ++ post))).getD (k1 + 5) 0))])) (fun _ k => XS.aloadN A280.here hx rfl (hb hby d31_148) rfl rfl (XS.iconst A280.here hx rfl (hb hby d31_149) k)) ?_
              obtain ⟨v281, T281, h281, AA281, K281, ⟨L281, Q281⟩, st281⟩ := A280.callV hx (y := (⟨"java/lang/String", "charAt", "(I)C"⟩ : MethodName)) (z := (⟨"java/lang/String", "charAt", "(I)C"⟩ : MethodName)) (tw190 H.1) (tw191 H.1) (tw193 H.1) (tw192 H.1) (nfSel (tw193 H.1)) (by decide) S2.1 (g := (mkF m 150 #[.val (.ref s1), .val (.int (Int32.ofNat k1)), .val (.ref q1), .val (.int (Int32.ofNat ps.length))] [(.int (5 : Int32)), (.ref q1), (.int (((pre ++ (ps ++ post))).getD (k1 + 5) 0))])) rfl (by rw [hml]; rfl) [(.int (5 : Int32))] [(.int (((pre ++ (ps ++ post))).getD (k1 + 5) 0))] (lenOf pd_23 rfl) rfl (Wd := 1) (by show 2 * 0 + _ ≤ _; exact Nat.le_of_eq rfl) (hb hby d31_150) (by decide) (by decide) [] (fun _ _ _ q => by obtain ⟨⟨-, rfl⟩, rfl⟩ := q; exact ⟨Fr.nil _, Keep.refl _ _⟩) all0 (fun vm0 hZ => payCh H A280.old S2 (by first | exact c279 | (simp only [List.length_append]; omega)) rfl (by decide) (by decide) hZ)
              obtain ⟨⟨rfl, q281⟩, -⟩ := Q281
              have q281 := q281.symm
              subst q281
              have A281 := AA281 [] all0
              refine Run.st (T281.setTop (mkF m 153 #[.val (.ref s1), .val (.int (Int32.ofNat k1)), .val (.ref q1), .val (.int (Int32.ofNat ps.length))] [(.int ((ps).getD 5 0)), (.int (((pre ++ (ps ++ post))).getD (k1 + 5) 0))])) st281 ?_
              refine Run.st (T281.setTop (mkF m 159 #[.val (.ref s1), .val (.int (Int32.ofNat k1)), .val (.ref q1), .val (.int (Int32.ofNat ps.length))] [(.int (1 : Int32))])) (fun _ k => XS.icmpYes A281.here hx rfl (pc0 := 153) (pc' := 158) rfl (hb hby d31_153) rfl (teq (at_get (j := 5) hk c279)).1 (by decide) (by decide) (XS.iconst A281.here hx rfl (hb hby d31_158) k)) ?_
              exact A281.leaveN hlk (some (.int (1 : Int32))) (fun q => by rw [hrt] at q; cases q) (by decide) (by decide) ⟨rfl, rfl⟩ (fun X hr => retN X hx (t := .boolean) hrt (by simp) (hb hby d31_159) hr)
            · refine Run.st (T278.setTop (mkF m 159 #[.val (.ref s1), .val (.int (Int32.ofNat k1)), .val (.ref q1), .val (.int (Int32.ofNat ps.length))] [(.int (1 : Int32))])) (fun _ k => XS.icmpYes A278.here hx rfl (pc0 := 138) (pc' := 158) rfl (hb hby d31_138) rfl (flt (fun q => c279 ((n_lt (a := 5) (by decide) (by omega)).mp q))).2.2.2 (by decide) (by decide) (XS.iconst A278.here hx rfl (hb hby d31_158) k)) ?_
              exact A278.leaveN hlk (some (.int (1 : Int32))) (fun q => by rw [hrt] at q; cases q) (by decide) (by decide) ⟨rfl, rfl⟩ (fun X hr => retN X hx (t := .boolean) hrt (by simp) (hb hby d31_159) hr)
          · refine Run.st (T275.setTop (mkF m 159 #[.val (.ref s1), .val (.int (Int32.ofNat k1)), .val (.ref q1), .val (.int (Int32.ofNat ps.length))] [(.int (1 : Int32))])) (fun _ k => XS.icmpYes A275.here hx rfl (pc0 := 116) (pc' := 136) rfl (hb hby d31_116) rfl (flt (fun q => c276 ((n_lt (a := 4) (by decide) (by omega)).mp q))).2.2.2 (by decide) (by decide) (XS.iloadN A275.here hx rfl (hb hby d31_136) rfl (XS.iconst A275.here hx rfl (hb hby d31_137) (XS.icmpYes A275.here hx rfl (pc0 := 138) (pc' := 158) rfl (hb hby d31_138) rfl (flt (fun q => absurd ((n_lt (a := 5) (by decide) (by omega)).mp q) (by omega))).2.2.2 (by decide) (by decide) (XS.iconst A275.here hx rfl (hb hby d31_158) k))))) ?_
            exact A275.leaveN hlk (some (.int (1 : Int32))) (fun q => by rw [hrt] at q; cases q) (by decide) (by decide) ⟨rfl, rfl⟩ (fun X hr => retN X hx (t := .boolean) hrt (by simp) (hb hby d31_159) hr)
        · refine Run.st (T272.setTop (mkF m 159 #[.val (.ref s1), .val (.int (Int32.ofNat k1)), .val (.ref q1), .val (.int (Int32.ofNat ps.length))] [(.int (1 : Int32))])) (fun _ k => XS.icmpYes A272.here hx rfl (pc0 := 94) (pc' := 114) rfl (hb hby d31_94) rfl (flt (fun q => c273 ((n_lt (a := 3) (by decide) (by omega)).mp q))).2.2.2 (by decide) (by decide) (XS.iloadN A272.here hx rfl (hb hby d31_114) rfl (XS.iconst A272.here hx rfl (hb hby d31_115) (XS.icmpYes A272.here hx rfl (pc0 := 116) (pc' := 136) rfl (hb hby d31_116) rfl (flt (fun q => absurd ((n_lt (a := 4) (by decide) (by omega)).mp q) (by omega))).2.2.2 (by decide) (by decide) (XS.iloadN A272.here hx rfl (hb hby d31_136) rfl (XS.iconst A272.here hx rfl (hb hby d31_137) (XS.icmpYes A272.here hx rfl (pc0 := 138) (pc' := 158) rfl (hb hby d31_138) rfl (flt (fun q => absurd ((n_lt (a := 5) (by decide) (by omega)).mp q) (by omega))).2.2.2 (by decide) (by decide) (XS.iconst A272.here hx rfl (hb hby d31_158) k)))))))) ?_
          exact A272.leaveN hlk (some (.int (1 : Int32))) (fun q => by rw [hrt] at q; cases q) (by decide) (by decide) ⟨rfl, rfl⟩ (fun X hr => retN X hx (t := .boolean) hrt (by simp) (hb hby d31_159) hr)
      · refine Run.st (T269.setTop (mkF m 138 #[.val (.ref s1), .val (.int (Int32.ofNat k1)), .val (.ref q1), .val (.int (Int32.ofNat ps.length))] [(.int (5 : Int32)), (.int (Int32.ofNat ps.length))])) (fun _ k => XS.icmpYes A269.here hx rfl (pc0 := 72) (pc' := 92) rfl (hb hby d31_72) rfl (flt (fun q => c270 ((n_lt (a := 2) (by decide) (by omega)).mp q))).2.2.2 (by decide) (by decide) (XS.iloadN A269.here hx rfl (hb hby d31_92) rfl (XS.iconst A269.here hx rfl (hb hby d31_93) (XS.icmpYes A269.here hx rfl (pc0 := 94) (pc' := 114) rfl (hb hby d31_94) rfl (flt (fun q => absurd ((n_lt (a := 3) (by decide) (by omega)).mp q) (by omega))).2.2.2 (by decide) (by decide) (XS.iloadN A269.here hx rfl (hb hby d31_114) rfl (XS.iconst A269.here hx rfl (hb hby d31_115) (XS.icmpYes A269.here hx rfl (pc0 := 116) (pc' := 136) rfl (hb hby d31_116) rfl (flt (fun q => absurd ((n_lt (a := 4) (by decide) (by omega)).mp q) (by omega))).2.2.2 (by decide) (by decide) (XS.iloadN A269.here hx rfl (hb hby d31_136) rfl (XS.iconst A269.here hx rfl (hb hby d31_137) k))))))))) ?_
        refine Run.st (T269.setTop (mkF m 159 #[.val (.ref s1), .val (.int (Int32.ofNat k1)), .val (.ref q1), .val (.int (Int32.ofNat ps.length))] [(.int (1 : Int32))])) (fun _ k => XS.icmpYes A269.here hx rfl (pc0 := 138) (pc' := 158) rfl (hb hby d31_138) rfl (flt (fun q => absurd ((n_lt (a := 5) (by decide) (by omega)).mp q) (by omega))).2.2.2 (by decide) (by decide) (XS.iconst A269.here hx rfl (hb hby d31_158) k)) ?_
        exact A269.leaveN hlk (some (.int (1 : Int32))) (fun q => by rw [hrt] at q; cases q) (by decide) (by decide) ⟨rfl, rfl⟩ (fun X hr => retN X hx (t := .boolean) hrt (by simp) (hb hby d31_159) hr)
    · refine Run.st (T266.setTop (mkF m 116 #[.val (.ref s1), .val (.int (Int32.ofNat k1)), .val (.ref q1), .val (.int (Int32.ofNat ps.length))] [(.int (4 : Int32)), (.int (Int32.ofNat ps.length))])) (fun _ k => XS.icmpYes A266.here hx rfl (pc0 := 50) (pc' := 70) rfl (hb hby d31_50) rfl (flt (fun q => c267 ((n_lt (a := 1) (by decide) (by omega)).mp q))).2.2.2 (by decide) (by decide) (XS.iloadN A266.here hx rfl (hb hby d31_70) rfl (XS.iconst A266.here hx rfl (hb hby d31_71) (XS.icmpYes A266.here hx rfl (pc0 := 72) (pc' := 92) rfl (hb hby d31_72) rfl (flt (fun q => absurd ((n_lt (a := 2) (by decide) (by omega)).mp q) (by omega))).2.2.2 (by decide) (by decide) (XS.iloadN A266.here hx rfl (hb hby d31_92) rfl (XS.iconst A266.here hx rfl (hb hby d31_93) (XS.icmpYes A266.here hx rfl (pc0 := 94) (pc' := 114) rfl (hb hby d31_94) rfl (flt (fun q => absurd ((n_lt (a := 3) (by decide) (by omega)).mp q) (by omega))).2.2.2 (by decide) (by decide) (XS.iloadN A266.here hx rfl (hb hby d31_114) rfl (XS.iconst A266.here hx rfl (hb hby d31_115) k))))))))) ?_
      refine Run.st (T266.setTop (mkF m 159 #[.val (.ref s1), .val (.int (Int32.ofNat k1)), .val (.ref q1), .val (.int (Int32.ofNat ps.length))] [(.int (1 : Int32))])) (fun _ k => XS.icmpYes A266.here hx rfl (pc0 := 116) (pc' := 136) rfl (hb hby d31_116) rfl (flt (fun q => absurd ((n_lt (a := 4) (by decide) (by omega)).mp q) (by omega))).2.2.2 (by decide) (by decide) (XS.iloadN A266.here hx rfl (hb hby d31_136) rfl (XS.iconst A266.here hx rfl (hb hby d31_137) (XS.icmpYes A266.here hx rfl (pc0 := 138) (pc' := 158) rfl (hb hby d31_138) rfl (flt (fun q => absurd ((n_lt (a := 5) (by decide) (by omega)).mp q) (by omega))).2.2.2 (by decide) (by decide) (XS.iconst A266.here hx rfl (hb hby d31_158) k))))) ?_
      exact A266.leaveN hlk (some (.int (1 : Int32))) (fun q => by rw [hrt] at q; cases q) (by decide) (by decide) ⟨rfl, rfl⟩ (fun X hr => retN X hx (t := .boolean) hrt (by simp) (hb hby d31_159) hr)
  · refine Run.st (T263.setTop (mkF m 94 #[.val (.ref s1), .val (.int (Int32.ofNat k1)), .val (.ref q1), .val (.int (Int32.ofNat ps.length))] [(.int (3 : Int32)), (.int (Int32.ofNat ps.length))])) (fun _ k => XS.ifYes A263.here hx rfl (pc0 := 30) (pc' := 48) rfl (hb hby d31_30) rfl (by rw [if0]; exact (flt (fun q => c264 ((n_lt (a := 0) (by decide) (by omega)).mp q))).2.2.2) (by decide) (by decide) (XS.iloadN A263.here hx rfl (hb hby d31_48) rfl (XS.iconst A263.here hx rfl (hb hby d31_49) (XS.icmpYes A263.here hx rfl (pc0 := 50) (pc' := 70) rfl (hb hby d31_50) rfl (flt (fun q => absurd ((n_lt (a := 1) (by decide) (by omega)).mp q) (by omega))).2.2.2 (by decide) (by decide) (XS.iloadN A263.here hx rfl (hb hby d31_70) rfl (XS.iconst A263.here hx rfl (hb hby d31_71) (XS.icmpYes A263.here hx rfl (pc0 := 72) (pc' := 92) rfl (hb hby d31_72) rfl (flt (fun q => absurd ((n_lt (a := 2) (by decide) (by omega)).mp q) (by omega))).2.2.2 (by decide) (by decide) (XS.iloadN A263.here hx rfl (hb hby d31_92) rfl (XS.iconst A263.here hx rfl (hb hby d31_93) k))))))))) ?_
    refine Run.st (T263.setTop (mkF m 159 #[.val (.ref s1), .val (.int (Int32.ofNat k1)), .val (.ref q1), .val (.int (Int32.ofNat ps.length))] [(.int (1 : Int32))])) (fun _ k => XS.icmpYes A263.here hx rfl (pc0 := 94) (pc' := 114) rfl (hb hby d31_94) rfl (flt (fun q => absurd ((n_lt (a := 3) (by decide) (by omega)).mp q) (by omega))).2.2.2 (by decide) (by decide) (XS.iloadN A263.here hx rfl (hb hby d31_114) rfl (XS.iconst A263.here hx rfl (hb hby d31_115) (XS.icmpYes A263.here hx rfl (pc0 := 116) (pc' := 136) rfl (hb hby d31_116) rfl (flt (fun q => absurd ((n_lt (a := 4) (by decide) (by omega)).mp q) (by omega))).2.2.2 (by decide) (by decide) (XS.iloadN A263.here hx rfl (hb hby d31_136) rfl (XS.iconst A263.here hx rfl (hb hby d31_137) (XS.icmpYes A263.here hx rfl (pc0 := 138) (pc' := 158) rfl (hb hby d31_138) rfl (flt (fun q => absurd ((n_lt (a := 5) (by decide) (by omega)).mp q) (by omega))).2.2.2 (by decide) (by decide) (XS.iconst A263.here hx rfl (hb hby d31_158) k)))))))) ?_
    exact A263.leaveN hlk (some (.int (1 : Int32))) (fun q => by rw [hrt] at q; cases q) (by decide) (by decide) ⟨rfl, rfl⟩ (fun X hr => retN X hx (t := .boolean) hrt (by simp) (hb hby d31_159) hr)
theorem ef_law (m : MethodId) (y0 : Int32) (y1 : Int32) (y2 : Int32) (y3 : Int32) : entryFrame m #[(.int y0), (.int y1), (.int y2), (.int y3)] maxLocals = mkF m 0 #[.val (.int y0), .val (.int y1), .val (.int y2), .val (.int y3), .unset, .unset, .unset, .unset, .unset, .unset, .unset, .unset] [] := by first | (simp [entryFrame, mkF, argsToLocals, Value.category, maxLocals]; done) | rfl
def Q_law (Z : State) (p0 : Int32) (p1 : Int32) (p2 : Int32) (p3 : Int32) (h0 : Heap) (v : Option Value) (h : Heap) : Prop := v = some (.int 1)
set_option maxRecDepth 65536 in
set_option maxHeartbeats 40000000 in
theorem ct_law {l : Launch} {Z : State} {a0 : Array Value} (H : Ev Z a0) (p0 : Int32) (p1 : Int32) (p2 : Int32) (p3 : Int32) {h0 : Heap} {n0 : Nat} (O0 : Old Z n0 h0) : CtrW l Z EL x code maxLocals ret tables_1 room_1 #[(.int p0), (.int p1), (.int p2), (.int p3)] h0 [] n0 (Q_law Z p0 p1 p2 p3 h0) := by
  refine enterW (a0 := a0) (plainFor_of_name pn_5) (elA H) O0 all0 ?_
  intro p e s m below meth c T0 hx hby hml hrt hnm hlk hh0 A0
  replace A0 : Wk true Z a0 EL n0 h0 [] "com/example/gate_to_handlers/gatetohandlers/ObjectErrorToStringPinLaw" p l e room_1 s m #[(.int p0), (.int p1), (.int p2), (.int p3)] below meth c [] T0 h0 0 0 := A0
  refine Run.st (T0.setTop (mkF m 0 #[.val (.int p0), .val (.int p1), .val (.int p2), .val (.int p3), .unset, .unset, .unset, .unset, .unset, .unset, .unset, .unset] [])) (fun _ k => castTop (ef_law m p0 p1 p2 p3) k) ?_
  refine Run.st (T0.setTop (mkF m 4 #[.val (.int p0), .val (.int p1), .val (.int p2), .val (.int p3), .unset, .unset, .unset, .unset, .unset, .unset, .unset, .unset] [(.int (p3 &&& (3 : Int32))), (.int p0)])) (fun _ k => XS.iloadN A0.here hx rfl (hb hby at_0) rfl (XS.iloadN A0.here hx rfl (hb hby at_1) rfl (XS.iconst A0.here hx rfl (hb hby at_2) (XS.iand A0.here hx rfl (hb hby at_3) rfl k)))) ?_
  obtain ⟨v282, T282, h282, A282, K282, ⟨L282, Q282⟩, st282⟩ := A0.callSW hx (tw0 H.1) (tw1 H.1) (tw2 H.1) (tw3 H.1) (by decide) (g := (mkF m 4 #[.val (.int p0), .val (.int p1), .val (.int p2), .val (.int p3), .unset, .unset, .unset, .unset, .unset, .unset, .unset, .unset] [(.int (p3 &&& (3 : Int32))), (.int p0)])) rfl (by rw [hml]; rfl) [(.int p0), (.int (p3 &&& (3 : Int32)))] [] (lenOf pd_24 rfl) rfl (Wd := 0) (by show 2 * 0 + _ ≤ _; exact Nat.le_of_eq rfl) (hb hby at_4) (by decide) (by decide) [] (fun _ _ _ q => q.2) all0 (fun vm0 hZ hE hC hS => payW (ct_make H p0 (p3 &&& (3 : Int32)) A0.old) (tw3 H.1) (tw2 H.1) (by decide) (by decide) hZ hE hC hS)
  obtain ⟨Q282, N282, -⟩ := Q282
  obtain ⟨w282, o282, rfl, X282, R282⟩ := Q282
  have r282 := R282.ref
  have l282 := R282.len
  refine Run.st (T282.setTop (mkF m 7 #[.val (.int p0), .val (.int p1), .val (.int p2), .val (.int p3), .unset, .unset, .unset, .unset, .unset, .unset, .unset, .unset] [w282])) st282 ?_
  refine Run.st (T282.setTop (mkF m 15 #[.val (.int p0), .val (.int p1), .val (.int p2), .val (.int p3), .val w282, .unset, .unset, .unset, .unset, .unset, .unset, .unset] [(.int ((XT.ushr p3 (2 : Int32)) &&& (3 : Int32))), (.int p1)])) (fun _ k => XS.astore A282.here hx rfl (hb hby at_7) rfl r282 (l' := #[.val (.int p0), .val (.int p1), .val (.int p2), .val (.int p3), .val w282, .unset, .unset, .unset, .unset, .unset, .unset, .unset]) (stoR rfl (Or.inl rfl) r282 rfl) (XS.iloadN A282.here hx rfl (hb hby at_9) rfl (XS.iloadN A282.here hx rfl (hb hby at_10) rfl (XS.iconst A282.here hx rfl (hb hby at_11) (XT.iushr A282.here hx rfl (hb hby at_12) rfl (XS.iconst A282.here hx rfl (hb hby at_13) (XS.iand A282.here hx rfl (hb hby at_14) rfl k))))))) ?_
  obtain ⟨v283, T283, h283, A283, K283, ⟨L283, Q283⟩, st283⟩ := A282.callSW hx (tw0 H.1) (tw1 H.1) (tw2 H.1) (tw3 H.1) (by decide) (g := (mkF m 15 #[.val (.int p0), .val (.int p1), .val (.int p2), .val (.int p3), .val w282, .unset, .unset, .unset, .unset, .unset, .unset, .unset] [(.int ((XT.ushr p3 (2 : Int32)) &&& (3 : Int32))), (.int p1)])) rfl (by rw [hml]; rfl) [(.int p1), (.int ((XT.ushr p3 (2 : Int32)) &&& (3 : Int32)))] [] (lenOf pd_24 rfl) rfl (Wd := 0) (by show 2 * 0 + _ ≤ _; exact Nat.le_of_eq rfl) (hb hby at_15) (by decide) (by decide) [] (fun _ _ _ q => q.2) all0 (fun vm0 hZ hE hC hS => payW (ct_make H p1 ((XT.ushr p3 (2 : Int32)) &&& (3 : Int32)) A282.old) (tw3 H.1) (tw2 H.1) (by decide) (by decide) hZ hE hC hS)
  obtain ⟨Q283, N283, -⟩ := Q283
  obtain ⟨w283, o283, rfl, X283, R283⟩ := Q283
  have r283 := R283.ref
  have l283 := R283.len
  refine Run.st (T283.setTop (mkF m 18 #[.val (.int p0), .val (.int p1), .val (.int p2), .val (.int p3), .val w282, .unset, .unset, .unset, .unset, .unset, .unset, .unset] [w283])) st283 ?_
  refine Run.st (T283.setTop (mkF m 26 #[.val (.int p0), .val (.int p1), .val (.int p2), .val (.int p3), .val w282, .val w283, .unset, .unset, .unset, .unset, .unset, .unset] [(.int ((XT.ushr p3 (4 : Int32)) &&& (3 : Int32))), (.int p2)])) (fun _ k => XS.astore A283.here hx rfl (hb hby at_18) rfl r283 (l' := #[.val (.int p0), .val (.int p1), .val (.int p2), .val (.int p3), .val w282, .val w283, .unset, .unset, .unset, .unset, .unset, .unset]) (stoR rfl (Or.inl rfl) r283 rfl) (XS.iloadN A283.here hx rfl (hb hby at_20) rfl (XS.iloadN A283.here hx rfl (hb hby at_21) rfl (XS.iconst A283.here hx rfl (hb hby at_22) (XT.iushr A283.here hx rfl (hb hby at_23) rfl (XS.iconst A283.here hx rfl (hb hby at_24) (XS.iand A283.here hx rfl (hb hby at_25) rfl k))))))) ?_
  obtain ⟨v284, T284, h284, A284, K284, ⟨L284, Q284⟩, st284⟩ := A283.callSW hx (tw0 H.1) (tw1 H.1) (tw2 H.1) (tw3 H.1) (by decide) (g := (mkF m 26 #[.val (.int p0), .val (.int p1), .val (.int p2), .val (.int p3), .val w282, .val w283, .unset, .unset, .unset, .unset, .unset, .unset] [(.int ((XT.ushr p3 (4 : Int32)) &&& (3 : Int32))), (.int p2)])) rfl (by rw [hml]; rfl) [(.int p2), (.int ((XT.ushr p3 (4 : Int32)) &&& (3 : Int32)))] [] (lenOf pd_24 rfl) rfl (Wd := 0) (by show 2 * 0 + _ ≤ _; exact Nat.le_of_eq rfl) (hb hby at_26) (by decide) (by decide) [] (fun _ _ _ q => q.2) all0 (fun vm0 hZ hE hC hS => payW (ct_make H p2 ((XT.ushr p3 (4 : Int32)) &&& (3 : Int32)) A283.old) (tw3 H.1) (tw2 H.1) (by decide) (by decide) hZ hE hC hS)
  obtain ⟨Q284, N284, -⟩ := Q284
  obtain ⟨w284, o284, rfl, X284, R284⟩ := Q284
  have r284 := R284.ref
  have l284 := R284.len
  refine Run.st (T284.setTop (mkF m 29 #[.val (.int p0), .val (.int p1), .val (.int p2), .val (.int p3), .val w282, .val w283, .unset, .unset, .unset, .unset, .unset, .unset] [w284])) st284 ?_
  refine Run.st (T284.setTop (mkF m 31 #[.val (.int p0), .val (.int p1), .val (.int p2), .val (.int p3), .val w282, .val w283, .val w284, .unset, .unset, .unset, .unset, .unset] [])) (fun _ k => XS.astore A284.here hx rfl (hb hby at_29) rfl r284 (l' := #[.val (.int p0), .val (.int p1), .val (.int p2), .val (.int p3), .val w282, .val w283, .val w284, .unset, .unset, .unset, .unset, .unset]) (stoR rfl (Or.inl rfl) r284 rfl) k) ?_
  obtain ⟨a285, T285, h285, A285, E285, g285, Ex285, D285, st285⟩ := A284.newO hx (tw26 H.1) (tw27 H.1) (tw28 H.1) (g := (mkF m 31 #[.val (.int p0), .val (.int p1), .val (.int p2), .val (.int p3), .val w282, .val w283, .val w284, .unset, .unset, .unset, .unset, .unset] [])) rfl (hb hby at_31) (by decide) (by decide)
  refine Run.st (T285.setTop (mkF m 34 #[.val (.int p0), .val (.int p1), .val (.int p2), .val (.int p3), .val w282, .val w283, .val w284, .unset, .unset, .unset, .unset, .unset] [(.ref a285)])) st285 ?_
  refine Run.st (T285.setTop (mkF m 41 #[.val (.int p0), .val (.int p1), .val (.int p2), .val (.int p3), .val w282, .val w283, .val w284, .unset, .unset, .unset, .unset, .unset] [w284, w282, w283, (.ref a285), (.ref a285)])) (fun _ k => XS.dup A285.here hx rfl (hb hby at_34) rfl rfl (XS.aload A285.here hx rfl (hb hby at_35) rfl r283 (XS.aload A285.here hx rfl (hb hby at_37) rfl r282 (XS.aload A285.here hx rfl (hb hby at_39) rfl r284 k)))) ?_
  have F287 : Fld Z h285 a285 "com/example/gate_to_handlers/gatetohandlers/ObjectError" "objectName" "Ljava/lang/String;" .null := D285 (Or.inr (tw34 H.1)) (ty := (.object "java/lang/String")) (by decide)
  have F288 : Fld Z h285 a285 "com/example/gate_to_handlers/gatetohandlers/ObjectError" "code" "Ljava/lang/String;" .null := D285 (Or.inr (tw36 H.1)) (ty := (.object "java/lang/String")) (by decide)
  have F289 : Fld Z h285 a285 "com/example/gate_to_handlers/gatetohandlers/ObjectError" "defaultMessage" "Ljava/lang/String;" .null := D285 (Or.inr (tw38 H.1)) (ty := (.object "java/lang/String")) (by decide)
  obtain ⟨v286, T286, h286, AA286, K286, ⟨L286, Q286⟩, st286⟩ := A285.callI hx (y := (⟨"com/example/gate_to_handlers/gatetohandlers/ObjectError", "<init>", "(Ljava/lang/String;Ljava/lang/String;Ljava/lang/String;)V"⟩ : MethodName)) rfl (tw29 H.1) (tw30 H.1) (tw31 H.1) (by decide) (g := (mkF m 41 #[.val (.int p0), .val (.int p1), .val (.int p2), .val (.int p3), .val w282, .val w283, .val w284, .unset, .unset, .unset, .unset, .unset] [w284, w282, w283, (.ref a285), (.ref a285)])) rfl (by rw [hml]; rfl) a285 [w283, w282, w284] [(.ref a285)] (lenOf pd_25 rfl) rfl (Wd := 1) (by show 2 * 0 + _ ≤ _; exact Nat.le_of_eq rfl) (hb hby at_41) (by decide) (by decide) [a285] (fun _ _ _ q => q.2) (allS (List.mem_of_getElem? (i := 0) rfl) all0) (fun vm0 hZ => payN (ct_oe H a285 w283 w282 w284 .null .null .null A285.old Ex285 (A285.nle (List.mem_of_getElem? (i := 0) rfl)) Ex285.lt F287 F288 F289 r283 r282 r284) (tw31 H.1) (tw28 H.1) (by decide) (by decide) hZ)
  obtain ⟨Q286, N286, -⟩ := Q286
  obtain ⟨rfl, Ec286, Fc286_objectName, Fc286_code, Fc286_defaultMessage⟩ := Q286
  have A286 := AA286 [] all0
  refine Run.st (T286.setTop (mkF m 44 #[.val (.int p0), .val (.int p1), .val (.int p2), .val (.int p3), .val w282, .val w283, .val w284, .unset, .unset, .unset, .unset, .unset] [(.ref a285)])) st286 ?_
  have Z291 : h283.size ≤ h284.size := X284.1
  have X292 : Ext h283 h284 := X284
  have X293 : Ext h283 h285 := (extT X292 E285)
  have X294 : Ext h283 h286 := extK X293 K286 (allS (Nat.le_trans Z291 (Nat.le_of_eq g285)) all0)
  have f295 := R283.ext X294
  have Z296 : h282.size ≤ h283.size := X283.1
  have Z297 : h282.size ≤ h284.size := Nat.le_trans Z296 X284.1
  have X298 : Ext h282 h283 := X283
  have X299 : Ext h282 h284 := (extT X298 X284)
  have X300 : Ext h282 h285 := (extT X299 E285)
  have X301 : Ext h282 h286 := extK X300 K286 (allS (Nat.le_trans Z297 (Nat.le_of_eq g285)) all0)
  have f302 := R282.ext X301
  have X303 : Ext h284 h285 := E285
  have X304 : Ext h284 h286 := extK X303 K286 (allS (Nat.le_of_eq g285) all0)
  have f305 := R284.ext X304
  obtain ⟨v290, T290, h290, A290, K290, ⟨L290, Q290⟩, st290⟩ := A286.callVW hx (y := (⟨"com/example/gate_to_handlers/gatetohandlers/ObjectError", "toString", "()Ljava/lang/String;"⟩ : MethodName)) (z := (⟨"com/example/gate_to_handlers/gatetohandlers/ObjectError", "toString", "()Ljava/lang/String;"⟩ : MethodName)) (tw39 H.1) (tw40 H.1) (tw42 H.1) (tw41 H.1) (nfSel (tw42 H.1)) (by decide) Ec286 (g := (mkF m 44 #[.val (.int p0), .val (.int p1), .val (.int p2), .val (.int p3), .val w282, .val w283, .val w284, .unset, .unset, .unset, .unset, .unset] [(.ref a285)])) rfl (by rw [hml]; rfl) [] [] (lenOf pd_22 rfl) rfl (Wd := 0) (by show 2 * 0 + _ ≤ _; exact Nat.le_of_eq rfl) (hb hby at_44) (by decide) (by decide) [] (fun _ _ _ q => q.2) all0 (fun vm0 hZ hE hC hS => payW (ct_tos H a285 w283 o283 w282 o282 w284 o284 A286.old Fc286_objectName Fc286_code Fc286_defaultMessage f295 f302 f305) (tw43 H.1) (tw28 H.1) (by decide) (by decide) hZ hE hC hS)
  obtain ⟨Q290, N290, -⟩ := Q290
  obtain ⟨a290, rfl, X290, S290⟩ := Q290
  refine Run.st (T290.setTop (mkF m 47 #[.val (.int p0), .val (.int p1), .val (.int p2), .val (.int p3), .val w282, .val w283, .val w284, .unset, .unset, .unset, .unset, .unset] [(.ref a290)])) st290 ?_
  refine Run.st (T290.setTop (mkF m 58 #[.val (.int p0), .val (.int p1), .val (.int p2), .val (.int p3), .val w282, .val w283, .val w284, .val (.ref a290), .unset, .unset, .unset, .unset] [w282])) (fun _ k => XS.astore A290.here hx rfl (hb hby at_47) rfl rfl (l' := #[.val (.int p0), .val (.int p1), .val (.int p2), .val (.int p3), .val w282, .val w283, .val w284, .val (.ref a290), .unset, .unset, .unset, .unset]) rfl (XS.aload A290.here hx rfl (hb hby at_49) rfl rfl (XS.ifnonnullYes A290.here hx rfl (pc0 := 51) (pc' := 56) rfl (hb hby at_51) rfl (by decide) (by decide) (XS.aload A290.here hx rfl (hb hby at_56) rfl r282 k)))) ?_
  have X307 : Ext h282 h290 := (extT X301 X290)
  have f308 := R282.ext X307
  obtain ⟨v306, T306, h306, A306, K306, ⟨L306, Q306⟩, st306⟩ := A290.callSW hx (tw181 H.1) (tw182 H.1) (tw2 H.1) (tw183 H.1) (by decide) (g := (mkF m 58 #[.val (.int p0), .val (.int p1), .val (.int p2), .val (.int p3), .val w282, .val w283, .val w284, .val (.ref a290), .unset, .unset, .unset, .unset] [w282])) rfl (by rw [hml]; rfl) [w282] [] (lenOf pd_26 rfl) rfl (Wd := 0) (by show 2 * 0 + _ ≤ _; exact Nat.le_of_eq rfl) (hb hby at_58) (by decide) (by decide) [] (fun _ _ _ q => q.2) all0 (fun vm0 hZ hE hC hS => payW (ct_shown H w282 o282 A290.old f308) (tw183 H.1) (tw2 H.1) (by decide) (by decide) hZ hE hC hS)
  obtain ⟨Q306, N306, -⟩ := Q306
  obtain ⟨a306, rfl, X306, S306⟩ := Q306
  refine Run.st (T306.setTop (mkF m 61 #[.val (.int p0), .val (.int p1), .val (.int p2), .val (.int p3), .val w282, .val w283, .val w284, .val (.ref a290), .unset, .unset, .unset, .unset] [(.ref a306)])) st306 ?_
  refine Run.st (T306.setTop (mkF m 65 #[.val (.int p0), .val (.int p1), .val (.int p2), .val (.int p3), .val w282, .val w283, .val w284, .val (.ref a290), .val (.ref a306), .unset, .unset, .unset] [w283])) (fun _ k => XS.astore A306.here hx rfl (hb hby at_61) rfl rfl (l' := #[.val (.int p0), .val (.int p1), .val (.int p2), .val (.int p3), .val w282, .val w283, .val w284, .val (.ref a290), .val (.ref a306), .unset, .unset, .unset]) rfl (XS.aload A306.here hx rfl (hb hby at_63) rfl r283 k)) ?_
  have X310 : Ext h283 h290 := (extT X294 X290)
  have X311 : Ext h283 h306 := (extT X310 X306)
  have f312 := R283.ext X311
  obtain ⟨v309, T309, h309, A309, K309, ⟨L309, Q309⟩, st309⟩ := A306.callSW hx (tw181 H.1) (tw182 H.1) (tw2 H.1) (tw183 H.1) (by decide) (g := (mkF m 65 #[.val (.int p0), .val (.int p1), .val (.int p2), .val (.int p3), .val w282, .val w283, .val w284, .val (.ref a290), .val (.ref a306), .unset, .unset, .unset] [w283])) rfl (by rw [hml]; rfl) [w283] [] (lenOf pd_26 rfl) rfl (Wd := 0) (by show 2 * 0 + _ ≤ _; exact Nat.le_of_eq rfl) (hb hby at_65) (by decide) (by decide) [] (fun _ _ _ q => q.2) all0 (fun vm0 hZ hE hC hS => payW (ct_shown H w283 o283 A306.old f312) (tw183 H.1) (tw2 H.1) (by decide) (by decide) hZ hE hC hS)
  obtain ⟨Q309, N309, -⟩ := Q309
  obtain ⟨a309, rfl, X309, S309⟩ := Q309
  refine Run.st (T309.setTop (mkF m 68 #[.val (.int p0), .val (.int p1), .val (.int p2), .val (.int p3), .val w282, .val w283, .val w284, .val (.ref a290), .val (.ref a306), .unset, .unset, .unset] [(.ref a309)])) st309 ?_
  refine Run.st (T309.setTop (mkF m 72 #[.val (.int p0), .val (.int p1), .val (.int p2), .val (.int p3), .val w282, .val w283, .val w284, .val (.ref a290), .val (.ref a306), .val (.ref a309), .unset, .unset] [w284])) (fun _ k => XS.astore A309.here hx rfl (hb hby at_68) rfl rfl (l' := #[.val (.int p0), .val (.int p1), .val (.int p2), .val (.int p3), .val w282, .val w283, .val w284, .val (.ref a290), .val (.ref a306), .val (.ref a309), .unset, .unset]) rfl (XS.aload A309.here hx rfl (hb hby at_70) rfl r284 k)) ?_
  have X314 : Ext h284 h290 := (extT X304 X290)
  have X315 : Ext h284 h306 := (extT X314 X306)
  have X316 : Ext h284 h309 := (extT X315 X309)
  have f317 := R284.ext X316
  obtain ⟨v313, T313, h313, A313, K313, ⟨L313, Q313⟩, st313⟩ := A309.callSW hx (tw181 H.1) (tw182 H.1) (tw2 H.1) (tw183 H.1) (by decide) (g := (mkF m 72 #[.val (.int p0), .val (.int p1), .val (.int p2), .val (.int p3), .val w282, .val w283, .val w284, .val (.ref a290), .val (.ref a306), .val (.ref a309), .unset, .unset] [w284])) rfl (by rw [hml]; rfl) [w284] [] (lenOf pd_26 rfl) rfl (Wd := 0) (by show 2 * 0 + _ ≤ _; exact Nat.le_of_eq rfl) (hb hby at_72) (by decide) (by decide) [] (fun _ _ _ q => q.2) all0 (fun vm0 hZ hE hC hS => payW (ct_shown H w284 o284 A309.old f317) (tw183 H.1) (tw2 H.1) (by decide) (by decide) hZ hE hC hS)
  obtain ⟨Q313, N313, -⟩ := Q313
  obtain ⟨a313, rfl, X313, S313⟩ := Q313
  refine Run.st (T313.setTop (mkF m 75 #[.val (.int p0), .val (.int p1), .val (.int p2), .val (.int p3), .val w282, .val w283, .val w284, .val (.ref a290), .val (.ref a306), .val (.ref a309), .unset, .unset] [(.ref a313)])) st313 ?_
  refine Run.st (T313.setTop (mkF m 84 #[.val (.int p0), .val (.int p1), .val (.int p2), .val (.int p3), .val w282, .val w283, .val w284, .val (.ref a290), .val (.ref a306), .val (.ref a309), .val (.ref a313), .val (.int (0 : Int32))] [(.int (0 : Int32)), (.ref a290)])) (fun _ k => XS.astore A313.here hx rfl (hb hby at_75) rfl rfl (l' := #[.val (.int p0), .val (.int p1), .val (.int p2), .val (.int p3), .val w282, .val w283, .val w284, .val (.ref a290), .val (.ref a306), .val (.ref a309), .val (.ref a313), .unset]) rfl (XS.iconst A313.here hx rfl (hb hby at_77) (XS.istore A313.here hx rfl (hb hby at_78) rfl (l' := #[.val (.int p0), .val (.int p1), .val (.int p2), .val (.int p3), .val w282, .val w283, .val w284, .val (.ref a290), .val (.ref a306), .val (.ref a309), .val (.ref a313), .val (.int (0 : Int32))]) rfl (XS.aload A313.here hx rfl (hb hby at_80) rfl rfl (XS.iload A313.here hx rfl (hb hby at_82) rfl k))))) ?_
  obtain ⟨a318, b318, kA318, T318, h318, A318, E318, Ex318, Fc318, Fv318, Va318, ne318, st318⟩ := A313.ldc hx (tw185 H.1) (strsA H) (List.mem_of_getElem? (i := 4) rfl) (vs := (([(101 : Int32), (114 : Int32), (114 : Int32), (111 : Int32), (114 : Int32), (32 : Int32)] : List Int32).map fun c => c.toInt8.toInt32).map Value.int) (z := (6 : Int32)) ⟨by decide, by decide +kernel⟩ (by decide) (by decide +kernel) (g := (mkF m 84 #[.val (.int p0), .val (.int p1), .val (.int p2), .val (.int p3), .val w282, .val w283, .val w284, .val (.ref a290), .val (.ref a306), .val (.ref a309), .val (.ref a313), .val (.int (0 : Int32))] [(.int (0 : Int32)), (.ref a290)])) rfl (hb hby at_84) (q := 24) (by decide) (by decide) (by decide) (by decide)
  have S318 : StrA Z h318 a318 [(101 : Int32), (114 : Int32), (114 : Int32), (111 : Int32), (114 : Int32), (32 : Int32)] := ⟨Ex318, Fc318, ⟨b318, kA318, Fv318, Va318⟩, by decide, by decide⟩
  refine Run.st (T318.setTop (mkF m 86 #[.val (.int p0), .val (.int p1), .val (.int p2), .val (.int p3), .val w282, .val w283, .val w284, .val (.ref a290), .val (.ref a306), .val (.ref a309), .val (.ref a313), .val (.int (0 : Int32))] [(.ref a318), (.int (0 : Int32)), (.ref a290)])) st318 ?_
  have X320 : Ext h290 h306 := X306
  have X321 : Ext h290 h309 := (extT X320 X309)
  have X322 : Ext h290 h313 := (extT X321 X313)
  have X323 : Ext h290 h318 := (extT X322 E318)
  have f324 := S290.ext X323
  obtain ⟨v319, T319, h319, AA319, K319, ⟨L319, Q319⟩, st319⟩ := A318.callS hx (tw186 H.1) (tw187 H.1) (tw2 H.1) (tw188 H.1) (by decide) (g := (mkF m 86 #[.val (.int p0), .val (.int p1), .val (.int p2), .val (.int p3), .val w282, .val w283, .val w284, .val (.ref a290), .val (.ref a306), .val (.ref a309), .val (.ref a313), .val (.int (0 : Int32))] [(.ref a318), (.int (0 : Int32)), (.ref a290)])) rfl (by rw [hml]; rfl) [(.ref a290), (.int (0 : Int32)), (.ref a318)] [] (lenOf pd_27 rfl) rfl (Wd := 0) (by show 2 * 0 + _ ≤ _; exact Nat.le_of_eq rfl) (hb hby at_86) (by decide) (by decide) [] (fun _ _ _ q => q.2) all0 (fun vm0 hZ => payN (ct_at H a290 a318 ([] : List Int32) ([(101 : Int32), 114, 114, 111, 114, 32]) (shL o282 ++ ([(32 : Int32), 111, 102, 32] ++ (shL o283 ++ ([(58 : Int32), 32] ++ (shL o284))))) 0 A318.old (by simpa [List.append_assoc] using f324) S318 (by first | rfl | (simp [List.length_append]; done) | (simp [List.length_append]; omega)) (by decide)) (tw188 H.1) (tw2 H.1) (by decide) (by decide) hZ)
  obtain ⟨Q319, N319, -⟩ := Q319
  obtain ⟨rfl, q319⟩ := Q319
  have q319 := q319.symm
  subst q319
  have A319 := AA319 [] all0
  refine Run.st (T319.setTop (mkF m 89 #[.val (.int p0), .val (.int p1), .val (.int p2), .val (.int p3), .val w282, .val w283, .val w284, .val (.ref a290), .val (.ref a306), .val (.ref a309), .val (.ref a313), .val (.int (0 : Int32))] [(.int (1 : Int32))])) st319 ?_
  refine Run.st (T319.setTop (mkF m 107 #[.val (.int p0), .val (.int p1), .val (.int p2), .val (.int p3), .val w282, .val w283, .val w284, .val (.ref a290), .val (.ref a306), .val (.ref a309), .val (.ref a313), .val (.int (6 : Int32))] [(.ref a306), (.int (6 : Int32)), (.ref a290)])) (fun _ k => XS.ifYes A319.here hx rfl (pc0 := 89) (pc' := 94) rfl (hb hby at_89) rfl (by decide) (by decide) (by decide) (XS.iload A319.here hx rfl (hb hby at_94) rfl (XS.bipush A319.here hx rfl (hb hby at_96) (XS.iadd A319.here hx rfl (hb hby at_98) rfl (XS.istore A319.here hx rfl (hb hby at_99) rfl (l' := #[.val (.int p0), .val (.int p1), .val (.int p2), .val (.int p3), .val w282, .val w283, .val w284, .val (.ref a290), .val (.ref a306), .val (.ref a309), .val (.ref a313), .val (.int (6 : Int32))]) rfl (XS.aload A319.here hx rfl (hb hby at_101) rfl rfl (XS.iload A319.here hx rfl (hb hby at_103) rfl (XS.aload A319.here hx rfl (hb hby at_105) rfl rfl k)))))))) ?_
  have X326 : Ext h306 h309 := X309
  have X327 : Ext h306 h313 := (extT X326 X313)
  have X328 : Ext h306 h318 := (extT X327 E318)
  have f329 := S306.ext X328
  obtain ⟨v325, T325, h325, AA325, K325, ⟨L325, Q325⟩, st325⟩ := A319.callS hx (tw186 H.1) (tw187 H.1) (tw2 H.1) (tw188 H.1) (by decide) (g := (mkF m 107 #[.val (.int p0), .val (.int p1), .val (.int p2), .val (.int p3), .val w282, .val w283, .val w284, .val (.ref a290), .val (.ref a306), .val (.ref a309), .val (.ref a313), .val (.int (6 : Int32))] [(.ref a306), (.int (6 : Int32)), (.ref a290)])) rfl (by rw [hml]; rfl) [(.ref a290), (.int (6 : Int32)), (.ref a306)] [] (lenOf pd_27 rfl) rfl (Wd := 0) (by show 2 * 0 + _ ≤ _; exact Nat.le_of_eq rfl) (hb hby at_107) (by decide) (by decide) [] (fun _ _ _ q => q.2) all0 (fun vm0 hZ => payN (ct_at H a290 a306 ([(101 : Int32), 114, 114, 111, 114, 32]) (shL o282) ([(32 : Int32), 111, 102, 32] ++ (shL o283 ++ ([(58 : Int32), 32] ++ (shL o284)))) 6 A319.old (by simpa [List.append_assoc] using f324) f329 (by first | rfl | (simp [List.length_append]; done) | (simp [List.length_append]; omega)) (by omega)) (tw188 H.1) (tw2 H.1) (by decide) (by decide) hZ)
  obtain ⟨Q325, N325, -⟩ := Q325
  obtain ⟨rfl, q325⟩ := Q325
  have q325 := q325.symm
  subst q325
  have A325 := AA325 [] all0
  refine Run.st (T325.setTop (mkF m 110 #[.val (.int p0), .val (.int p1), .val (.int p2), .val (.int p3), .val w282, .val w283, .val w284, .val (.ref a290), .val (.ref a306), .val (.ref a309), .val (.ref a313), .val (.int (6 : Int32))] [(.int (1 : Int32))])) st325 ?_
  refine Run.st (T325.setTop (mkF m 119 #[.val (.int p0), .val (.int p1), .val (.int p2), .val (.int p3), .val w282, .val w283, .val w284, .val (.ref a290), .val (.ref a306), .val (.ref a309), .val (.ref a313), .val (.int (6 : Int32))] [(.ref a306), (.int (6 : Int32))])) (fun _ k => XS.ifYes A325.here hx rfl (pc0 := 110) (pc' := 115) rfl (hb hby at_110) rfl (by decide) (by decide) (by decide) (XS.iload A325.here hx rfl (hb hby at_115) rfl (XS.aload A325.here hx rfl (hb hby at_117) rfl rfl k))) ?_
  have f331 := S306.1.ext X328
  obtain ⟨v330, T330, h330, AA330, K330, ⟨L330, Q330⟩, st330⟩ := A325.callV hx (y := (⟨"java/lang/String", "length", "()I"⟩ : MethodName)) (z := (⟨"java/lang/String", "length", "()I"⟩ : MethodName)) (tw189 H.1) (tw74 H.1) (tw76 H.1) (tw75 H.1) (nfSel (tw76 H.1)) (by decide) f331 (g := (mkF m 119 #[.val (.int p0), .val (.int p1), .val (.int p2), .val (.int p3), .val w282, .val w283, .val w284, .val (.ref a290), .val (.ref a306), .val (.ref a309), .val (.ref a313), .val (.int (6 : Int32))] [(.ref a306), (.int (6 : Int32))])) rfl (by rw [hml]; rfl) [] [(.int (6 : Int32))] (lenOf pd_0 rfl) rfl (Wd := 1) (by show 2 * 0 + _ ≤ _; exact Nat.le_of_eq rfl) (hb hby at_119) (by decide) (by decide) [] (fun _ _ _ q => by obtain ⟨⟨-, rfl⟩, rfl⟩ := q; exact ⟨Fr.nil _, Keep.refl _ _⟩) all0 (fun vm0 hZ => payLen H A325.old f329 (by decide) (by decide) hZ)
  obtain ⟨⟨rfl, q330⟩, -⟩ := Q330
  have q330 := q330.symm
  subst q330
  have A330 := AA330 [] all0
  refine Run.st (T330.setTop (mkF m 122 #[.val (.int p0), .val (.int p1), .val (.int p2), .val (.int p3), .val w282, .val w283, .val w284, .val (.ref a290), .val (.ref a306), .val (.ref a309), .val (.ref a313), .val (.int (6 : Int32))] [(.int (Int32.ofNat ((shL o282)).length)), (.int (6 : Int32))])) st330 ?_
  refine Run.st (T330.setTop (mkF m 123 #[.val (.int p0), .val (.int p1), .val (.int p2), .val (.int p3), .val w282, .val w283, .val w284, .val (.ref a290), .val (.ref a306), .val (.ref a309), .val (.ref a313), .val (.int (6 : Int32))] [(.int ((6 : Int32) + (Int32.ofNat ((shL o282)).length)))])) (fun _ k => XS.iadd A330.here hx rfl (hb hby at_122) rfl k) ?_
  rw [show ((6 : Int32) + (Int32.ofNat ((shL o282)).length)) = (Int32.ofNat (6 + ((shL o282)).length)) from n_add 6 ((shL o282)).length]
  refine Run.st (T330.setTop (mkF m 129 #[.val (.int p0), .val (.int p1), .val (.int p2), .val (.int p3), .val w282, .val w283, .val w284, .val (.ref a290), .val (.ref a306), .val (.ref a309), .val (.ref a313), .val (.int (Int32.ofNat (6 + ((shL o282)).length)))] [(.int (Int32.ofNat (6 + ((shL o282)).length))), (.ref a290)])) (fun _ k => XS.istore A330.here hx rfl (hb hby at_123) rfl (l' := #[.val (.int p0), .val (.int p1), .val (.int p2), .val (.int p3), .val w282, .val w283, .val w284, .val (.ref a290), .val (.ref a306), .val (.ref a309), .val (.ref a313), .val (.int (Int32.ofNat (6 + ((shL o282)).length)))]) rfl (XS.aload A330.here hx rfl (hb hby at_125) rfl rfl (XS.iload A330.here hx rfl (hb hby at_127) rfl k))) ?_
  obtain ⟨a332, b332, kA332, T332, h332, A332, E332, Ex332, Fc332, Fv332, Va332, ne332, st332⟩ := A330.ldc hx (tw212 H.1) (strsA H) (List.mem_of_getElem? (i := 5) rfl) (vs := (([(32 : Int32), (111 : Int32), (102 : Int32), (32 : Int32)] : List Int32).map fun c => c.toInt8.toInt32).map Value.int) (z := (4 : Int32)) ⟨by decide, by decide +kernel⟩ (by decide) (by decide +kernel) (g := (mkF m 129 #[.val (.int p0), .val (.int p1), .val (.int p2), .val (.int p3), .val w282, .val w283, .val w284, .val (.ref a290), .val (.ref a306), .val (.ref a309), .val (.ref a313), .val (.int (Int32.ofNat (6 + ((shL o282)).length)))] [(.int (Int32.ofNat (6 + ((shL o282)).length))), (.ref a290)])) rfl (hb hby at_129) (q := 16) (by decide) (by decide) (by decide) (by decide)
  have S332 : StrA Z h332 a332 [(32 : Int32), (111 : Int32), (102 : Int32), (32 : Int32)] := ⟨Ex332, Fc332, ⟨b332, kA332, Fv332, Va332⟩, by decide, by decide⟩
  refine Run.st (T332.setTop (mkF m 131 #[.val (.int p0), .val (.int p1), .val (.int p2), .val (.int p3), .val w282, .val w283, .val w284, .val (.ref a290), .val (.ref a306), .val (.ref a309), .val (.ref a313), .val (.int (Int32.ofNat (6 + ((shL o282)).length)))] [(.ref a332), (.int (Int32.ofNat (6 + ((shL o282)).length))), (.ref a290)])) st332 ?_
  have X334 : Ext h290 h332 := (extT X323 E332)
  have f335 := S290.ext X334
  obtain ⟨v333, T333, h333, AA333, K333, ⟨L333, Q333⟩, st333⟩ := A332.callS hx (tw186 H.1) (tw187 H.1) (tw2 H.1) (tw188 H.1) (by decide) (g := (mkF m 131 #[.val (.int p0), .val (.int p1), .val (.int p2), .val (.int p3), .val w282, .val w283, .val w284, .val (.ref a290), .val (.ref a306), .val (.ref a309), .val (.ref a313), .val (.int (Int32.ofNat (6 + ((shL o282)).length)))] [(.ref a332), (.int (Int32.ofNat (6 + ((shL o282)).length))), (.ref a290)])) rfl (by rw [hml]; rfl) [(.ref a290), (.int (Int32.ofNat (6 + ((shL o282)).length))), (.ref a332)] [] (lenOf pd_27 rfl) rfl (Wd := 0) (by show 2 * 0 + _ ≤ _; exact Nat.le_of_eq rfl) (hb hby at_131) (by decide) (by decide) [] (fun _ _ _ q => q.2) all0 (fun vm0 hZ => payN (ct_at H a290 a332 ([(101 : Int32), 114, 114, 111, 114, 32] ++ shL o282) ([(32 : Int32), 111, 102, 32]) (shL o283 ++ ([(58 : Int32), 32] ++ (shL o284))) (6 + ((shL o282)).length) A332.old (by simpa [List.append_assoc] using f335) S332 (by first | rfl | (simp [List.length_append]; done) | (simp [List.length_append]; omega)) (by decide)) (tw188 H.1) (tw2 H.1) (by decide) (by decide) hZ)
  obtain ⟨Q333, N333, -⟩ := Q333
  obtain ⟨rfl, q333⟩ := Q333
  have q333 := q333.symm
  subst q333
  have A333 := AA333 [] all0
  refine Run.st (T333.setTop (mkF m 134 #[.val (.int p0), .val (.int p1), .val (.int p2), .val (.int p3), .val w282, .val w283, .val w284, .val (.ref a290), .val (.ref a306), .val (.ref a309), .val (.ref a313), .val (.int (Int32.ofNat (6 + ((shL o282)).length)))] [(.int (1 : Int32))])) st333 ?_
  refine Run.st (T333.setTop (mkF m 142 #[.val (.int p0), .val (.int p1), .val (.int p2), .val (.int p3), .val w282, .val w283, .val w284, .val (.ref a290), .val (.ref a306), .val (.ref a309), .val (.ref a313), .val (.int (Int32.ofNat (6 + ((shL o282)).length)))] [(.int (4 : Int32)), (.int (Int32.ofNat (6 + ((shL o282)).length)))])) (fun _ k => XS.ifYes A333.here hx rfl (pc0 := 134) (pc' := 139) rfl (hb hby at_134) rfl (by decide) (by decide) (by decide) (XS.iload A333.here hx rfl (hb hby at_139) rfl (XS.iconst A333.here hx rfl (hb hby at_141) k))) ?_
  refine Run.st (T333.setTop (mkF m 143 #[.val (.int p0), .val (.int p1), .val (.int p2), .val (.int p3), .val w282, .val w283, .val w284, .val (.ref a290), .val (.ref a306), .val (.ref a309), .val (.ref a313), .val (.int (Int32.ofNat (6 + ((shL o282)).length)))] [(.int ((Int32.ofNat (6 + ((shL o282)).length)) + (4 : Int32)))])) (fun _ k => XS.iadd A333.here hx rfl (hb hby at_142) rfl k) ?_
  rw [show ((Int32.ofNat (6 + ((shL o282)).length)) + (4 : Int32)) = (Int32.ofNat ((6 + ((shL o282)).length) + 4)) from n_add (6 + ((shL o282)).length) 4]
  refine Run.st (T333.setTop (mkF m 151 #[.val (.int p0), .val (.int p1), .val (.int p2), .val (.int p3), .val w282, .val w283, .val w284, .val (.ref a290), .val (.ref a306), .val (.ref a309), .val (.ref a313), .val (.int (Int32.ofNat ((6 + ((shL o282)).length) + 4)))] [(.ref a309), (.int (Int32.ofNat ((6 + ((shL o282)).length) + 4))), (.ref a290)])) (fun _ k => XS.istore A333.here hx rfl (hb hby at_143) rfl (l' := #[.val (.int p0), .val (.int p1), .val (.int p2), .val (.int p3), .val w282, .val w283, .val w284, .val (.ref a290), .val (.ref a306), .val (.ref a309), .val (.ref a313), .val (.int (Int32.ofNat ((6 + ((shL o282)).length) + 4)))]) rfl (XS.aload A333.here hx rfl (hb hby at_145) rfl rfl (XS.iload A333.here hx rfl (hb hby at_147) rfl (XS.aload A333.here hx rfl (hb hby at_149) rfl rfl k)))) ?_
  have X337 : Ext h309 h313 := X313
  have X338 : Ext h309 h318 := (extT X337 E318)
  have X339 : Ext h309 h332 := (extT X338 E332)
  have f340 := S309.ext X339
  obtain ⟨v336, T336, h336, AA336, K336, ⟨L336, Q336⟩, st336⟩ := A333.callS hx (tw186 H.1) (tw187 H.1) (tw2 H.1) (tw188 H.1) (by decide) (g := (mkF m 151 #[.val (.int p0), .val (.int p1), .val (.int p2), .val (.int p3), .val w282, .val w283, .val w284, .val (.ref a290), .val (.ref a306), .val (.ref a309), .val (.ref a313), .val (.int (Int32.ofNat ((6 + ((shL o282)).length) + 4)))] [(.ref a309), (.int (Int32.ofNat ((6 + ((shL o282)).length) + 4))), (.ref a290)])) rfl (by rw [hml]; rfl) [(.ref a290), (.int (Int32.ofNat ((6 + ((shL o282)).length) + 4))), (.ref a309)] [] (lenOf pd_27 rfl) rfl (Wd := 0) (by show 2 * 0 + _ ≤ _; exact Nat.le_of_eq rfl) (hb hby at_151) (by decide) (by decide) [] (fun _ _ _ q => q.2) all0 (fun vm0 hZ => payN (ct_at H a290 a309 ([(101 : Int32), 114, 114, 111, 114, 32] ++ shL o282 ++ [(32 : Int32), 111, 102, 32]) (shL o283) ([(58 : Int32), 32] ++ (shL o284)) ((6 + ((shL o282)).length) + 4) A333.old (by simpa [List.append_assoc] using f335) f340 (by first | rfl | (simp [List.length_append]; done) | (simp [List.length_append]; omega)) (by omega)) (tw188 H.1) (tw2 H.1) (by decide) (by decide) hZ)
  obtain ⟨Q336, N336, -⟩ := Q336
  obtain ⟨rfl, q336⟩ := Q336
  have q336 := q336.symm
  subst q336
  have A336 := AA336 [] all0
  refine Run.st (T336.setTop (mkF m 154 #[.val (.int p0), .val (.int p1), .val (.int p2), .val (.int p3), .val w282, .val w283, .val w284, .val (.ref a290), .val (.ref a306), .val (.ref a309), .val (.ref a313), .val (.int (Int32.ofNat ((6 + ((shL o282)).length) + 4)))] [(.int (1 : Int32))])) st336 ?_
  refine Run.st (T336.setTop (mkF m 163 #[.val (.int p0), .val (.int p1), .val (.int p2), .val (.int p3), .val w282, .val w283, .val w284, .val (.ref a290), .val (.ref a306), .val (.ref a309), .val (.ref a313), .val (.int (Int32.ofNat ((6 + ((shL o282)).length) + 4)))] [(.ref a309), (.int (Int32.ofNat ((6 + ((shL o282)).length) + 4)))])) (fun _ k => XS.ifYes A336.here hx rfl (pc0 := 154) (pc' := 159) rfl (hb hby at_154) rfl (by decide) (by decide) (by decide) (XS.iload A336.here hx rfl (hb hby at_159) rfl (XS.aload A336.here hx rfl (hb hby at_161) rfl rfl k))) ?_
  have f342 := S309.1.ext X339
  obtain ⟨v341, T341, h341, AA341, K341, ⟨L341, Q341⟩, st341⟩ := A336.callV hx (y := (⟨"java/lang/String", "length", "()I"⟩ : MethodName)) (z := (⟨"java/lang/String", "length", "()I"⟩ : MethodName)) (tw189 H.1) (tw74 H.1) (tw76 H.1) (tw75 H.1) (nfSel (tw76 H.1)) (by decide) f342 (g := (mkF m 163 #[.val (.int p0), .val (.int p1), .val (.int p2), .val (.int p3), .val w282, .val w283, .val w284, .val (.ref a290), .val (.ref a306), .val (.ref a309), .val (.ref a313), .val (.int (Int32.ofNat ((6 + ((shL o282)).length) + 4)))] [(.ref a309), (.int (Int32.ofNat ((6 + ((shL o282)).length) + 4)))])) rfl (by rw [hml]; rfl) [] [(.int (Int32.ofNat ((6 + ((shL o282)).length) + 4)))] (lenOf pd_0 rfl) rfl (Wd := 1) (by show 2 * 0 + _ ≤ _; exact Nat.le_of_eq rfl) (hb hby at_163) (by decide) (by decide) [] (fun _ _ _ q => by obtain ⟨⟨-, rfl⟩, rfl⟩ := q; exact ⟨Fr.nil _, Keep.refl _ _⟩) all0 (fun vm0 hZ => payLen H A336.old f340 (by decide) (by decide) hZ)
  obtain ⟨⟨rfl, q341⟩, -⟩ := Q341
  have q341 := q341.symm
  subst q341
  have A341 := AA341 [] all0
  refine Run.st (T341.setTop (mkF m 166 #[.val (.int p0), .val (.int p1), .val (.int p2), .val (.int p3), .val w282, .val w283, .val w284, .val (.ref a290), .val (.ref a306), .val (.ref a309), .val (.ref a313), .val (.int (Int32.ofNat ((6 + ((shL o282)).length) + 4)))] [(.int (Int32.ofNat ((shL o283)).length)), (.int (Int32.ofNat ((6 + ((shL o282)).length) + 4)))])) st341 ?_
  refine Run.st (T341.setTop (mkF m 167 #[.val (.int p0), .val (.int p1), .val (.int p2), .val (.int p3), .val w282, .val w283, .val w284, .val (.ref a290), .val (.ref a306), .val (.ref a309), .val (.ref a313), .val (.int (Int32.ofNat ((6 + ((shL o282)).length) + 4)))] [(.int ((Int32.ofNat ((6 + ((shL o282)).length) + 4)) + (Int32.ofNat ((shL o283)).length)))])) (fun _ k => XS.iadd A341.here hx rfl (hb hby at_166) rfl k) ?_
  rw [show ((Int32.ofNat ((6 + ((shL o282)).length) + 4)) + (Int32.ofNat ((shL o283)).length)) = (Int32.ofNat (((6 + ((shL o282)).length) + 4) + ((shL o283)).length)) from n_add ((6 + ((shL o282)).length) + 4) ((shL o283)).length]
  refine Run.st (T341.setTop (mkF m 173 #[.val (.int p0), .val (.int p1), .val (.int p2), .val (.int p3), .val w282, .val w283, .val w284, .val (.ref a290), .val (.ref a306), .val (.ref a309), .val (.ref a313), .val (.int (Int32.ofNat (((6 + ((shL o282)).length) + 4) + ((shL o283)).length)))] [(.int (Int32.ofNat (((6 + ((shL o282)).length) + 4) + ((shL o283)).length))), (.ref a290)])) (fun _ k => XS.istore A341.here hx rfl (hb hby at_167) rfl (l' := #[.val (.int p0), .val (.int p1), .val (.int p2), .val (.int p3), .val w282, .val w283, .val w284, .val (.ref a290), .val (.ref a306), .val (.ref a309), .val (.ref a313), .val (.int (Int32.ofNat (((6 + ((shL o282)).length) + 4) + ((shL o283)).length)))]) rfl (XS.aload A341.here hx rfl (hb hby at_169) rfl rfl (XS.iload A341.here hx rfl (hb hby at_171) rfl k))) ?_
  obtain ⟨a343, b343, kA343, T343, h343, A343, E343, Ex343, Fc343, Fv343, Va343, ne343, st343⟩ := A341.ldc hx (tw213 H.1) (strsA H) (List.mem_of_getElem? (i := 6) rfl) (vs := (([(58 : Int32), (32 : Int32)] : List Int32).map fun c => c.toInt8.toInt32).map Value.int) (z := (2 : Int32)) ⟨by decide, by decide +kernel⟩ (by decide) (by decide +kernel) (g := (mkF m 173 #[.val (.int p0), .val (.int p1), .val (.int p2), .val (.int p3), .val w282, .val w283, .val w284, .val (.ref a290), .val (.ref a306), .val (.ref a309), .val (.ref a313), .val (.int (Int32.ofNat (((6 + ((shL o282)).length) + 4) + ((shL o283)).length)))] [(.int (Int32.ofNat (((6 + ((shL o282)).length) + 4) + ((shL o283)).length))), (.ref a290)])) rfl (hb hby at_173) (q := 8) (by decide) (by decide) (by decide) (by decide)
  have S343 : StrA Z h343 a343 [(58 : Int32), (32 : Int32)] := ⟨Ex343, Fc343, ⟨b343, kA343, Fv343, Va343⟩, by decide, by decide⟩
  refine Run.st (T343.setTop (mkF m 175 #[.val (.int p0), .val (.int p1), .val (.int p2), .val (.int p3), .val w282, .val w283, .val w284, .val (.ref a290), .val (.ref a306), .val (.ref a309), .val (.ref a313), .val (.int (Int32.ofNat (((6 + ((shL o282)).length) + 4) + ((shL o283)).length)))] [(.ref a343), (.int (Int32.ofNat (((6 + ((shL o282)).length) + 4) + ((shL o283)).length))), (.ref a290)])) st343 ?_
  have X345 : Ext h290 h343 := (extT X334 E343)
  have f346 := S290.ext X345
  obtain ⟨v344, T344, h344, AA344, K344, ⟨L344, Q344⟩, st344⟩ := A343.callS hx (tw186 H.1) (tw187 H.1) (tw2 H.1) (tw188 H.1) (by decide) (g := (mkF m 175 #[.val (.int p0), .val (.int p1), .val (.int p2), .val (.int p3), .val w282, .val w283, .val w284, .val (.ref a290), .val (.ref a306), .val (.ref a309), .val (.ref a313), .val (.int (Int32.ofNat (((6 + ((shL o282)).length) + 4) + ((shL o283)).length)))] [(.ref a343), (.int (Int32.ofNat (((6 + ((shL o282)).length) + 4) + ((shL o283)).length))), (.ref a290)])) rfl (by rw [hml]; rfl) [(.ref a290), (.int (Int32.ofNat (((6 + ((shL o282)).length) + 4) + ((shL o283)).length))), (.ref a343)] [] (lenOf pd_27 rfl) rfl (Wd := 0) (by show 2 * 0 + _ ≤ _; exact Nat.le_of_eq rfl) (hb hby at_175) (by decide) (by decide) [] (fun _ _ _ q => q.2) all0 (fun vm0 hZ => payN (ct_at H a290 a343 ([(101 : Int32), 114, 114, 111, 114, 32] ++ shL o282 ++ [(32 : Int32), 111, 102, 32] ++ shL o283) ([(58 : Int32), 32]) (shL o284) (((6 + ((shL o282)).length) + 4) + ((shL o283)).length) A343.old (by simpa [List.append_assoc] using f346) S343 (by first | rfl | (simp [List.length_append]; done) | (simp [List.length_append]; omega)) (by decide)) (tw188 H.1) (tw2 H.1) (by decide) (by decide) hZ)
  obtain ⟨Q344, N344, -⟩ := Q344
  obtain ⟨rfl, q344⟩ := Q344
  have q344 := q344.symm
  subst q344
  have A344 := AA344 [] all0
  refine Run.st (T344.setTop (mkF m 178 #[.val (.int p0), .val (.int p1), .val (.int p2), .val (.int p3), .val w282, .val w283, .val w284, .val (.ref a290), .val (.ref a306), .val (.ref a309), .val (.ref a313), .val (.int (Int32.ofNat (((6 + ((shL o282)).length) + 4) + ((shL o283)).length)))] [(.int (1 : Int32))])) st344 ?_
  refine Run.st (T344.setTop (mkF m 186 #[.val (.int p0), .val (.int p1), .val (.int p2), .val (.int p3), .val w282, .val w283, .val w284, .val (.ref a290), .val (.ref a306), .val (.ref a309), .val (.ref a313), .val (.int (Int32.ofNat (((6 + ((shL o282)).length) + 4) + ((shL o283)).length)))] [(.int (2 : Int32)), (.int (Int32.ofNat (((6 + ((shL o282)).length) + 4) + ((shL o283)).length)))])) (fun _ k => XS.ifYes A344.here hx rfl (pc0 := 178) (pc' := 183) rfl (hb hby at_178) rfl (by decide) (by decide) (by decide) (XS.iload A344.here hx rfl (hb hby at_183) rfl (XS.iconst A344.here hx rfl (hb hby at_185) k))) ?_
  refine Run.st (T344.setTop (mkF m 187 #[.val (.int p0), .val (.int p1), .val (.int p2), .val (.int p3), .val w282, .val w283, .val w284, .val (.ref a290), .val (.ref a306), .val (.ref a309), .val (.ref a313), .val (.int (Int32.ofNat (((6 + ((shL o282)).length) + 4) + ((shL o283)).length)))] [(.int ((Int32.ofNat (((6 + ((shL o282)).length) + 4) + ((shL o283)).length)) + (2 : Int32)))])) (fun _ k => XS.iadd A344.here hx rfl (hb hby at_186) rfl k) ?_
  rw [show ((Int32.ofNat (((6 + ((shL o282)).length) + 4) + ((shL o283)).length)) + (2 : Int32)) = (Int32.ofNat ((((6 + ((shL o282)).length) + 4) + ((shL o283)).length) + 2)) from n_add (((6 + ((shL o282)).length) + 4) + ((shL o283)).length) 2]
  refine Run.st (T344.setTop (mkF m 195 #[.val (.int p0), .val (.int p1), .val (.int p2), .val (.int p3), .val w282, .val w283, .val w284, .val (.ref a290), .val (.ref a306), .val (.ref a309), .val (.ref a313), .val (.int (Int32.ofNat ((((6 + ((shL o282)).length) + 4) + ((shL o283)).length) + 2)))] [(.ref a313), (.int (Int32.ofNat ((((6 + ((shL o282)).length) + 4) + ((shL o283)).length) + 2))), (.ref a290)])) (fun _ k => XS.istore A344.here hx rfl (hb hby at_187) rfl (l' := #[.val (.int p0), .val (.int p1), .val (.int p2), .val (.int p3), .val w282, .val w283, .val w284, .val (.ref a290), .val (.ref a306), .val (.ref a309), .val (.ref a313), .val (.int (Int32.ofNat ((((6 + ((shL o282)).length) + 4) + ((shL o283)).length) + 2)))]) rfl (XS.aload A344.here hx rfl (hb hby at_189) rfl rfl (XS.iload A344.here hx rfl (hb hby at_191) rfl (XS.aload A344.here hx rfl (hb hby at_193) rfl rfl k)))) ?_
  have X348 : Ext h313 h318 := E318
  have X349 : Ext h313 h332 := (extT X348 E332)
  have X350 : Ext h313 h343 := (extT X349 E343)
  have f351 := S313.ext X350
  obtain ⟨v347, T347, h347, AA347, K347, ⟨L347, Q347⟩, st347⟩ := A344.callS hx (tw186 H.1) (tw187 H.1) (tw2 H.1) (tw188 H.1) (by decide) (g := (mkF m 195 #[.val (.int p0), .val (.int p1), .val (.int p2), .val (.int p3), .val w282, .val w283, .val w284, .val (.ref a290), .val (.ref a306), .val (.ref a309), .val (.ref a313), .val (.int (Int32.ofNat ((((6 + ((shL o282)).length) + 4) + ((shL o283)).length) + 2)))] [(.ref a313), (.int (Int32.ofNat ((((6 + ((shL o282)).length) + 4) + ((shL o283)).length) + 2))), (.ref a290)])) rfl (by rw [hml]; rfl) [(.ref a290), (.int (Int32.ofNat ((((6 + ((shL o282)).length) + 4) + ((shL o283)).length) + 2))), (.ref a313)] [] (lenOf pd_27 rfl) rfl (Wd := 0) (by show 2 * 0 + _ ≤ _; exact Nat.le_of_eq rfl) (hb hby at_195) (by decide) (by decide) [] (fun _ _ _ q => q.2) all0 (fun vm0 hZ => payN (ct_at H a290 a313 ([(101 : Int32), 114, 114, 111, 114, 32] ++ shL o282 ++ [(32 : Int32), 111, 102, 32] ++ shL o283 ++ [(58 : Int32), 32]) (shL o284) ([] : List Int32) ((((6 + ((shL o282)).length) + 4) + ((shL o283)).length) + 2) A344.old (by simpa [List.append_assoc] using f346) f351 (by first | rfl | (simp [List.length_append]; done) | (simp [List.length_append]; omega)) (by omega)) (tw188 H.1) (tw2 H.1) (by decide) (by decide) hZ)
  obtain ⟨Q347, N347, -⟩ := Q347
  obtain ⟨rfl, q347⟩ := Q347
  have q347 := q347.symm
  subst q347
  have A347 := AA347 [] all0
  refine Run.st (T347.setTop (mkF m 198 #[.val (.int p0), .val (.int p1), .val (.int p2), .val (.int p3), .val w282, .val w283, .val w284, .val (.ref a290), .val (.ref a306), .val (.ref a309), .val (.ref a313), .val (.int (Int32.ofNat ((((6 + ((shL o282)).length) + 4) + ((shL o283)).length) + 2)))] [(.int (1 : Int32))])) st347 ?_
  refine Run.st (T347.setTop (mkF m 207 #[.val (.int p0), .val (.int p1), .val (.int p2), .val (.int p3), .val w282, .val w283, .val w284, .val (.ref a290), .val (.ref a306), .val (.ref a309), .val (.ref a313), .val (.int (Int32.ofNat ((((6 + ((shL o282)).length) + 4) + ((shL o283)).length) + 2)))] [(.ref a313), (.int (Int32.ofNat ((((6 + ((shL o282)).length) + 4) + ((shL o283)).length) + 2)))])) (fun _ k => XS.ifYes A347.here hx rfl (pc0 := 198) (pc' := 203) rfl (hb hby at_198) rfl (by decide) (by decide) (by decide) (XS.iload A347.here hx rfl (hb hby at_203) rfl (XS.aload A347.here hx rfl (hb hby at_205) rfl rfl k))) ?_
  have f353 := S313.1.ext X350
  obtain ⟨v352, T352, h352, AA352, K352, ⟨L352, Q352⟩, st352⟩ := A347.callV hx (y := (⟨"java/lang/String", "length", "()I"⟩ : MethodName)) (z := (⟨"java/lang/String", "length", "()I"⟩ : MethodName)) (tw189 H.1) (tw74 H.1) (tw76 H.1) (tw75 H.1) (nfSel (tw76 H.1)) (by decide) f353 (g := (mkF m 207 #[.val (.int p0), .val (.int p1), .val (.int p2), .val (.int p3), .val w282, .val w283, .val w284, .val (.ref a290), .val (.ref a306), .val (.ref a309), .val (.ref a313), .val (.int (Int32.ofNat ((((6 + ((shL o282)).length) + 4) + ((shL o283)).length) + 2)))] [(.ref a313), (.int (Int32.ofNat ((((6 + ((shL o282)).length) + 4) + ((shL o283)).length) + 2)))])) rfl (by rw [hml]; rfl) [] [(.int (Int32.ofNat ((((6 + ((shL o282)).length) + 4) + ((shL o283)).length) + 2)))] (lenOf pd_0 rfl) rfl (Wd := 1) (by show 2 * 0 + _ ≤ _; exact Nat.le_of_eq rfl) (hb hby at_207) (by decide) (by decide) [] (fun _ _ _ q => by obtain ⟨⟨-, rfl⟩, rfl⟩ := q; exact ⟨Fr.nil _, Keep.refl _ _⟩) all0 (fun vm0 hZ => payLen H A347.old f351 (by decide) (by decide) hZ)
  obtain ⟨⟨rfl, q352⟩, -⟩ := Q352
  have q352 := q352.symm
  subst q352
  have A352 := AA352 [] all0
  refine Run.st (T352.setTop (mkF m 210 #[.val (.int p0), .val (.int p1), .val (.int p2), .val (.int p3), .val w282, .val w283, .val w284, .val (.ref a290), .val (.ref a306), .val (.ref a309), .val (.ref a313), .val (.int (Int32.ofNat ((((6 + ((shL o282)).length) + 4) + ((shL o283)).length) + 2)))] [(.int (Int32.ofNat ((shL o284)).length)), (.int (Int32.ofNat ((((6 + ((shL o282)).length) + 4) + ((shL o283)).length) + 2)))])) st352 ?_
  refine Run.st (T352.setTop (mkF m 211 #[.val (.int p0), .val (.int p1), .val (.int p2), .val (.int p3), .val w282, .val w283, .val w284, .val (.ref a290), .val (.ref a306), .val (.ref a309), .val (.ref a313), .val (.int (Int32.ofNat ((((6 + ((shL o282)).length) + 4) + ((shL o283)).length) + 2)))] [(.int ((Int32.ofNat ((((6 + ((shL o282)).length) + 4) + ((shL o283)).length) + 2)) + (Int32.ofNat ((shL o284)).length)))])) (fun _ k => XS.iadd A352.here hx rfl (hb hby at_210) rfl k) ?_
  rw [show ((Int32.ofNat ((((6 + ((shL o282)).length) + 4) + ((shL o283)).length) + 2)) + (Int32.ofNat ((shL o284)).length)) = (Int32.ofNat (((((6 + ((shL o282)).length) + 4) + ((shL o283)).length) + 2) + ((shL o284)).length)) from n_add ((((6 + ((shL o282)).length) + 4) + ((shL o283)).length) + 2) ((shL o284)).length]
  refine Run.st (T352.setTop (mkF m 215 #[.val (.int p0), .val (.int p1), .val (.int p2), .val (.int p3), .val w282, .val w283, .val w284, .val (.ref a290), .val (.ref a306), .val (.ref a309), .val (.ref a313), .val (.int (Int32.ofNat (((((6 + ((shL o282)).length) + 4) + ((shL o283)).length) + 2) + ((shL o284)).length)))] [(.ref a290)])) (fun _ k => XS.istore A352.here hx rfl (hb hby at_211) rfl (l' := #[.val (.int p0), .val (.int p1), .val (.int p2), .val (.int p3), .val w282, .val w283, .val w284, .val (.ref a290), .val (.ref a306), .val (.ref a309), .val (.ref a313), .val (.int (Int32.ofNat (((((6 + ((shL o282)).length) + 4) + ((shL o283)).length) + 2) + ((shL o284)).length)))]) rfl (XS.aload A352.here hx rfl (hb hby at_213) rfl rfl k)) ?_
  have f355 := S290.1.ext X345
  obtain ⟨v354, T354, h354, AA354, K354, ⟨L354, Q354⟩, st354⟩ := A352.callV hx (y := (⟨"java/lang/String", "length", "()I"⟩ : MethodName)) (z := (⟨"java/lang/String", "length", "()I"⟩ : MethodName)) (tw189 H.1) (tw74 H.1) (tw76 H.1) (tw75 H.1) (nfSel (tw76 H.1)) (by decide) f355 (g := (mkF m 215 #[.val (.int p0), .val (.int p1), .val (.int p2), .val (.int p3), .val w282, .val w283, .val w284, .val (.ref a290), .val (.ref a306), .val (.ref a309), .val (.ref a313), .val (.int (Int32.ofNat (((((6 + ((shL o282)).length) + 4) + ((shL o283)).length) + 2) + ((shL o284)).length)))] [(.ref a290)])) rfl (by rw [hml]; rfl) [] [] (lenOf pd_0 rfl) rfl (Wd := 0) (by show 2 * 0 + _ ≤ _; exact Nat.le_of_eq rfl) (hb hby at_215) (by decide) (by decide) [] (fun _ _ _ q => by obtain ⟨⟨-, rfl⟩, rfl⟩ := q; exact ⟨Fr.nil _, Keep.refl _ _⟩) all0 (fun vm0 hZ => payLen H A352.old f346 (by decide) (by decide) hZ)
  obtain ⟨⟨rfl, q354⟩, -⟩ := Q354
  have q354 := q354.symm
  subst q354
  have A354 := AA354 [] all0
  refine Run.st (T354.setTop (mkF m 218 #[.val (.int p0), .val (.int p1), .val (.int p2), .val (.int p3), .val w282, .val w283, .val w284, .val (.ref a290), .val (.ref a306), .val (.ref a309), .val (.ref a313), .val (.int (Int32.ofNat (((((6 + ((shL o282)).length) + 4) + ((shL o283)).length) + 2) + ((shL o284)).length)))] [(.int (Int32.ofNat ((errL (shL o282) (shL o283) (shL o284))).length))])) st354 ?_
  refine Run.st (T354.setTop (mkF m 228 #[.val (.int p0), .val (.int p1), .val (.int p2), .val (.int p3), .val w282, .val w283, .val w284, .val (.ref a290), .val (.ref a306), .val (.ref a309), .val (.ref a313), .val (.int (Int32.ofNat (((((6 + ((shL o282)).length) + 4) + ((shL o283)).length) + 2) + ((shL o284)).length)))] [(.int (1 : Int32))])) (fun _ k => XS.iload A354.here hx rfl (hb hby at_218) rfl (XS.icmpNo A354.here hx rfl (hb hby at_220) rfl (teq (congrArg Int32.ofNat (by simp [List.length_append]; try omega))).2 (XS.iconst A354.here hx rfl (hb hby at_223) (XS.goto A354.here hx rfl (pc0 := 224) (pc' := 228) rfl (hb hby at_224) (by decide) (by decide) k)))) ?_
  exact A354.leaveW hlk hh0 (some (.int (1 : Int32))) (fun q => by rw [hrt] at q; cases q) (by decide) (by decide) rfl (fun X hr => retN X hx (t := .boolean) hrt (by simp) (hb hby at_228) hr)
set_option maxRecDepth 65536 in
set_option maxHeartbeats 40000000 in
theorem comes_1 {Post : Tables → Env → Array Value → State → Outcome → State → Prop} (hpost : ∀ tb e args s v u, (limb_1_1.after args s (.returned v) u = true ∧ limb_1_2.after args s (.returned v) u = true ∧ True) → ReturnedEndW s (.returned v) u (Jvm.fieldLocs frame_1_writes args s ++ Jvm.arrayLocs frame_1_arrays args s ++ Jvm.staticLocs frame_1_statics s) 56 8512 → Post tb e args s (.returned v) u) :
    ArmFor flags0 classFile x code maxLocals ret World_1 tables_1 room_1 Calls_1 rest_1 Pre_1 Post := by
  intro l hfl _ _ p e ha hc hk s m args below hf hA hF happ hP
  obtain ⟨hcalls, hrest, hpre⟩ := hP
  obtain ⟨-, -, -, hnamed, -, -, -, hat⟩ := (Spec.applies_iff hf).mp happ
  obtain ⟨hg, hn⟩ := and_e (Cond.before_iff.mp (show (Jvm.Cond.and given_1 narrow_1).before args s = true from hpre))
  obtain ⟨h1, h2⟩ := and_e hg
  obtain ⟨w0, w1, w2, w3, rfl⟩ : ∃ w0 w1 w2 w3 : Value, args = #[w0, w1, w2, w3] := by
    have hs : args.size = 4 := by simpa [Cond.value, given_1] using h1
    obtain ⟨L⟩ := args
    match L, hs with
    | [w0, w1, w2, w3], _ => exact ⟨w0, w1, w2, w3, rfl⟩
  obtain ⟨g0, r1⟩ := and_e h2
  obtain ⟨i0, e0⟩ := is_v g0
  obtain rfl : w0 = (.int i0) := Option.some.inj e0
  obtain ⟨g1, r2⟩ := and_e r1
  obtain ⟨i1, e1⟩ := is_v g1
  obtain rfl : w1 = (.int i1) := Option.some.inj e1
  obtain ⟨g2, r3⟩ := and_e r2
  obtain ⟨i2, e2⟩ := is_v g2
  obtain rfl : w2 = (.int i2) := Option.some.inj e2
  obtain ⟨i3, e3⟩ := is_v r3
  obtain rfl : w3 = (.int i3) := Option.some.inj e3
  have hw := fun d (hd : d ∈ tables_1) => atoms_spec (ws := Jvm.Cond.code x code maxLocals ret :: tables_1) hat d (List.mem_cons_of_mem _ hd)
  obtain ⟨hsets, hown0⟩ := atoms_of _ (rest_1_c_eq ▸ (show rest_1_c.before _ s = true from hrest))
  have n3 := not_v (Cond.before_iff.mp (hsets _ (List.mem_of_getElem? (i := 2) rfl)))
  obtain ⟨iz, ez⟩ := is_v (Cond.before_iff.mp (hsets _ (List.mem_of_getElem? (i := 1) rfl)))
  have Sz : Sta s s.heap "java/lang/String" "COMPACT_STRINGS" "Z" (.int iz) := Sta.start ez (Or.inl (hsets _ (List.mem_of_getElem? (i := 0) rfl)))
  obtain ⟨vf, ef, rf⟩ := isR_v (Cond.before_iff.mp (hsets _ (List.mem_of_getElem? (i := 8) rfl)))
  have Sf : Sta s s.heap "jdk/internal/util/Preconditions" "SIOOBE_FORMATTER" "Ljava/util/function/BiFunction;" vf := Sta.start ef (Or.inl (hsets _ (List.mem_of_getElem? (i := 7) rfl)))
  have cz : ¬ (iz = (0 : Int32)) := gotF (Cond.eq_ints ez (Term.int_eval (0))) n3
  have H : Ev s _ := ⟨hw, ⟨iz, Sz, cz⟩, ⟨vf, Sf, rf⟩⟩
  have hCH : CHv s EL s.vm s.heap := CHv.start (elA H) (show ∀ p ∈ EL, Jvm.Lit.constHeld s p.1 p.2 from hcalls.1) (hcw := hsets _ (List.mem_of_getElem? (i := 2) rfl)) (H.1 _ (by decide +kernel : Jvm.Cond.arrayClass .byte ∈ tables_1)) (H.1 _ (by decide +kernel : Jvm.Cond.instantiable "java/lang/String" 4 ∈ tables_1))
  obtain ⟨n, o, h1, h2, h3, _, L, rfl, ⟨hQ, N, -⟩, -, hq⟩ := ct_law (l := l) H i0 i1 i2 i3 (Old.start s) p e ha hc hk s m _ below hf ((Spec.applies_iff_loose hf).mp happ).1 ⟨rfl, State.Warmed39.refl s, rfl, hCH, all0⟩ trivial
  cases hQ
  refine ⟨n, _, h1, h2, h3, hpost _ _ _ _ _ _ ⟨Cond.after_iff.mpr rfl, Cond.after_iff.mpr (eq_i res_at (Term.int_eval (1)) rfl), trivial⟩ ⟨hq.1, hq.2.1, hq.2.2.1, (hq.2.2.2.sift fun y hy => Or.inr (N y hy)).mono (by decide) (by decide)⟩⟩
theorem main_1_1 : Claimed_1_1 := comes_1 fun _ _ _ _ _ _ h hF => ⟨h.1, hF⟩
theorem main_1_2 : Claimed_1_2 := comes_1 fun _ _ _ _ _ _ h hF => ⟨h.2.1, hF⟩
end Jvm.Pilot.@@N@@
namespace Jvm.Pilot.@@N@@
open Jvm Jvm.ClassFile Sem Op Lib Jvm.Free Jvm.Stand Jvm.Pilot.@@N@@.Jvm.D
/-! MADE BY PROGRAM (witnessworld.py) out of the Statement's table words and the real class files: 26 classes; the members and pool entries that the words name. The judged class is class 1, her method 4. -/
namespace start1
open Jvm.ClassFile
def u (s : String) : CpInfo := .utf8 (stringToUtf16 s)
/-- a pool by its gaps: so many unusable entries, then the entry; so many at the end -/
def gap : Nat → List CpInfo → List CpInfo
  | 0, r => r
  | n + 1, r => .unusable :: gap n r
def poolList (es : List (Nat × CpInfo)) (last : Nat) : List CpInfo := es.foldr (fun e r => gap e.1 (e.2 :: r)) (gap last [])
def pool (es : List (Nat × CpInfo)) (last : Nat) : Array CpInfo := ⟨poolList es last⟩
def fileOf (pool : Array CpInfo) (this : Nat) (attrs : Array Attribute := #[]) (ms : Array MethodInfo := #[]) (fl : Nat := 33) (sup : Nat := 0) (ifs : Array Nat := #[]) (fds : Array FieldInfo := #[]) : ClassFile where
  minorVersion := 0
  majorVersion := 65
  constantPool := pool
  accessFlags := fl
  thisClass := this
  superClass := sup
  interfaces := ifs
  fields := fds
  methods := ms
  attributes := attrs
def plain (name : String) (sup : Option ClassId) : Class where
  name := name
  kind := .ordinary
  loader := none
  accessFlags := 33
  super := sup
  interfaces := #[]
  cf := none
  fields := #[]
  methods := #[]
  instanceTypes := #[]
  staticTypes := #[]
  resolved := #[]
  callSites := []
  init := .initialized
  statics := none
  mirror := none

def pool0 : Array CpInfo := pool [(5, u "<init>"), (0, u "()V"), (1, .class_ 10), (1, u "java/lang/Object"), (85, u "clone"), (0, u "()Ljava/lang/Object;")] 26

def k0c0 : Code := { maxStack := 0, maxLocals := 1, code := object_method_1_code, exceptionTable := #[], attributes := #[] }
def k0m0 : Method := { name := "<init>", desc := "()V", sig := { parameters := [], returnType := none }, accessFlags := 1, code := some k0c0 }
def k0m1 : Method := { name := "clone", desc := "()Ljava/lang/Object;", sig := { parameters := [], returnType := some (.object "java/lang/Object") }, accessFlags := 260, code := none }
/-- java/lang/Object -/
def k0 : Class := { plain "java/lang/Object" none with
  accessFlags := 33
  interfaces := #[]
  cf := some (fileOf pool0 8 #[] #[{ accessFlags := 1, nameIndex := 5, descriptorIndex := 6, attributes := #[] }, { accessFlags := 260, nameIndex := 96, descriptorIndex := 97, attributes := #[] }] 33 0 #[] #[])
  fields := #[]
  methods := #[k0m0, k0m1]
  instanceTypes := #[]
  staticTypes := #[]
  resolved := Array.replicate 124 none
  statics := none }

def pool1 : Array CpInfo := pool [(2, .class_ 4), (1, u "java/lang/Object"), (0, u "<init>"), (0, u "()V"), (0, .class_ 8), (0, u "java/lang/String"), (0, .methodref 7 10), (0, .nameAndType 5 11), (0, u "([C)V"), (0, .string 13), (0, u "null"), (0, .methodref 7 15), (0, .nameAndType 16 17), (0, u "length"), (0, u "()I"), (0, .methodref 7 19), (0, .nameAndType 20 21), (0, u "charAt"), (0, u "(I)C"), (0, .methodref 23 24), (0, .class_ 25), (0, .nameAndType 26 27), (0, u "com/example/gate_to_handlers/gatetohandlers/ObjectErrorToStringPinLaw"), (0, u "make"), (0, u "(II)Ljava/lang/String;"), (0, .class_ 29), (0, u "com/example/gate_to_handlers/gatetohandlers/ObjectError"), (0, .methodref 28 31), (0, .nameAndType 5 32), (0, u "(Ljava/lang/String;Ljava/lang/String;Ljava/lang/String;)V"), (0, .methodref 28 34), (0, .nameAndType 35 36), (0, u "toString"), (0, u "()Ljava/lang/String;"), (0, .methodref 23 38), (0, .nameAndType 39 40), (0, u "shown"), (0, u "(Ljava/lang/String;)Ljava/lang/String;"), (0, .string 42), (0, u "error "), (0, .methodref 23 44), (0, .nameAndType 45 46), (0, u "at"), (0, u "(Ljava/lang/String;ILjava/lang/String;)Z"), (0, .string 48), (0, u " of "), (0, .string 50), (0, u ": "), (3, u "law"), (0, u "(IIII)Z")] 2

def k1m0 : Method := { name := "<init>", desc := "()V", sig := { parameters := [], returnType := none }, accessFlags := 1, code := none }
def k1c1 : Code := { maxStack := 6, maxLocals := 4, code := method_2_code, exceptionTable := #[], attributes := #[] }
def k1m1 : Method := { name := "make", desc := "(II)Ljava/lang/String;", sig := { parameters := [.int, .int], returnType := some (.object "java/lang/String") }, accessFlags := 10, code := some k1c1 }
def k1c2 : Code := { maxStack := 1, maxLocals := 1, code := method_3_code, exceptionTable := #[], attributes := #[] }
def k1m2 : Method := { name := "shown", desc := "(Ljava/lang/String;)Ljava/lang/String;", sig := { parameters := [(.object "java/lang/String")], returnType := some (.object "java/lang/String") }, accessFlags := 10, code := some k1c2 }
def k1c3 : Code := { maxStack := 3, maxLocals := 4, code := method_4_code, exceptionTable := #[], attributes := #[] }
def k1m3 : Method := { name := "at", desc := "(Ljava/lang/String;ILjava/lang/String;)Z", sig := { parameters := [(.object "java/lang/String"), .int, (.object "java/lang/String")], returnType := some .boolean }, accessFlags := 10, code := some k1c3 }
def k1c4 : Code := { maxStack := 5, maxLocals := 12, code := code, exceptionTable := #[], attributes := #[] }
def k1m4 : Method := { name := "law", desc := "(IIII)Z", sig := { parameters := [.int, .int, .int, .int], returnType := some .boolean }, accessFlags := 9, code := some k1c4 }
/-- com/example/gate_to_handlers/gatetohandlers/ObjectErrorToStringPinLaw -/
def k1 : Class := { plain "com/example/gate_to_handlers/gatetohandlers/ObjectErrorToStringPinLaw" (some 0) with
  accessFlags := 49
  interfaces := #[]
  cf := some (fileOf pool1 23 #[] #[{ accessFlags := 1, nameIndex := 5, descriptorIndex := 6, attributes := #[] }, { accessFlags := 10, nameIndex := 26, descriptorIndex := 27, attributes := #[] }, { accessFlags := 10, nameIndex := 39, descriptorIndex := 40, attributes := #[] }, { accessFlags := 10, nameIndex := 45, descriptorIndex := 46, attributes := #[] }, { accessFlags := 9, nameIndex := 54, descriptorIndex := 55, attributes := #[] }] 49 2 #[] #[])
  fields := #[]
  methods := #[k1m0, k1m1, k1m2, k1m3, k1m4]
  instanceTypes := #[]
  staticTypes := #[]
  resolved := Array.replicate 58 none
  statics := none }

def pool2 : Array CpInfo := pool [(1, .class_ 2), (0, u "java/io/Serializable"), (0, .class_ 4), (0, u "java/lang/Object")] 2

/-- java/io/Serializable -/
def k2 : Class := { plain "java/io/Serializable" (some 0) with
  accessFlags := 1537
  interfaces := #[]
  cf := some (fileOf pool2 1 #[] #[] 1537 3 #[] #[])
  fields := #[]
  methods := #[]
  instanceTypes := #[]
  staticTypes := #[]
  resolved := Array.replicate 7 none
  statics := none }

def pool3 : Array CpInfo := pool [(1, .class_ 2), (0, u "java/lang/Comparable"), (0, .class_ 4), (0, u "java/lang/Object")] 7

/-- java/lang/Comparable -/
def k3 : Class := { plain "java/lang/Comparable" (some 0) with
  accessFlags := 1537
  interfaces := #[]
  cf := some (fileOf pool3 1 #[] #[] 1537 3 #[] #[])
  fields := #[]
  methods := #[]
  instanceTypes := #[]
  staticTypes := #[]
  resolved := Array.replicate 12 none
  statics := none }

def pool4 : Array CpInfo := pool [(2, .class_ 4), (1, u "java/lang/CharSequence"), (42, .class_ 48), (0, u "java/lang/CharSequence$1CodePointIterator"), (10, .class_ 60), (0, u "java/lang/CharSequence$1CharIterator"), (5, .class_ 67), (0, u "java/lang/Object")] 63

/-- java/lang/CharSequence -/
def k4 : Class := { plain "java/lang/CharSequence" (some 0) with
  accessFlags := 1537
  interfaces := #[]
  cf := some (fileOf pool4 2 #[.nestMembers #[47, 59]] #[] 1537 66 #[] #[])
  fields := #[]
  methods := #[]
  instanceTypes := #[]
  staticTypes := #[]
  resolved := Array.replicate 131 none
  statics := none }

def pool5 : Array CpInfo := pool [(1, .class_ 2), (0, u "java/lang/constant/Constable"), (0, .class_ 4), (0, u "java/lang/Object")] 6

/-- java/lang/constant/Constable -/
def k5 : Class := { plain "java/lang/constant/Constable" (some 0) with
  accessFlags := 1537
  interfaces := #[]
  cf := some (fileOf pool5 1 #[] #[] 1537 3 #[] #[])
  fields := #[]
  methods := #[]
  instanceTypes := #[]
  staticTypes := #[]
  resolved := Array.replicate 11 none
  statics := none }

def pool6 : Array CpInfo := pool [(1, .class_ 2), (0, u "java/lang/constant/ConstantDesc"), (0, .class_ 4), (0, u "java/lang/Object")] 32

/-- java/lang/constant/ConstantDesc -/
def k6 : Class := { plain "java/lang/constant/ConstantDesc" (some 0) with
  accessFlags := 1537
  interfaces := #[]
  cf := some (fileOf pool6 1 #[] #[] 1537 3 #[] #[])
  fields := #[]
  methods := #[]
  instanceTypes := #[]
  staticTypes := #[]
  resolved := Array.replicate 37 none
  statics := none }

def pool7 : Array CpInfo := pool [(1, .methodref 2 3), (0, .class_ 4), (0, .nameAndType 5 6), (0, u "java/lang/Object"), (0, u "<init>"), (0, u "()V"), (0, .string 8), (0, u ""), (0, .fieldref 10 11), (0, .class_ 12), (0, .nameAndType 13 14), (0, u "java/lang/String"), (0, u "value"), (0, u "[B"), (0, .fieldref 10 16), (0, .nameAndType 17 18), (0, u "coder"), (0, u "B"), (2, u "hash"), (0, u "I"), (2, u "hashIsZero"), (0, u "Z"), (0, .methodref 10 28), (0, .nameAndType 5 29), (0, u "([CIILjava/lang/Void;)V"), (8, .fieldref 10 39), (0, .nameAndType 40 26), (0, u "COMPACT_STRINGS"), (1, .class_ 44), (1, u "java/lang/StringUTF16"), (0, u "compress"), (1, .methodref 42 48), (0, .nameAndType 49 50), (0, u "coderFromArrayLen"), (0, u "([BI)B"), (3, .methodref 55 56), (0, .class_ 57), (0, .nameAndType 58 59), (0, u "java/util/Arrays"), (0, u "copyOfRange"), (0, u "([BII)[B"), (47, .class_ 109), (1, u "java/lang/StringLatin1"), (32, u "()Z"), (34, .methodref 42 178), (0, .nameAndType 45 179), (0, u "([CII)[B"), (13, .class_ 195), (1, u "java/lang/System"), (16, .methodref 193 213), (0, .nameAndType 214 215), (0, u "arraycopy"), (0, u "(Ljava/lang/Object;ILjava/lang/Object;II)V"), (118, u "()I"), (0, .methodref 10 336), (0, .nameAndType 17 337), (0, u "()B"), (2, u "()[B"), (22, u "([BI)C"), (27, u "(II)V"), (35, u "(I)C"), (61, .methodref 10 490), (0, .nameAndType 5 491), (0, u "(Ljava/lang/AbstractStringBuilder;Ljava/lang/Void;)V"), (0, .methodref 10 493), (0, .nameAndType 494 142), (0, u "isLatin1"), (0, .methodref 107 496), (0, .nameAndType 497 363), (0, u "charAt"), (3, u "checkIndex"), (4, .nameAndType 507 334), (0, u "length"), (24, u "getBytes"), (16, .methodref 550 506), (0, .class_ 551), (0, u "java/lang/AbstractStringBuilder"), (0, .methodref 550 553), (0, .nameAndType 554 340), (0, u "getValue"), (20, .class_ 576), (0, u "java/lang/CharSequence"), (22, u "CASE_INSENSITIVE_ORDER"), (0, u "Ljava/util/Comparator;"), (220, u "([BIB)V"), (188, u "([C)V"), (36, .methodref 550 493), (5, .fieldref 1054 1055), (0, .class_ 1056), (0, .nameAndType 1057 1058), (0, u "jdk/internal/util/Preconditions"), (0, u "SIOOBE_FORMATTER"), (0, u "Ljava/util/function/BiFunction;"), (0, .methodref 1054 1060), (0, .nameAndType 501 1061), (0, u "(IILjava/util/function/BiFunction;)I"), (39, u "serialPersistentFields"), (0, u "[Ljava/io/ObjectStreamField;"), (0, .class_ 1104), (0, u "java/lang/String$CaseInsensitiveComparator"), (1, .class_ 1107), (0, u "java/io/Serializable"), (0, .class_ 1109), (0, u "java/lang/Comparable"), (0, .class_ 1111), (0, u "java/lang/constant/Constable"), (0, .class_ 1113), (0, u "java/lang/constant/ConstantDesc"), (2, u "serialVersionUID"), (0, u "J"), (3, u "REPL"), (0, u "C"), (2, u "LATIN1"), (1, u "UTF16"), (105, u "(Ljava/lang/StringBuilder;)V")] 217

def k7m0 : Method := { name := "<init>", desc := "()V", sig := { parameters := [], returnType := none }, accessFlags := 1, code := none }
def k7c1 : Code := { maxStack := 5, maxLocals := 2, code := jdk_42_method_3_code, exceptionTable := #[], attributes := #[] }
def k7m1 : Method := { name := "<init>", desc := "([C)V", sig := { parameters := [(.array .char)], returnType := none }, accessFlags := 1, code := some k7c1 }
def k7c2 : Code := { maxStack := 3, maxLocals := 2, code := jdk_42_method_53_code, exceptionTable := #[], attributes := #[] }
def k7m2 : Method := { name := "<init>", desc := "(Ljava/lang/StringBuilder;)V", sig := { parameters := [(.object "java/lang/StringBuilder")], returnType := none }, accessFlags := 1, code := some k7c2 }
def k7c3 : Code := { maxStack := 2, maxLocals := 1, code := jdk_42_method_54_code, exceptionTable := #[], attributes := #[] }
def k7m3 : Method := { name := "length", desc := "()I", sig := { parameters := [], returnType := some .int }, accessFlags := 1, code := some k7c3 }
def k7c4 : Code := { maxStack := 2, maxLocals := 2, code := jdk_42_method_56_code, exceptionTable := #[], attributes := #[] }
def k7m4 : Method := { name := "charAt", desc := "(I)C", sig := { parameters := [.int], returnType := some .char }, accessFlags := 1, code := some k7c4 }
def k7c5 : Code := { maxStack := 5, maxLocals := 4, code := jdk_42_method_147_code, exceptionTable := #[], attributes := #[] }
def k7m5 : Method := { name := "getBytes", desc := "([BIB)V", sig := { parameters := [(.array .byte), .int, .byte], returnType := none }, accessFlags := 0, code := some k7c5 }
def k7c6 : Code := { maxStack := 4, maxLocals := 6, code := jdk_42_method_149_code, exceptionTable := #[], attributes := #[] }
def k7m6 : Method := { name := "<init>", desc := "([CIILjava/lang/Void;)V", sig := { parameters := [(.array .char), .int, .int, (.object "java/lang/Void")], returnType := none }, accessFlags := 2, code := some k7c6 }
def k7c7 : Code := { maxStack := 5, maxLocals := 5, code := jdk_42_method_150_code, exceptionTable := #[], attributes := #[] }
def k7m7 : Method := { name := "<init>", desc := "(Ljava/lang/AbstractStringBuilder;Ljava/lang/Void;)V", sig := { parameters := [(.object "java/lang/AbstractStringBuilder"), (.object "java/lang/Void")], returnType := none }, accessFlags := 0, code := some k7c7 }
def k7c8 : Code := { maxStack := 1, maxLocals := 1, code := jdk_42_method_152_code, exceptionTable := #[], attributes := #[] }
def k7m8 : Method := { name := "coder", desc := "()B", sig := { parameters := [], returnType := some .byte }, accessFlags := 0, code := some k7c8 }
def k7c9 : Code := { maxStack := 1, maxLocals := 1, code := jdk_42_method_154_code, exceptionTable := #[], attributes := #[] }
def k7m9 : Method := { name := "isLatin1", desc := "()Z", sig := { parameters := [], returnType := some .boolean }, accessFlags := 0, code := some k7c9 }
def k7c10 : Code := { maxStack := 3, maxLocals := 2, code := jdk_42_method_155_code, exceptionTable := #[], attributes := #[] }
def k7m10 : Method := { name := "checkIndex", desc := "(II)V", sig := { parameters := [.int, .int], returnType := none }, accessFlags := 8, code := some k7c10 }
/-- java/lang/String -/
def k7 : Class := { plain "java/lang/String" (some 0) with
  accessFlags := 49
  interfaces := #[2, 3, 4, 5, 6]
  cf := some (fileOf pool7 10 #[.nestMembers #[1103]] #[{ accessFlags := 1, nameIndex := 5, descriptorIndex := 6, attributes := #[] }, { accessFlags := 1, nameIndex := 5, descriptorIndex := 1010, attributes := #[] }, { accessFlags := 1, nameIndex := 5, descriptorIndex := 1233, attributes := #[] }, { accessFlags := 1, nameIndex := 507, descriptorIndex := 334, attributes := #[] }, { accessFlags := 1, nameIndex := 497, descriptorIndex := 427, attributes := #[] }, { accessFlags := 0, nameIndex := 532, descriptorIndex := 821, attributes := #[] }, { accessFlags := 2, nameIndex := 5, descriptorIndex := 29, attributes := #[] }, { accessFlags := 0, nameIndex := 5, descriptorIndex := 491, attributes := #[] }, { accessFlags := 0, nameIndex := 17, descriptorIndex := 337, attributes := #[] }, { accessFlags := 0, nameIndex := 494, descriptorIndex := 142, attributes := #[] }, { accessFlags := 8, nameIndex := 501, descriptorIndex := 391, attributes := #[] }] 49 2 #[1106, 1108, 575, 1110, 1112] #[{ accessFlags := 18, nameIndex := 13, descriptorIndex := 14, attributes := #[] }, { accessFlags := 18, nameIndex := 17, descriptorIndex := 18, attributes := #[] }, { accessFlags := 2, nameIndex := 21, descriptorIndex := 22, attributes := #[] }, { accessFlags := 2, nameIndex := 25, descriptorIndex := 26, attributes := #[] }, { accessFlags := 26, nameIndex := 1116, descriptorIndex := 1117, attributes := #[] }, { accessFlags := 24, nameIndex := 40, descriptorIndex := 26, attributes := #[] }, { accessFlags := 26, nameIndex := 1101, descriptorIndex := 1102, attributes := #[] }, { accessFlags := 26, nameIndex := 1121, descriptorIndex := 1122, attributes := #[] }, { accessFlags := 25, nameIndex := 599, descriptorIndex := 600, attributes := #[] }, { accessFlags := 24, nameIndex := 1125, descriptorIndex := 18, attributes := #[] }, { accessFlags := 24, nameIndex := 1127, descriptorIndex := 18, attributes := #[] }])
  fields := #[{ name := "value", type := (.array .byte), accessFlags := 18, slot := 0, constantValue := 0 }, { name := "coder", type := .byte, accessFlags := 18, slot := 1, constantValue := 0 }, { name := "hash", type := .int, accessFlags := 2, slot := 2, constantValue := 0 }, { name := "hashIsZero", type := .boolean, accessFlags := 2, slot := 3, constantValue := 0 }, { name := "serialVersionUID", type := .long, accessFlags := 26, slot := 0, constantValue := 0 }, { name := "COMPACT_STRINGS", type := .boolean, accessFlags := 24, slot := 1, constantValue := 0 }, { name := "serialPersistentFields", type := (.array (.object "java/io/ObjectStreamField")), accessFlags := 26, slot := 2, constantValue := 0 }, { name := "REPL", type := .char, accessFlags := 26, slot := 3, constantValue := 0 }, { name := "CASE_INSENSITIVE_ORDER", type := (.object "java/util/Comparator"), accessFlags := 25, slot := 4, constantValue := 0 }, { name := "LATIN1", type := .byte, accessFlags := 24, slot := 5, constantValue := 0 }, { name := "UTF16", type := .byte, accessFlags := 24, slot := 6, constantValue := 0 }]
  methods := #[k7m0, k7m1, k7m2, k7m3, k7m4, k7m5, k7m6, k7m7, k7m8, k7m9, k7m10]
  instanceTypes := #[(.array .byte), .byte, .int, .boolean]
  staticTypes := #[.long, .boolean, (.array (.object "java/io/ObjectStreamField")), .char, (.object "java/util/Comparator"), .byte, .byte]
  resolved := Array.replicate 1451 none
  statics := some 0 }

def pool8 : Array CpInfo := pool [(1, .methodref 2 3), (0, .class_ 4), (0, .nameAndType 5 6), (0, u "java/lang/Object"), (0, u "<init>"), (0, u "()V"), (0, .fieldref 8 9), (0, .class_ 10), (0, .nameAndType 11 12), (0, u "com/example/gate_to_handlers/gatetohandlers/ObjectError"), (0, u "objectName"), (0, u "Ljava/lang/String;"), (0, .fieldref 8 14), (0, .nameAndType 15 12), (0, u "code"), (0, .fieldref 8 17), (0, .nameAndType 18 12), (0, u "defaultMessage"), (0, .class_ 20), (0, u "java/lang/StringBuilder"), (0, .methodref 19 3), (0, .string 23), (0, u "error "), (0, .methodref 19 25), (0, .nameAndType 26 27), (0, u "append"), (0, u "(Ljava/lang/String;)Ljava/lang/StringBuilder;"), (0, .string 29), (0, u " of "), (0, .string 31), (0, u ": "), (0, .methodref 19 33), (0, .nameAndType 34 35), (0, u "toString"), (0, u "()Ljava/lang/String;"), (0, u "(Ljava/lang/String;Ljava/lang/String;Ljava/lang/String;)V")] 7

def k8c0 : Code := { maxStack := 2, maxLocals := 4, code := prog_78_method_1_code, exceptionTable := #[], attributes := #[] }
def k8m0 : Method := { name := "<init>", desc := "(Ljava/lang/String;Ljava/lang/String;Ljava/lang/String;)V", sig := { parameters := [(.object "java/lang/String"), (.object "java/lang/String"), (.object "java/lang/String")], returnType := none }, accessFlags := 1, code := some k8c0 }
def k8c1 : Code := { maxStack := 2, maxLocals := 1, code := prog_78_method_5_code, exceptionTable := #[], attributes := #[] }
def k8m1 : Method := { name := "toString", desc := "()Ljava/lang/String;", sig := { parameters := [], returnType := some (.object "java/lang/String") }, accessFlags := 1, code := some k8c1 }
/-- com/example/gate_to_handlers/gatetohandlers/ObjectError -/
def k8 : Class := { plain "com/example/gate_to_handlers/gatetohandlers/ObjectError" (some 0) with
  accessFlags := 33
  interfaces := #[]
  cf := some (fileOf pool8 8 #[] #[{ accessFlags := 1, nameIndex := 5, descriptorIndex := 36, attributes := #[] }, { accessFlags := 1, nameIndex := 34, descriptorIndex := 35, attributes := #[] }] 33 2 #[] #[{ accessFlags := 18, nameIndex := 11, descriptorIndex := 12, attributes := #[] }, { accessFlags := 18, nameIndex := 15, descriptorIndex := 12, attributes := #[] }, { accessFlags := 18, nameIndex := 18, descriptorIndex := 12, attributes := #[] }])
  fields := #[{ name := "objectName", type := (.object "java/lang/String"), accessFlags := 18, slot := 0, constantValue := 0 }, { name := "code", type := (.object "java/lang/String"), accessFlags := 18, slot := 1, constantValue := 0 }, { name := "defaultMessage", type := (.object "java/lang/String"), accessFlags := 18, slot := 2, constantValue := 0 }]
  methods := #[k8m0, k8m1]
  instanceTypes := #[(.object "java/lang/String"), (.object "java/lang/String"), (.object "java/lang/String")]
  staticTypes := #[]
  resolved := Array.replicate 44 none
  statics := none }

def pool9 : Array CpInfo := pool [(1, .class_ 2), (0, u "java/lang/Appendable"), (0, .class_ 4), (0, u "java/lang/Object")] 9

/-- java/lang/Appendable -/
def k9 : Class := { plain "java/lang/Appendable" (some 0) with
  accessFlags := 1537
  interfaces := #[]
  cf := some (fileOf pool9 1 #[] #[] 1537 3 #[] #[])
  fields := #[]
  methods := #[]
  instanceTypes := #[]
  staticTypes := #[]
  resolved := Array.replicate 14 none
  statics := none }

def pool10 : Array CpInfo := pool [(1, .class_ 2), (0, u "java/lang/String"), (0, .methodref 4 5), (0, .class_ 6), (0, .nameAndType 7 8), (0, u "java/lang/Object"), (0, u "<init>"), (0, u "()V"), (1, .class_ 12), (1, u "java/lang/AbstractStringBuilder"), (0, u "EMPTYVALUE"), (0, u "[B"), (0, .fieldref 10 16), (0, .nameAndType 17 14), (0, u "value"), (0, .fieldref 1 19), (0, .nameAndType 20 21), (0, u "COMPACT_STRINGS"), (0, u "Z"), (0, .fieldref 10 23), (0, .nameAndType 24 25), (0, u "coder"), (0, u "B"), (6, .methodref 1 33), (0, .nameAndType 34 35), (0, u "length"), (0, u "()I"), (3, .integer 2147483647), (0, .methodref 1 41), (0, .nameAndType 24 42), (0, u "()B"), (2, u "append"), (0, u "(Ljava/lang/String;)Ljava/lang/AbstractStringBuilder;"), (1, .class_ 49), (0, u "java/lang/CharSequence"), (19, u "(Ljava/lang/String;)V"), (5, u "maybeLatin1"), (3, .fieldref 10 80), (0, .nameAndType 81 82), (0, u "count"), (0, u "I"), (0, .methodref 10 84), (0, .nameAndType 85 86), (0, u "isLatin1"), (0, u "()Z"), (13, .methodref 10 101), (0, .nameAndType 102 103), (0, u "ensureCapacityInternal"), (0, u "(I)V"), (0, .methodref 10 105), (0, .nameAndType 106 107), (0, u "newCapacity"), (0, u "(I)I"), (0, .methodref 109 110), (0, .class_ 111), (0, .nameAndType 112 113), (0, u "java/util/Arrays"), (0, u "copyOf"), (0, u "([BI)[B"), (0, .methodref 115 116), (0, .class_ 117), (0, .nameAndType 118 119), (0, u "jdk/internal/util/ArraysSupport"), (0, u "newLength"), (0, u "(III)I"), (84, .methodref 10 205), (0, .nameAndType 206 207), (0, u "appendNull"), (0, u "()Ljava/lang/AbstractStringBuilder;"), (0, .methodref 10 209), (0, .nameAndType 210 211), (0, u "putStringAt"), (0, u "(ILjava/lang/String;)V"), (5, u "inflateIfNeededFor"), (2, .nameAndType 221 222), (0, u "getBytes"), (0, u "([BIB)V"), (174, .methodref 10 398), (0, .nameAndType 217 69), (0, .methodref 1 220), (3, u "()[B"), (40, .class_ 445), (0, u "java/lang/Appendable"), (106, u "getValue")] 56

def k10m0 : Method := { name := "<init>", desc := "()V", sig := { parameters := [], returnType := none }, accessFlags := 0, code := none }
def k10c1 : Code := { maxStack := 2, maxLocals := 2, code := jdk_68_method_2_code, exceptionTable := #[], attributes := #[] }
def k10m1 : Method := { name := "<init>", desc := "(I)V", sig := { parameters := [.int], returnType := none }, accessFlags := 0, code := some k10c1 }
def k10c2 : Code := { maxStack := 1, maxLocals := 1, code := jdk_68_method_6_code, exceptionTable := #[], attributes := #[] }
def k10m2 : Method := { name := "length", desc := "()I", sig := { parameters := [], returnType := some .int }, accessFlags := 1, code := some k10c2 }
def k10c3 : Code := { maxStack := 4, maxLocals := 3, code := jdk_68_method_9_code, exceptionTable := #[], attributes := #[] }
def k10m3 : Method := { name := "ensureCapacityInternal", desc := "(I)V", sig := { parameters := [.int], returnType := none }, accessFlags := 2, code := some k10c3 }
def k10c4 : Code := { maxStack := 5, maxLocals := 6, code := jdk_68_method_10_code, exceptionTable := #[], attributes := #[] }
def k10m4 : Method := { name := "newCapacity", desc := "(I)I", sig := { parameters := [.int], returnType := some .int }, accessFlags := 2, code := some k10c4 }
def k10c5 : Code := { maxStack := 3, maxLocals := 3, code := jdk_68_method_22_code, exceptionTable := #[], attributes := #[] }
def k10m5 : Method := { name := "append", desc := "(Ljava/lang/String;)Ljava/lang/AbstractStringBuilder;", sig := { parameters := [(.object "java/lang/String")], returnType := some (.object "java/lang/AbstractStringBuilder") }, accessFlags := 1, code := some k10c5 }
def k10c6 : Code := { maxStack := 6, maxLocals := 3, code := jdk_68_method_26_code, exceptionTable := #[], attributes := #[] }
def k10m6 : Method := { name := "appendNull", desc := "()Ljava/lang/AbstractStringBuilder;", sig := { parameters := [], returnType := some (.object "java/lang/AbstractStringBuilder") }, accessFlags := 2, code := some k10c6 }
def k10c7 : Code := { maxStack := 1, maxLocals := 1, code := jdk_68_method_64_code, exceptionTable := #[], attributes := #[] }
def k10m7 : Method := { name := "getValue", desc := "()[B", sig := { parameters := [], returnType := some (.array .byte) }, accessFlags := 16, code := some k10c7 }
def k10c8 : Code := { maxStack := 1, maxLocals := 1, code := jdk_68_method_68_code, exceptionTable := #[], attributes := #[] }
def k10m8 : Method := { name := "isLatin1", desc := "()Z", sig := { parameters := [], returnType := some .boolean }, accessFlags := 16, code := some k10c8 }
def k10c9 : Code := { maxStack := 2, maxLocals := 2, code := jdk_68_method_71_code, exceptionTable := #[], attributes := #[] }
def k10m9 : Method := { name := "inflateIfNeededFor", desc := "(Ljava/lang/String;)V", sig := { parameters := [(.object "java/lang/String")], returnType := none }, accessFlags := 2, code := some k10c9 }
def k10c10 : Code := { maxStack := 4, maxLocals := 3, code := jdk_68_method_73_code, exceptionTable := #[], attributes := #[] }
def k10m10 : Method := { name := "putStringAt", desc := "(ILjava/lang/String;)V", sig := { parameters := [.int, (.object "java/lang/String")], returnType := none }, accessFlags := 2, code := some k10c10 }
/-- java/lang/AbstractStringBuilder -/
def k10 : Class := { plain "java/lang/AbstractStringBuilder" (some 0) with
  accessFlags := 1056
  interfaces := #[9, 4]
  cf := some (fileOf pool10 10 #[] #[{ accessFlags := 0, nameIndex := 7, descriptorIndex := 8, attributes := #[] }, { accessFlags := 0, nameIndex := 7, descriptorIndex := 103, attributes := #[] }, { accessFlags := 1, nameIndex := 34, descriptorIndex := 35, attributes := #[] }, { accessFlags := 2, nameIndex := 102, descriptorIndex := 103, attributes := #[] }, { accessFlags := 2, nameIndex := 106, descriptorIndex := 107, attributes := #[] }, { accessFlags := 1, nameIndex := 45, descriptorIndex := 46, attributes := #[] }, { accessFlags := 2, nameIndex := 206, descriptorIndex := 207, attributes := #[] }, { accessFlags := 16, nameIndex := 552, descriptorIndex := 403, attributes := #[] }, { accessFlags := 16, nameIndex := 85, descriptorIndex := 86, attributes := #[] }, { accessFlags := 2, nameIndex := 217, descriptorIndex := 69, attributes := #[] }, { accessFlags := 2, nameIndex := 210, descriptorIndex := 211, attributes := #[] }] 1056 4 #[444, 48] #[{ accessFlags := 0, nameIndex := 17, descriptorIndex := 14, attributes := #[] }, { accessFlags := 0, nameIndex := 24, descriptorIndex := 25, attributes := #[] }, { accessFlags := 0, nameIndex := 75, descriptorIndex := 21, attributes := #[] }, { accessFlags := 0, nameIndex := 81, descriptorIndex := 82, attributes := #[] }, { accessFlags := 26, nameIndex := 13, descriptorIndex := 14, attributes := #[] }])
  fields := #[{ name := "value", type := (.array .byte), accessFlags := 0, slot := 0, constantValue := 0 }, { name := "coder", type := .byte, accessFlags := 0, slot := 1, constantValue := 0 }, { name := "maybeLatin1", type := .boolean, accessFlags := 0, slot := 2, constantValue := 0 }, { name := "count", type := .int, accessFlags := 0, slot := 3, constantValue := 0 }, { name := "EMPTYVALUE", type := (.array .byte), accessFlags := 26, slot := 0, constantValue := 0 }]
  methods := #[k10m0, k10m1, k10m2, k10m3, k10m4, k10m5, k10m6, k10m7, k10m8, k10m9, k10m10]
  instanceTypes := #[(.array .byte), .byte, .boolean, .int]
  staticTypes := #[(.array .byte)]
  resolved := Array.replicate 609 none
  statics := none }

def pool11 : Array CpInfo := pool [(1, .methodref 2 3), (0, .class_ 4), (0, .nameAndType 5 6), (0, u "java/lang/AbstractStringBuilder"), (0, u "<init>"), (0, u "(I)V"), (11, .class_ 20), (1, u "java/lang/String"), (3, .class_ 26), (1, u "java/lang/StringBuilder"), (0, u "append"), (0, u "(Ljava/lang/String;)Ljava/lang/StringBuilder;"), (0, .methodref 2 30), (0, .nameAndType 27 31), (0, u "(Ljava/lang/String;)Ljava/lang/AbstractStringBuilder;"), (105, .methodref 18 138), (0, .nameAndType 5 139), (0, u "(Ljava/lang/StringBuilder;)V"), (5, u "()V"), (10, u "()I"), (186, .methodref 2 344), (0, .nameAndType 345 156), (0, u "length"), (3, .class_ 350), (0, u "java/lang/Appendable"), (0, .class_ 352), (0, u "java/io/Serializable"), (0, .class_ 354), (0, u "java/lang/Comparable"), (0, .class_ 356), (0, u "java/lang/CharSequence"), (0, u "serialVersionUID"), (0, u "J"), (40, u "toString"), (0, u "()Ljava/lang/String;")] 21

def k11c0 : Code := { maxStack := 2, maxLocals := 1, code := jdk_67_method_1_code, exceptionTable := #[], attributes := #[] }
def k11m0 : Method := { name := "<init>", desc := "()V", sig := { parameters := [], returnType := none }, accessFlags := 1, code := some k11c0 }
def k11c1 : Code := { maxStack := 2, maxLocals := 2, code := jdk_67_method_7_code, exceptionTable := #[], attributes := #[] }
def k11m1 : Method := { name := "append", desc := "(Ljava/lang/String;)Ljava/lang/StringBuilder;", sig := { parameters := [(.object "java/lang/String")], returnType := some (.object "java/lang/StringBuilder") }, accessFlags := 1, code := some k11c1 }
def k11c2 : Code := { maxStack := 3, maxLocals := 1, code := jdk_67_method_42_code, exceptionTable := #[], attributes := #[] }
def k11m2 : Method := { name := "toString", desc := "()Ljava/lang/String;", sig := { parameters := [], returnType := some (.object "java/lang/String") }, accessFlags := 1, code := some k11c2 }
def k11c3 : Code := { maxStack := 1, maxLocals := 1, code := jdk_67_method_93_code, exceptionTable := #[], attributes := #[] }
def k11m3 : Method := { name := "length", desc := "()I", sig := { parameters := [], returnType := some .int }, accessFlags := 4161, code := some k11c3 }
/-- java/lang/StringBuilder -/
def k11 : Class := { plain "java/lang/StringBuilder" (some 10) with
  accessFlags := 49
  interfaces := #[9, 2, 3, 4]
  cf := some (fileOf pool11 24 #[] #[{ accessFlags := 1, nameIndex := 5, descriptorIndex := 145, attributes := #[] }, { accessFlags := 1, nameIndex := 27, descriptorIndex := 28, attributes := #[] }, { accessFlags := 1, nameIndex := 399, descriptorIndex := 400, attributes := #[] }, { accessFlags := 4161, nameIndex := 345, descriptorIndex := 156, attributes := #[] }] 49 2 #[349, 351, 353, 355] #[{ accessFlags := 24, nameIndex := 357, descriptorIndex := 358, attributes := #[] }])
  fields := #[{ name := "serialVersionUID", type := .long, accessFlags := 24, slot := 0, constantValue := 0 }]
  methods := #[k11m0, k11m1, k11m2, k11m3]
  instanceTypes := #[(.array .byte), .byte, .boolean, .int]
  staticTypes := #[.long]
  resolved := Array.replicate 422 none
  statics := none }

def pool12 : Array CpInfo := pool [(2, .class_ 4), (1, u "java/lang/Object"), (0, u "<init>"), (0, u "()V"), (1, .class_ 10), (1, u "java/lang/System"), (0, u "allowSecurityManager"), (0, u "I"), (16, u "cons"), (0, u "Ljava/io/Console;"), (77, .class_ 110), (1, u "java/lang/System$CallersHolder"), (43, u "initialErrStream"), (0, u "Ljava/io/PrintStream;"), (19, u "security"), (0, u "Ljava/lang/SecurityManager;"), (31, .class_ 209), (0, u "java/lang/System$1"), (7, u "props"), (0, u "Ljava/util/Properties;"), (2, u "lineSeparator"), (0, u "Ljava/lang/String;"), (96, .class_ 321), (1, u "java/lang/System$LoggerFinder"), (5, .class_ 328), (0, u "java/lang/System$Logger"), (67, u "err"), (2, u "out"), (91, u "notSupportedJnuEncoding"), (15, u "in"), (17, u "initialIn"), (0, u "Ljava/io/InputStream;"), (35, u "bootLayer"), (0, u "Ljava/lang/ModuleLayer;"), (99, .class_ 664), (0, u "java/lang/System$2"), (9, u "NEVER"), (2, u "MAYBE"), (49, u "arraycopy"), (0, u "(Ljava/lang/Object;ILjava/lang/Object;II)V"), (72, .class_ 802), (0, u "java/lang/System$Logger$Level")] 31

def k12m0 : Method := { name := "<init>", desc := "()V", sig := { parameters := [], returnType := none }, accessFlags := 2, code := none }
def k12m1 : Method := { name := "arraycopy", desc := "(Ljava/lang/Object;ILjava/lang/Object;II)V", sig := { parameters := [(.object "java/lang/Object"), .int, (.object "java/lang/Object"), .int, .int], returnType := none }, accessFlags := 265, code := none }
/-- java/lang/System -/
def k12 : Class := { plain "java/lang/System" (some 0) with
  accessFlags := 49
  interfaces := #[]
  cf := some (fileOf pool12 8 #[.nestMembers #[319, 327, 801, 108, 663, 208]] #[{ accessFlags := 2, nameIndex := 5, descriptorIndex := 6, attributes := #[] }, { accessFlags := 265, nameIndex := 727, descriptorIndex := 728, attributes := #[] }] 49 2 #[] #[{ accessFlags := 25, nameIndex := 507, descriptorIndex := 526, attributes := #[] }, { accessFlags := 25, nameIndex := 399, descriptorIndex := 155, attributes := #[] }, { accessFlags := 25, nameIndex := 396, descriptorIndex := 155, attributes := #[] }, { accessFlags := 10, nameIndex := 525, descriptorIndex := 526, attributes := #[] }, { accessFlags := 26, nameIndex := 674, descriptorIndex := 12, attributes := #[] }, { accessFlags := 26, nameIndex := 677, descriptorIndex := 12, attributes := #[] }, { accessFlags := 10, nameIndex := 11, descriptorIndex := 12, attributes := #[] }, { accessFlags := 74, nameIndex := 175, descriptorIndex := 176, attributes := #[] }, { accessFlags := 10, nameIndex := 491, descriptorIndex := 222, attributes := #[] }, { accessFlags := 74, nameIndex := 29, descriptorIndex := 30, attributes := #[] }, { accessFlags := 74, nameIndex := 154, descriptorIndex := 155, attributes := #[] }, { accessFlags := 10, nameIndex := 217, descriptorIndex := 218, attributes := #[] }, { accessFlags := 10, nameIndex := 221, descriptorIndex := 222, attributes := #[] }, { accessFlags := 8, nameIndex := 562, descriptorIndex := 563, attributes := #[] }])
  fields := #[{ name := "in", type := (.object "java/io/InputStream"), accessFlags := 25, slot := 0, constantValue := 0 }, { name := "out", type := (.object "java/io/PrintStream"), accessFlags := 25, slot := 1, constantValue := 0 }, { name := "err", type := (.object "java/io/PrintStream"), accessFlags := 25, slot := 2, constantValue := 0 }, { name := "initialIn", type := (.object "java/io/InputStream"), accessFlags := 10, slot := 3, constantValue := 0 }, { name := "NEVER", type := .int, accessFlags := 26, slot := 4, constantValue := 0 }, { name := "MAYBE", type := .int, accessFlags := 26, slot := 5, constantValue := 0 }, { name := "allowSecurityManager", type := .int, accessFlags := 10, slot := 6, constantValue := 0 }, { name := "security", type := (.object "java/lang/SecurityManager"), accessFlags := 74, slot := 7, constantValue := 0 }, { name := "notSupportedJnuEncoding", type := (.object "java/lang/String"), accessFlags := 10, slot := 8, constantValue := 0 }, { name := "cons", type := (.object "java/io/Console"), accessFlags := 74, slot := 9, constantValue := 0 }, { name := "initialErrStream", type := (.object "java/io/PrintStream"), accessFlags := 74, slot := 10, constantValue := 0 }, { name := "props", type := (.object "java/util/Properties"), accessFlags := 10, slot := 11, constantValue := 0 }, { name := "lineSeparator", type := (.object "java/lang/String"), accessFlags := 10, slot := 12, constantValue := 0 }, { name := "bootLayer", type := (.object "java/lang/ModuleLayer"), accessFlags := 8, slot := 13, constantValue := 0 }]
  methods := #[k12m0, k12m1]
  instanceTypes := #[]
  staticTypes := #[(.object "java/io/InputStream"), (.object "java/io/PrintStream"), (.object "java/io/PrintStream"), (.object "java/io/InputStream"), .int, .int, .int, (.object "java/lang/SecurityManager"), (.object "java/lang/String"), (.object "java/io/Console"), (.object "java/io/PrintStream"), (.object "java/util/Properties"), (.object "java/lang/String"), (.object "java/lang/ModuleLayer")]
  resolved := Array.replicate 834 none
  statics := none }

def pool13 : Array CpInfo := pool [(9, u "<init>"), (6, .class_ 18), (1, u "java/lang/Object"), (0, u "()V"), (1, .class_ 23), (1, u "jdk/internal/util/ArraysSupport"), (0, u "LOG2_ARRAY_LONG_INDEX_SCALE"), (0, u "I"), (2, u "U"), (0, u "Ljdk/internal/misc/Unsafe;"), (8, u "BIG_ENDIAN"), (0, u "Z"), (8, u "LOG2_BYTE_BIT_SIZE"), (4, u "LOG2_ARRAY_INT_INDEX_SCALE"), (54, u "JLA"), (0, u "Ljdk/internal/access/JavaLangAccess;"), (11, u "LOG2_ARRAY_BOOLEAN_INDEX_SCALE"), (9, u "LOG2_ARRAY_BYTE_INDEX_SCALE"), (5, u "LOG2_ARRAY_CHAR_INDEX_SCALE"), (5, u "LOG2_ARRAY_SHORT_INDEX_SCALE"), (18, u "LOG2_ARRAY_FLOAT_INDEX_SCALE"), (24, u "LOG2_ARRAY_DOUBLE_INDEX_SCALE"), (6, .methodref 195 196), (0, .class_ 197), (0, .nameAndType 198 199), (0, u "java/lang/Math"), (0, u "max"), (0, u "(II)I"), (0, .integer 2147483639), (76, u "T_BOOLEAN"), (2, u "T_CHAR"), (1, u "T_FLOAT"), (1, u "T_DOUBLE"), (1, u "T_BYTE"), (1, u "T_SHORT"), (1, u "T_INT"), (1, u "T_LONG"), (1, u "SOFT_MAX_ARRAY_LENGTH"), (56, u "newLength"), (0, u "(III)I")] 25

def k13m0 : Method := { name := "<init>", desc := "()V", sig := { parameters := [], returnType := none }, accessFlags := 2, code := none }
def k13c1 : Code := { maxStack := 3, maxLocals := 4, code := jdk_48_method_27_code, exceptionTable := #[], attributes := #[] }
def k13m1 : Method := { name := "newLength", desc := "(III)I", sig := { parameters := [.int, .int, .int], returnType := some .int }, accessFlags := 9, code := some k13c1 }
/-- jdk/internal/util/ArraysSupport -/
def k13 : Class := { plain "jdk/internal/util/ArraysSupport" (some 0) with
  accessFlags := 33
  interfaces := #[]
  cf := some (fileOf pool13 21 #[] #[{ accessFlags := 2, nameIndex := 9, descriptorIndex := 19, attributes := #[] }, { accessFlags := 9, nameIndex := 351, descriptorIndex := 352, attributes := #[] }] 33 16 #[] #[{ accessFlags := 24, nameIndex := 28, descriptorIndex := 29, attributes := #[] }, { accessFlags := 26, nameIndex := 38, descriptorIndex := 39, attributes := #[] }, { accessFlags := 25, nameIndex := 121, descriptorIndex := 25, attributes := #[] }, { accessFlags := 25, nameIndex := 131, descriptorIndex := 25, attributes := #[] }, { accessFlags := 25, nameIndex := 137, descriptorIndex := 25, attributes := #[] }, { accessFlags := 25, nameIndex := 143, descriptorIndex := 25, attributes := #[] }, { accessFlags := 25, nameIndex := 53, descriptorIndex := 25, attributes := #[] }, { accessFlags := 25, nameIndex := 24, descriptorIndex := 25, attributes := #[] }, { accessFlags := 25, nameIndex := 162, descriptorIndex := 25, attributes := #[] }, { accessFlags := 25, nameIndex := 187, descriptorIndex := 25, attributes := #[] }, { accessFlags := 26, nameIndex := 48, descriptorIndex := 25, attributes := #[] }, { accessFlags := 25, nameIndex := 277, descriptorIndex := 25, attributes := #[] }, { accessFlags := 25, nameIndex := 280, descriptorIndex := 25, attributes := #[] }, { accessFlags := 25, nameIndex := 282, descriptorIndex := 25, attributes := #[] }, { accessFlags := 25, nameIndex := 284, descriptorIndex := 25, attributes := #[] }, { accessFlags := 25, nameIndex := 286, descriptorIndex := 25, attributes := #[] }, { accessFlags := 25, nameIndex := 288, descriptorIndex := 25, attributes := #[] }, { accessFlags := 25, nameIndex := 290, descriptorIndex := 25, attributes := #[] }, { accessFlags := 25, nameIndex := 292, descriptorIndex := 25, attributes := #[] }, { accessFlags := 26, nameIndex := 108, descriptorIndex := 109, attributes := #[] }, { accessFlags := 25, nameIndex := 294, descriptorIndex := 25, attributes := #[] }])
  fields := #[{ name := "U", type := (.object "jdk/internal/misc/Unsafe"), accessFlags := 24, slot := 0, constantValue := 0 }, { name := "BIG_ENDIAN", type := .boolean, accessFlags := 26, slot := 1, constantValue := 0 }, { name := "LOG2_ARRAY_BOOLEAN_INDEX_SCALE", type := .int, accessFlags := 25, slot := 2, constantValue := 0 }, { name := "LOG2_ARRAY_BYTE_INDEX_SCALE", type := .int, accessFlags := 25, slot := 3, constantValue := 0 }, { name := "LOG2_ARRAY_CHAR_INDEX_SCALE", type := .int, accessFlags := 25, slot := 4, constantValue := 0 }, { name := "LOG2_ARRAY_SHORT_INDEX_SCALE", type := .int, accessFlags := 25, slot := 5, constantValue := 0 }, { name := "LOG2_ARRAY_INT_INDEX_SCALE", type := .int, accessFlags := 25, slot := 6, constantValue := 0 }, { name := "LOG2_ARRAY_LONG_INDEX_SCALE", type := .int, accessFlags := 25, slot := 7, constantValue := 0 }, { name := "LOG2_ARRAY_FLOAT_INDEX_SCALE", type := .int, accessFlags := 25, slot := 8, constantValue := 0 }, { name := "LOG2_ARRAY_DOUBLE_INDEX_SCALE", type := .int, accessFlags := 25, slot := 9, constantValue := 0 }, { name := "LOG2_BYTE_BIT_SIZE", type := .int, accessFlags := 26, slot := 10, constantValue := 0 }, { name := "T_BOOLEAN", type := .int, accessFlags := 25, slot := 11, constantValue := 0 }, { name := "T_CHAR", type := .int, accessFlags := 25, slot := 12, constantValue := 0 }, { name := "T_FLOAT", type := .int, accessFlags := 25, slot := 13, constantValue := 0 }, { name := "T_DOUBLE", type := .int, accessFlags := 25, slot := 14, constantValue := 0 }, { name := "T_BYTE", type := .int, accessFlags := 25, slot := 15, constantValue := 0 }, { name := "T_SHORT", type := .int, accessFlags := 25, slot := 16, constantValue := 0 }, { name := "T_INT", type := .int, accessFlags := 25, slot := 17, constantValue := 0 }, { name := "T_LONG", type := .int, accessFlags := 25, slot := 18, constantValue := 0 }, { name := "JLA", type := (.object "jdk/internal/access/JavaLangAccess"), accessFlags := 26, slot := 19, constantValue := 0 }, { name := "SOFT_MAX_ARRAY_LENGTH", type := .int, accessFlags := 25, slot := 20, constantValue := 0 }]
  methods := #[k13m0, k13m1]
  instanceTypes := #[]
  staticTypes := #[(.object "jdk/internal/misc/Unsafe"), .boolean, .int, .int, .int, .int, .int, .int, .int, .int, .int, .int, .int, .int, .int, .int, .int, .int, .int, (.object "jdk/internal/access/JavaLangAccess"), .int]
  resolved := Array.replicate 378 none
  statics := none }

def pool14 : Array CpInfo := pool [(1, .class_ 2), (0, u "java/lang/Math"), (1, .class_ 6), (1, u "java/lang/Object"), (0, u "<init>"), (0, u "()V"), (89, .class_ 100), (1, u "java/lang/Math$RandomNumberGeneratorHolder"), (71, u "negativeZeroFloatBits"), (0, u "J"), (2, u "negativeZeroDoubleBits"), (21, u "max"), (2, u "min"), (43, u "$assertionsDisabled"), (0, u "Z"), (88, u "(II)I"), (2, u "twoToTheDoubleScaleDown"), (0, u "D"), (4, u "twoToTheDoubleScaleUp"), (9, u "E"), (3, u "PI"), (2, u "TAU"), (2, u "DEGREES_TO_RADIANS"), (0, u "RADIANS_TO_DEGREES")] 94

def k14m0 : Method := { name := "<init>", desc := "()V", sig := { parameters := [], returnType := none }, accessFlags := 2, code := none }
def k14c1 : Code := { maxStack := 2, maxLocals := 2, code := jdk_29_method_65_code, exceptionTable := #[], attributes := #[] }
def k14m1 : Method := { name := "max", desc := "(II)I", sig := { parameters := [.int, .int], returnType := some .int }, accessFlags := 9, code := some k14c1 }
def k14c2 : Code := { maxStack := 2, maxLocals := 2, code := jdk_29_method_69_code, exceptionTable := #[], attributes := #[] }
def k14m2 : Method := { name := "min", desc := "(II)I", sig := { parameters := [.int, .int], returnType := some .int }, accessFlags := 9, code := some k14c2 }
/-- java/lang/Math -/
def k14 : Class := { plain "java/lang/Math" (some 0) with
  accessFlags := 49
  interfaces := #[]
  cf := some (fileOf pool14 1 #[.nestMembers #[98]] #[{ accessFlags := 2, nameIndex := 7, descriptorIndex := 8, attributes := #[] }, { accessFlags := 9, nameIndex := 198, descriptorIndex := 335, attributes := #[] }, { accessFlags := 9, nameIndex := 201, descriptorIndex := 335, attributes := #[] }] 49 4 #[] #[{ accessFlags := 25, nameIndex := 354, descriptorIndex := 339, attributes := #[] }, { accessFlags := 25, nameIndex := 358, descriptorIndex := 339, attributes := #[] }, { accessFlags := 25, nameIndex := 361, descriptorIndex := 339, attributes := #[] }, { accessFlags := 26, nameIndex := 364, descriptorIndex := 339, attributes := #[] }, { accessFlags := 26, nameIndex := 365, descriptorIndex := 339, attributes := #[] }, { accessFlags := 26, nameIndex := 172, descriptorIndex := 173, attributes := #[] }, { accessFlags := 26, nameIndex := 176, descriptorIndex := 173, attributes := #[] }, { accessFlags := 8, nameIndex := 344, descriptorIndex := 339, attributes := #[] }, { accessFlags := 8, nameIndex := 338, descriptorIndex := 339, attributes := #[] }, { accessFlags := 4120, nameIndex := 245, descriptorIndex := 246, attributes := #[] }])
  fields := #[{ name := "E", type := .double, accessFlags := 25, slot := 0, constantValue := 0 }, { name := "PI", type := .double, accessFlags := 25, slot := 1, constantValue := 0 }, { name := "TAU", type := .double, accessFlags := 25, slot := 2, constantValue := 0 }, { name := "DEGREES_TO_RADIANS", type := .double, accessFlags := 26, slot := 3, constantValue := 0 }, { name := "RADIANS_TO_DEGREES", type := .double, accessFlags := 26, slot := 4, constantValue := 0 }, { name := "negativeZeroFloatBits", type := .long, accessFlags := 26, slot := 5, constantValue := 0 }, { name := "negativeZeroDoubleBits", type := .long, accessFlags := 26, slot := 6, constantValue := 0 }, { name := "twoToTheDoubleScaleUp", type := .double, accessFlags := 8, slot := 7, constantValue := 0 }, { name := "twoToTheDoubleScaleDown", type := .double, accessFlags := 8, slot := 8, constantValue := 0 }, { name := "$assertionsDisabled", type := .boolean, accessFlags := 4120, slot := 9, constantValue := 0 }]
  methods := #[k14m0, k14m1, k14m2]
  instanceTypes := #[]
  staticTypes := #[.double, .double, .double, .double, .double, .long, .long, .double, .double, .boolean]
  resolved := Array.replicate 460 none
  statics := none }

def pool15 : Array CpInfo := pool [(2, .class_ 4), (1, u "java/lang/Object"), (0, u "<init>"), (0, u "()V"), (7, .class_ 16), (1, u "java/util/Arrays"), (57, .class_ 76), (1, u "java/util/Arrays$NaturalOrder"), (32, u "()Ljava/lang/Object;"), (3, .class_ 115), (1, u "java/util/Arrays$LegacyMergeSort"), (1, u "Z"), (10, .nameAndType 129 109), (0, u "clone"), (9, u "copyOfRange"), (10, .methodref 151 152), (0, .class_ 153), (0, .nameAndType 154 155), (0, u "java/lang/System"), (0, u "arraycopy"), (0, u "(Ljava/lang/Object;ILjava/lang/Object;II)V"), (146, u "copyOf"), (1, .methodref 305 306), (0, .class_ 307), (0, .nameAndType 308 309), (0, u "java/lang/Math"), (0, u "min"), (0, u "(II)I"), (0, .methodref 311 128), (0, .class_ 312), (0, u "[B"), (26, .methodref 14 340), (0, .nameAndType 341 342), (0, u "copyOfRangeByte"), (0, u "([BII)[B"), (0, .methodref 14 344), (0, .nameAndType 345 346), (0, u "checkLength"), (0, u "(II)V"), (28, .class_ 376), (0, u "java/util/Arrays$ArrayList"), (68, u "$assertionsDisabled"), (269, u "MIN_ARRAY_SORT_GRAN"), (0, u "I"), (2, u "INSERTIONSORT_THRESHOLD"), (149, u "([BI)[B"), (105, .class_ 976), (0, u "java/util/Arrays$ArrayItr")] 52

def k15m0 : Method := { name := "<init>", desc := "()V", sig := { parameters := [], returnType := none }, accessFlags := 2, code := none }
def k15c1 : Code := { maxStack := 6, maxLocals := 3, code := jdk_65_method_121_code, exceptionTable := #[], attributes := #[] }
def k15m1 : Method := { name := "copyOf", desc := "([BI)[B", sig := { parameters := [(.array .byte), .int], returnType := some (.array .byte) }, accessFlags := 9, code := some k15c1 }
def k15c2 : Code := { maxStack := 4, maxLocals := 2, code := jdk_65_method_131_code, exceptionTable := #[], attributes := #[] }
def k15m2 : Method := { name := "checkLength", desc := "(II)V", sig := { parameters := [.int, .int], returnType := none }, accessFlags := 10, code := some k15c2 }
def k15c3 : Code := { maxStack := 3, maxLocals := 3, code := jdk_65_method_132_code, exceptionTable := #[], attributes := #[] }
def k15m3 : Method := { name := "copyOfRange", desc := "([BII)[B", sig := { parameters := [(.array .byte), .int, .int], returnType := some (.array .byte) }, accessFlags := 9, code := some k15c3 }
def k15c4 : Code := { maxStack := 6, maxLocals := 5, code := jdk_65_method_133_code, exceptionTable := #[], attributes := #[] }
def k15m4 : Method := { name := "copyOfRangeByte", desc := "([BII)[B", sig := { parameters := [(.array .byte), .int, .int], returnType := some (.array .byte) }, accessFlags := 10, code := some k15c4 }
/-- java/util/Arrays -/
def k15 : Class := { plain "java/util/Arrays" (some 0) with
  accessFlags := 49
  interfaces := #[]
  cf := some (fileOf pool15 14 #[.nestMembers #[975, 375, 113, 74]] #[{ accessFlags := 2, nameIndex := 5, descriptorIndex := 6, attributes := #[] }, { accessFlags := 9, nameIndex := 302, descriptorIndex := 869, attributes := #[] }, { accessFlags := 10, nameIndex := 345, descriptorIndex := 346, attributes := #[] }, { accessFlags := 9, nameIndex := 139, descriptorIndex := 342, attributes := #[] }, { accessFlags := 10, nameIndex := 341, descriptorIndex := 342, attributes := #[] }] 49 2 #[] #[{ accessFlags := 26, nameIndex := 715, descriptorIndex := 716, attributes := #[] }, { accessFlags := 26, nameIndex := 719, descriptorIndex := 716, attributes := #[] }, { accessFlags := 4120, nameIndex := 445, descriptorIndex := 117, attributes := #[] }])
  fields := #[{ name := "MIN_ARRAY_SORT_GRAN", type := .int, accessFlags := 26, slot := 0, constantValue := 0 }, { name := "INSERTIONSORT_THRESHOLD", type := .int, accessFlags := 26, slot := 1, constantValue := 0 }, { name := "$assertionsDisabled", type := .boolean, accessFlags := 4120, slot := 2, constantValue := 0 }]
  methods := #[k15m0, k15m1, k15m2, k15m3, k15m4]
  instanceTypes := #[]
  staticTypes := #[.int, .int, .boolean]
  resolved := Array.replicate 1029 none
  statics := none }

def pool16 : Array CpInfo := pool [(1, .class_ 2), (0, u "java/lang/String"), (1, .class_ 6), (1, u "java/lang/Object"), (0, u "<init>"), (0, u "()V"), (0, .methodref 1 10), (0, .nameAndType 11 12), (0, u "checkIndex"), (0, u "(II)V"), (1, .class_ 16), (1, u "java/lang/StringLatin1"), (36, u "([BI)C"), (67, u "$assertionsDisabled"), (0, u "Z"), (98, .class_ 223), (1, u "java/lang/StringLatin1$LinesSpliterator"), (28, u "charAt"), (137, .class_ 391), (0, u "java/lang/StringLatin1$CharsSpliterator")] 3

def k16m0 : Method := { name := "<init>", desc := "()V", sig := { parameters := [], returnType := none }, accessFlags := 0, code := none }
def k16c1 : Code := { maxStack := 2, maxLocals := 2, code := jdk_43_method_2_code, exceptionTable := #[], attributes := #[] }
def k16m1 : Method := { name := "charAt", desc := "([BI)C", sig := { parameters := [(.array .byte), .int], returnType := some .char }, accessFlags := 9, code := some k16c1 }
/-- java/lang/StringLatin1 -/
def k16 : Class := { plain "java/lang/StringLatin1" (some 0) with
  accessFlags := 48
  interfaces := #[]
  cf := some (fileOf pool16 14 #[.nestMembers #[390, 221]] #[{ accessFlags := 0, nameIndex := 7, descriptorIndex := 8, attributes := #[] }, { accessFlags := 9, nameIndex := 252, descriptorIndex := 53, attributes := #[] }] 48 4 #[] #[{ accessFlags := 4120, nameIndex := 121, descriptorIndex := 122, attributes := #[] }])
  fields := #[{ name := "$assertionsDisabled", type := .boolean, accessFlags := 4120, slot := 0, constantValue := 0 }]
  methods := #[k16m0, k16m1]
  instanceTypes := #[]
  staticTypes := #[.boolean]
  resolved := Array.replicate 395 none
  statics := none }

def pool17 : Array CpInfo := pool [(2, .class_ 4), (1, u "java/lang/Object"), (0, u "<init>"), (0, u "()V"), (17, .class_ 26), (1, u "jdk/internal/util/Preconditions"), (6, u "checkIndex"), (21, .class_ 56), (0, u "jdk/internal/util/Preconditions$4"), (57, .class_ 115), (0, u "jdk/internal/util/Preconditions$1"), (7, u "SIOOBE_FORMATTER"), (0, u "Ljava/util/function/BiFunction;"), (0, .class_ 126), (0, u "jdk/internal/util/Preconditions$2"), (3, u "AIOOBE_FORMATTER"), (0, .class_ 132), (0, u "jdk/internal/util/Preconditions$3"), (3, u "IOOBE_FORMATTER"), (41, u "(IILjava/util/function/BiFunction;)I")] 15

def k17m0 : Method := { name := "<init>", desc := "()V", sig := { parameters := [], returnType := none }, accessFlags := 1, code := none }
def k17c1 : Code := { maxStack := 3, maxLocals := 3, code := jdk_41_method_11_code, exceptionTable := #[], attributes := #[] }
def k17m1 : Method := { name := "checkIndex", desc := "(IILjava/util/function/BiFunction;)I", sig := { parameters := [.int, .int, (.object "java/util/function/BiFunction")], returnType := some .int }, accessFlags := 9, code := some k17c1 }
/-- jdk/internal/util/Preconditions -/
def k17 : Class := { plain "jdk/internal/util/Preconditions" (some 0) with
  accessFlags := 33
  interfaces := #[]
  cf := some (fileOf pool17 24 #[.nestMembers #[55, 131, 125, 114]] #[{ accessFlags := 1, nameIndex := 5, descriptorIndex := 6, attributes := #[] }, { accessFlags := 9, nameIndex := 33, descriptorIndex := 178, attributes := #[] }] 33 2 #[] #[{ accessFlags := 25, nameIndex := 123, descriptorIndex := 124, attributes := #[] }, { accessFlags := 25, nameIndex := 130, descriptorIndex := 124, attributes := #[] }, { accessFlags := 25, nameIndex := 136, descriptorIndex := 124, attributes := #[] }])
  fields := #[{ name := "SIOOBE_FORMATTER", type := (.object "java/util/function/BiFunction"), accessFlags := 25, slot := 0, constantValue := 0 }, { name := "AIOOBE_FORMATTER", type := (.object "java/util/function/BiFunction"), accessFlags := 25, slot := 1, constantValue := 0 }, { name := "IOOBE_FORMATTER", type := (.object "java/util/function/BiFunction"), accessFlags := 25, slot := 2, constantValue := 0 }]
  methods := #[k17m0, k17m1]
  instanceTypes := #[]
  staticTypes := #[(.object "java/util/function/BiFunction"), (.object "java/util/function/BiFunction"), (.object "java/util/function/BiFunction")]
  resolved := Array.replicate 194 none
  statics := some 1 }

def pool18 : Array CpInfo := pool [(6, .class_ 8), (1, u "java/lang/Object"), (0, u "<init>"), (0, u "()V"), (1, .class_ 14), (1, u "java/lang/StringUTF16"), (31, u "$assertionsDisabled"), (0, u "Z"), (13, u "HI_BYTE_SHIFT"), (0, u "I"), (2, u "LO_BYTE_SHIFT"), (49, .methodref 12 116), (0, .nameAndType 117 118), (0, u "compress"), (0, u "([CI[BII)I"), (3, u "([CII)[B"), (138, u "coderFromArrayLen"), (0, u "([BI)B"), (106, .class_ 371), (1, u "java/lang/StringUTF16$LinesSpliterator"), (58, u "MAX_LENGTH"), (196, .class_ 628), (0, u "java/lang/StringUTF16$CodePointsSpliterator"), (0, .class_ 630), (0, u "java/lang/StringUTF16$CharsSpliterator")] 4

def k18m0 : Method := { name := "<init>", desc := "()V", sig := { parameters := [], returnType := none }, accessFlags := 0, code := none }
def k18c1 : Code := { maxStack := 2, maxLocals := 2, code := jdk_52_method_15_code, exceptionTable := #[], attributes := #[] }
def k18m1 : Method := { name := "coderFromArrayLen", desc := "([BI)B", sig := { parameters := [(.array .byte), .int], returnType := some .byte }, accessFlags := 8, code := some k18c1 }
def k18c2 : Code := { maxStack := 5, maxLocals := 6, code := jdk_52_method_16_code, exceptionTable := #[], attributes := #[] }
def k18m2 : Method := { name := "compress", desc := "([CII)[B", sig := { parameters := [(.array .char), .int, .int], returnType := some (.array .byte) }, accessFlags := 9, code := some k18c2 }
def k18c3 : Code := { maxStack := 3, maxLocals := 7, code := jdk_52_method_21_code, exceptionTable := #[], attributes := #[] }
def k18m3 : Method := { name := "compress", desc := "([CI[BII)I", sig := { parameters := [(.array .char), .int, (.array .byte), .int, .int], returnType := some .int }, accessFlags := 9, code := some k18c3 }
/-- java/lang/StringUTF16 -/
def k18 : Class := { plain "java/lang/StringUTF16" (some 0) with
  accessFlags := 48
  interfaces := #[]
  cf := some (fileOf pool18 12 #[.nestMembers #[627, 629, 369]] #[{ accessFlags := 0, nameIndex := 9, descriptorIndex := 10, attributes := #[] }, { accessFlags := 8, nameIndex := 261, descriptorIndex := 262, attributes := #[] }, { accessFlags := 9, nameIndex := 117, descriptorIndex := 122, attributes := #[] }, { accessFlags := 9, nameIndex := 117, descriptorIndex := 118, attributes := #[] }] 48 6 #[] #[{ accessFlags := 26, nameIndex := 61, descriptorIndex := 62, attributes := #[] }, { accessFlags := 26, nameIndex := 65, descriptorIndex := 62, attributes := #[] }, { accessFlags := 24, nameIndex := 430, descriptorIndex := 62, attributes := #[] }, { accessFlags := 4120, nameIndex := 46, descriptorIndex := 47, attributes := #[] }])
  fields := #[{ name := "HI_BYTE_SHIFT", type := .int, accessFlags := 26, slot := 0, constantValue := 0 }, { name := "LO_BYTE_SHIFT", type := .int, accessFlags := 26, slot := 1, constantValue := 0 }, { name := "MAX_LENGTH", type := .int, accessFlags := 24, slot := 2, constantValue := 0 }, { name := "$assertionsDisabled", type := .boolean, accessFlags := 4120, slot := 3, constantValue := 0 }]
  methods := #[k18m0, k18m1, k18m2, k18m3]
  instanceTypes := #[]
  staticTypes := #[.int, .int, .int, .boolean]
  resolved := Array.replicate 635 none
  statics := none }

def pool19 : Array CpInfo := pool [(1, .class_ 2), (0, u "java/lang/Cloneable"), (0, .class_ 4), (0, u "java/lang/Object")] 2

/-- java/lang/Cloneable -/
def k19 : Class := { plain "java/lang/Cloneable" (some 0) with
  accessFlags := 1537
  interfaces := #[]
  cf := some (fileOf pool19 1 #[] #[] 1537 3 #[] #[])
  fields := #[]
  methods := #[]
  instanceTypes := #[]
  staticTypes := #[]
  resolved := Array.replicate 7 none
  statics := none }

/-- the primitive byte -/
def k20 : Class := { plain "byte" none with kind := .primitive 'B', accessFlags := 0x411 }
/-- [B -/
def k21 : Class := { plain "[B" (some 0) with kind := .array 20 .byte, interfaces := #[19, 2], accessFlags := 1041 }

/-- the primitive char -/
def k22 : Class := { plain "char" none with kind := .primitive 'C', accessFlags := 0x411 }
/-- [C -/
def k23 : Class := { plain "[C" (some 0) with kind := .array 22 .char, interfaces := #[19, 2], accessFlags := 1041 }

/-- the primitive int -/
def k24 : Class := { plain "int" none with kind := .primitive 'I', accessFlags := 0x411 }
/-- [I -/
def k25 : Class := { plain "[I" (some 0) with kind := .array 24 .int, interfaces := #[19, 2], accessFlags := 1041 }

def heap : Heap := #[{ cls := 7, slots := #[.long 0, .int 1, .null, .int 0, .null, .int 0, .int 0], vm := .statics 7 },
  { cls := 17, slots := #[.null, .null, .null], vm := .statics 17 }]
def classes : Array Class := #[k0, k1, k2, k3, k4, k5, k6, k7, k8, k9, k10, k11, k12, k13, k14, k15, k16, k17, k18, k19, k20, k21, k22, k23, k24, k25]
def interned : List (Array UInt16 × Addr) := []
def slotsUsed : Nat := 10
def theMethod : MethodId := ⟨1, 4⟩
def args0 : Array Value := #[.int 7, .int 11, .int 13, .int 3]
def aboutOver (below : List Frame) : State where
  vm := { classes := classes, interned := interned.toArray }
  heap := heap
  slotsUsed := slotsUsed
  threads := #[{ frames := .invoking theMethod args0 :: below }]
def below0 : List Frame := [.native { method := ⟨0, 0⟩, args := #[] }]
def about1 : State := aboutOver below0
def p0 : Program := .bare "" "" ""
def e0 : Env := launch0.env 0 0 0
theorem w_frames : about1.frames = Frame.invoking theMethod args0 :: below0 := rfl
set_option maxRecDepth 65536 in
theorem w_args : argsFit about1.vm theMethod args0 = true := by decide +kernel
set_option maxRecDepth 65536 in
theorem w_heap : heapFits about1 = true := by decide +kernel
set_option maxRecDepth 65536 in
theorem w_runnable : about1.curStatus? = some .runnable := by decide +kernel
set_option maxRecDepth 65536 in
theorem w_alone : about1.alone = true := by decide +kernel
set_option maxRecDepth 65536 in
theorem w_named : about1.methodNamed? x = some theMethod := by decide +kernel
set_option maxRecDepth 65536 in
theorem w_hears : about1.hears theMethod below0 = true := by decide +kernel
set_option maxRecDepth 65536 in
theorem w_ripe : about1.ripe theMethod args0 below0 = true := by decide +kernel
theorem w_running : about1.status = .running := rfl
set_option maxRecDepth 65536 in
theorem w_room : about1.hasRoom e0.platform room_1 = true :=
  launch0.hasRoom_least _ room_1 (by decide +kernel) (by decide +kernel) (by decide +kernel) (by decide +kernel) (by decide +kernel) (by decide +kernel)
theorem allAtoms_all (ts : List Jvm.Cond) (a : Array Jvm.Value) (st : Jvm.State) : (allAtoms ts).before a st = ts.all (fun c => c.before a st) := by
  induction ts with
  | nil => rfl
  | cons c t ih =>
    show (Jvm.Cond.and c (allAtoms t)).before a st = _
    rw [Jvm.Cond.before_and, ih, List.all_cons]
def words1 : List Jvm.Cond := Jvm.Cond.code x code maxLocals ret :: tables_1
/-- a 'code' word, met by the world's own term for the bytes: nothing is compared byte by byte -/
theorem code_word {y : MethodName} {bytes : ByteArray} {mx : Nat} {rt : Option FieldType} {a : Array Value} {s : State} {m : MethodId} {meth : Method} {c : Code} (h1 : s.methodNamed? y = some m) (h2 : s.vm.method? m = some meth) (h3 : meth.code = some c) (h4 : c.code = bytes)
    (h5 : (c.maxLocals == mx && c.exceptionTable.isEmpty && decide (c.maxStack ≤ mostOperands) && decide (meth.sig.returnType = rt) && !meth.locks && decide (parseMethodDescriptor y.desc = some meth.sig)) = true) : (Jvm.Cond.code y bytes mx rt).before a s = true := by
  simp only [Bool.and_eq_true, beq_iff_eq, Bool.not_eq_true', decide_eq_true_eq] at h5
  obtain ⟨⟨⟨⟨⟨g1, g2⟩, g3⟩, g4⟩, g5⟩, g6⟩ := h5
  simp [Cond.before, Cond.holds, Cond.value, h1, h2, h3, h4, g1, g2, g3, g4, g5, g6]
def isCode : Jvm.Cond → Bool
  | .code _ _ _ _ => true
  | _ => false
theorem all_split {L : List Jvm.Cond} {P : Jvm.Cond → Bool} (h1 : L.all (fun c => isCode c || P c) = true) (h2 : ∀ c ∈ L.filter isCode, P c = true) : L.all P = true := by
  refine List.all_eq_true.mpr fun c hc => ?_
  have h := List.all_eq_true.mp h1 c hc
  rcases Bool.eq_false_or_eq_true (isCode c) with hi | hi
  · exact h2 c (List.mem_filter.mpr ⟨hc, hi⟩)
  · simpa [hi] using h
set_option maxRecDepth 65536 in
theorem w_c0 : (Jvm.Cond.code x code maxLocals ret).before args0 about1 = true := code_word (m := ⟨1, 4⟩) (meth := k1m4) (c := k1c4) (by decide +kernel) rfl rfl rfl (by decide +kernel)
set_option maxRecDepth 65536 in
theorem w_c1 : (Jvm.Cond.code ({ cls := "com/example/gate_to_handlers/gatetohandlers/ObjectErrorToStringPinLaw", name := "make", desc := "(II)Ljava/lang/String;" } : Jvm.MethodName) method_2_code (4 : Nat) (Option.some (Jvm.ClassFile.FieldType.object "java/lang/String"))).before args0 about1 = true := code_word (m := ⟨1, 1⟩) (meth := k1m1) (c := k1c1) (by decide +kernel) rfl rfl rfl (by decide +kernel)
set_option maxRecDepth 65536 in
theorem w_c2 : (Jvm.Cond.code ({ cls := "java/lang/String", name := "<init>", desc := "([C)V" } : Jvm.MethodName) jdk_42_method_3_code (2 : Nat) (Option.none : Option Jvm.ClassFile.FieldType)).before args0 about1 = true := code_word (m := ⟨7, 1⟩) (meth := k7m1) (c := k7c1) (by decide +kernel) rfl rfl rfl (by decide +kernel)
set_option maxRecDepth 65536 in
theorem w_c3 : (Jvm.Cond.code ({ cls := "java/lang/String", name := "<init>", desc := "([CIILjava/lang/Void;)V" } : Jvm.MethodName) jdk_42_method_149_code (6 : Nat) (Option.none : Option Jvm.ClassFile.FieldType)).before args0 about1 = true := code_word (m := ⟨7, 6⟩) (meth := k7m6) (c := k7c6) (by decide +kernel) rfl rfl rfl (by decide +kernel)
set_option maxRecDepth 65536 in
theorem w_c4 : (Jvm.Cond.code ({ cls := "java/lang/Object", name := "<init>", desc := "()V" } : Jvm.MethodName) object_method_1_code (1 : Nat) (Option.none : Option Jvm.ClassFile.FieldType)).before args0 about1 = true := code_word (m := ⟨0, 0⟩) (meth := k0m0) (c := k0c0) (by decide +kernel) rfl rfl rfl (by decide +kernel)
set_option maxRecDepth 65536 in
theorem w_c5 : (Jvm.Cond.code ({ cls := "com/example/gate_to_handlers/gatetohandlers/ObjectError", name := "<init>", desc := "(Ljava/lang/String;Ljava/lang/String;Ljava/lang/String;)V" } : Jvm.MethodName) prog_78_method_1_code (4 : Nat) (Option.none : Option Jvm.ClassFile.FieldType)).before args0 about1 = true := code_word (m := ⟨8, 0⟩) (meth := k8m0) (c := k8c0) (by decide +kernel) rfl rfl rfl (by decide +kernel)
set_option maxRecDepth 65536 in
theorem w_c6 : (Jvm.Cond.code ({ cls := "com/example/gate_to_handlers/gatetohandlers/ObjectError", name := "toString", desc := "()Ljava/lang/String;" } : Jvm.MethodName) prog_78_method_5_code (1 : Nat) (Option.some (Jvm.ClassFile.FieldType.object "java/lang/String"))).before args0 about1 = true := code_word (m := ⟨8, 1⟩) (meth := k8m1) (c := k8c1) (by decide +kernel) rfl rfl rfl (by decide +kernel)
set_option maxRecDepth 65536 in
theorem w_c7 : (Jvm.Cond.code ({ cls := "java/lang/StringBuilder", name := "<init>", desc := "()V" } : Jvm.MethodName) jdk_67_method_1_code (1 : Nat) (Option.none : Option Jvm.ClassFile.FieldType)).before args0 about1 = true := code_word (m := ⟨11, 0⟩) (meth := k11m0) (c := k11c0) (by decide +kernel) rfl rfl rfl (by decide +kernel)
set_option maxRecDepth 65536 in
theorem w_c8 : (Jvm.Cond.code ({ cls := "java/lang/AbstractStringBuilder", name := "<init>", desc := "(I)V" } : Jvm.MethodName) jdk_68_method_2_code (2 : Nat) (Option.none : Option Jvm.ClassFile.FieldType)).before args0 about1 = true := code_word (m := ⟨10, 1⟩) (meth := k10m1) (c := k10c1) (by decide +kernel) rfl rfl rfl (by decide +kernel)
set_option maxRecDepth 65536 in
theorem w_c9 : (Jvm.Cond.code ({ cls := "java/lang/StringBuilder", name := "append", desc := "(Ljava/lang/String;)Ljava/lang/StringBuilder;" } : Jvm.MethodName) jdk_67_method_7_code (2 : Nat) (Option.some (Jvm.ClassFile.FieldType.object "java/lang/StringBuilder"))).before args0 about1 = true := code_word (m := ⟨11, 1⟩) (meth := k11m1) (c := k11c1) (by decide +kernel) rfl rfl rfl (by decide +kernel)
set_option maxRecDepth 65536 in
theorem w_c10 : (Jvm.Cond.code ({ cls := "java/lang/AbstractStringBuilder", name := "append", desc := "(Ljava/lang/String;)Ljava/lang/AbstractStringBuilder;" } : Jvm.MethodName) jdk_68_method_22_code (3 : Nat) (Option.some (Jvm.ClassFile.FieldType.object "java/lang/AbstractStringBuilder"))).before args0 about1 = true := code_word (m := ⟨10, 5⟩) (meth := k10m5) (c := k10c5) (by decide +kernel) rfl rfl rfl (by decide +kernel)
set_option maxRecDepth 65536 in
theorem w_c11 : (Jvm.Cond.code ({ cls := "java/lang/String", name := "length", desc := "()I" } : Jvm.MethodName) jdk_42_method_54_code (1 : Nat) (Option.some Jvm.ClassFile.FieldType.int)).before args0 about1 = true := code_word (m := ⟨7, 3⟩) (meth := k7m3) (c := k7c3) (by decide +kernel) rfl rfl rfl (by decide +kernel)
set_option maxRecDepth 65536 in
theorem w_c12 : (Jvm.Cond.code ({ cls := "java/lang/String", name := "coder", desc := "()B" } : Jvm.MethodName) jdk_42_method_152_code (1 : Nat) (Option.some Jvm.ClassFile.FieldType.byte)).before args0 about1 = true := code_word (m := ⟨7, 8⟩) (meth := k7m8) (c := k7c8) (by decide +kernel) rfl rfl rfl (by decide +kernel)
set_option maxRecDepth 65536 in
theorem w_c13 : (Jvm.Cond.code ({ cls := "java/lang/AbstractStringBuilder", name := "ensureCapacityInternal", desc := "(I)V" } : Jvm.MethodName) jdk_68_method_9_code (3 : Nat) (Option.none : Option Jvm.ClassFile.FieldType)).before args0 about1 = true := code_word (m := ⟨10, 3⟩) (meth := k10m3) (c := k10c3) (by decide +kernel) rfl rfl rfl (by decide +kernel)
set_option maxRecDepth 65536 in
theorem w_c14 : (Jvm.Cond.code ({ cls := "java/lang/AbstractStringBuilder", name := "putStringAt", desc := "(ILjava/lang/String;)V" } : Jvm.MethodName) jdk_68_method_73_code (3 : Nat) (Option.none : Option Jvm.ClassFile.FieldType)).before args0 about1 = true := code_word (m := ⟨10, 10⟩) (meth := k10m10) (c := k10c10) (by decide +kernel) rfl rfl rfl (by decide +kernel)
set_option maxRecDepth 65536 in
theorem w_c15 : (Jvm.Cond.code ({ cls := "java/lang/AbstractStringBuilder", name := "inflateIfNeededFor", desc := "(Ljava/lang/String;)V" } : Jvm.MethodName) jdk_68_method_71_code (2 : Nat) (Option.none : Option Jvm.ClassFile.FieldType)).before args0 about1 = true := code_word (m := ⟨10, 9⟩) (meth := k10m9) (c := k10c9) (by decide +kernel) rfl rfl rfl (by decide +kernel)
set_option maxRecDepth 65536 in
theorem w_c16 : (Jvm.Cond.code ({ cls := "java/lang/String", name := "getBytes", desc := "([BIB)V" } : Jvm.MethodName) jdk_42_method_147_code (4 : Nat) (Option.none : Option Jvm.ClassFile.FieldType)).before args0 about1 = true := code_word (m := ⟨7, 5⟩) (meth := k7m5) (c := k7c5) (by decide +kernel) rfl rfl rfl (by decide +kernel)
set_option maxRecDepth 65536 in
theorem w_c17 : (Jvm.Cond.code ({ cls := "java/lang/AbstractStringBuilder", name := "appendNull", desc := "()Ljava/lang/AbstractStringBuilder;" } : Jvm.MethodName) jdk_68_method_26_code (3 : Nat) (Option.some (Jvm.ClassFile.FieldType.object "java/lang/AbstractStringBuilder"))).before args0 about1 = true := code_word (m := ⟨10, 6⟩) (meth := k10m6) (c := k10c6) (by decide +kernel) rfl rfl rfl (by decide +kernel)
set_option maxRecDepth 65536 in
theorem w_c18 : (Jvm.Cond.code ({ cls := "java/lang/AbstractStringBuilder", name := "isLatin1", desc := "()Z" } : Jvm.MethodName) jdk_68_method_68_code (1 : Nat) (Option.some Jvm.ClassFile.FieldType.boolean)).before args0 about1 = true := code_word (m := ⟨10, 8⟩) (meth := k10m8) (c := k10c8) (by decide +kernel) rfl rfl rfl (by decide +kernel)
set_option maxRecDepth 65536 in
theorem w_c19 : (Jvm.Cond.code ({ cls := "java/lang/AbstractStringBuilder", name := "newCapacity", desc := "(I)I" } : Jvm.MethodName) jdk_68_method_10_code (6 : Nat) (Option.some Jvm.ClassFile.FieldType.int)).before args0 about1 = true := code_word (m := ⟨10, 4⟩) (meth := k10m4) (c := k10c4) (by decide +kernel) rfl rfl rfl (by decide +kernel)
set_option maxRecDepth 65536 in
theorem w_c20 : (Jvm.Cond.code ({ cls := "jdk/internal/util/ArraysSupport", name := "newLength", desc := "(III)I" } : Jvm.MethodName) jdk_48_method_27_code (4 : Nat) (Option.some Jvm.ClassFile.FieldType.int)).before args0 about1 = true := code_word (m := ⟨13, 1⟩) (meth := k13m1) (c := k13c1) (by decide +kernel) rfl rfl rfl (by decide +kernel)
set_option maxRecDepth 65536 in
theorem w_c21 : (Jvm.Cond.code ({ cls := "java/lang/Math", name := "max", desc := "(II)I" } : Jvm.MethodName) jdk_29_method_65_code (2 : Nat) (Option.some Jvm.ClassFile.FieldType.int)).before args0 about1 = true := code_word (m := ⟨14, 1⟩) (meth := k14m1) (c := k14c1) (by decide +kernel) rfl rfl rfl (by decide +kernel)
set_option maxRecDepth 65536 in
theorem w_c22 : (Jvm.Cond.code ({ cls := "java/util/Arrays", name := "copyOf", desc := "([BI)[B" } : Jvm.MethodName) jdk_65_method_121_code (3 : Nat) (Option.some (Jvm.ClassFile.FieldType.array Jvm.ClassFile.FieldType.byte))).before args0 about1 = true := code_word (m := ⟨15, 1⟩) (meth := k15m1) (c := k15c1) (by decide +kernel) rfl rfl rfl (by decide +kernel)
set_option maxRecDepth 65536 in
theorem w_c23 : (Jvm.Cond.code ({ cls := "java/lang/Math", name := "min", desc := "(II)I" } : Jvm.MethodName) jdk_29_method_69_code (2 : Nat) (Option.some Jvm.ClassFile.FieldType.int)).before args0 about1 = true := code_word (m := ⟨14, 2⟩) (meth := k14m2) (c := k14c2) (by decide +kernel) rfl rfl rfl (by decide +kernel)
set_option maxRecDepth 65536 in
theorem w_c24 : (Jvm.Cond.code ({ cls := "java/lang/StringBuilder", name := "toString", desc := "()Ljava/lang/String;" } : Jvm.MethodName) jdk_67_method_42_code (1 : Nat) (Option.some (Jvm.ClassFile.FieldType.object "java/lang/String"))).before args0 about1 = true := code_word (m := ⟨11, 2⟩) (meth := k11m2) (c := k11c2) (by decide +kernel) rfl rfl rfl (by decide +kernel)
set_option maxRecDepth 65536 in
theorem w_c25 : (Jvm.Cond.code ({ cls := "java/lang/String", name := "<init>", desc := "(Ljava/lang/StringBuilder;)V" } : Jvm.MethodName) jdk_42_method_53_code (2 : Nat) (Option.none : Option Jvm.ClassFile.FieldType)).before args0 about1 = true := code_word (m := ⟨7, 2⟩) (meth := k7m2) (c := k7c2) (by decide +kernel) rfl rfl rfl (by decide +kernel)
set_option maxRecDepth 65536 in
theorem w_c26 : (Jvm.Cond.code ({ cls := "java/lang/String", name := "<init>", desc := "(Ljava/lang/AbstractStringBuilder;Ljava/lang/Void;)V" } : Jvm.MethodName) jdk_42_method_150_code (5 : Nat) (Option.none : Option Jvm.ClassFile.FieldType)).before args0 about1 = true := code_word (m := ⟨7, 7⟩) (meth := k7m7) (c := k7c7) (by decide +kernel) rfl rfl rfl (by decide +kernel)
set_option maxRecDepth 65536 in
theorem w_c27 : (Jvm.Cond.code ({ cls := "java/lang/AbstractStringBuilder", name := "getValue", desc := "()[B" } : Jvm.MethodName) jdk_68_method_64_code (1 : Nat) (Option.some (Jvm.ClassFile.FieldType.array Jvm.ClassFile.FieldType.byte))).before args0 about1 = true := code_word (m := ⟨10, 7⟩) (meth := k10m7) (c := k10c7) (by decide +kernel) rfl rfl rfl (by decide +kernel)
set_option maxRecDepth 65536 in
theorem w_c28 : (Jvm.Cond.code ({ cls := "java/lang/StringBuilder", name := "length", desc := "()I" } : Jvm.MethodName) jdk_67_method_93_code (1 : Nat) (Option.some Jvm.ClassFile.FieldType.int)).before args0 about1 = true := code_word (m := ⟨11, 3⟩) (meth := k11m3) (c := k11c3) (by decide +kernel) rfl rfl rfl (by decide +kernel)
set_option maxRecDepth 65536 in
theorem w_c29 : (Jvm.Cond.code ({ cls := "java/lang/AbstractStringBuilder", name := "length", desc := "()I" } : Jvm.MethodName) jdk_68_method_6_code (1 : Nat) (Option.some Jvm.ClassFile.FieldType.int)).before args0 about1 = true := code_word (m := ⟨10, 2⟩) (meth := k10m2) (c := k10c2) (by decide +kernel) rfl rfl rfl (by decide +kernel)
set_option maxRecDepth 65536 in
theorem w_c30 : (Jvm.Cond.code ({ cls := "java/util/Arrays", name := "copyOfRange", desc := "([BII)[B" } : Jvm.MethodName) jdk_65_method_132_code (3 : Nat) (Option.some (Jvm.ClassFile.FieldType.array Jvm.ClassFile.FieldType.byte))).before args0 about1 = true := code_word (m := ⟨15, 3⟩) (meth := k15m3) (c := k15c3) (by decide +kernel) rfl rfl rfl (by decide +kernel)
set_option maxRecDepth 65536 in
theorem w_c31 : (Jvm.Cond.code ({ cls := "java/util/Arrays", name := "copyOfRangeByte", desc := "([BII)[B" } : Jvm.MethodName) jdk_65_method_133_code (5 : Nat) (Option.some (Jvm.ClassFile.FieldType.array Jvm.ClassFile.FieldType.byte))).before args0 about1 = true := code_word (m := ⟨15, 4⟩) (meth := k15m4) (c := k15c4) (by decide +kernel) rfl rfl rfl (by decide +kernel)
set_option maxRecDepth 65536 in
theorem w_c32 : (Jvm.Cond.code ({ cls := "java/util/Arrays", name := "checkLength", desc := "(II)V" } : Jvm.MethodName) jdk_65_method_131_code (2 : Nat) (Option.none : Option Jvm.ClassFile.FieldType)).before args0 about1 = true := code_word (m := ⟨15, 2⟩) (meth := k15m2) (c := k15c2) (by decide +kernel) rfl rfl rfl (by decide +kernel)
set_option maxRecDepth 65536 in
theorem w_c33 : (Jvm.Cond.code ({ cls := "com/example/gate_to_handlers/gatetohandlers/ObjectErrorToStringPinLaw", name := "shown", desc := "(Ljava/lang/String;)Ljava/lang/String;" } : Jvm.MethodName) method_3_code (1 : Nat) (Option.some (Jvm.ClassFile.FieldType.object "java/lang/String"))).before args0 about1 = true := code_word (m := ⟨1, 2⟩) (meth := k1m2) (c := k1c2) (by decide +kernel) rfl rfl rfl (by decide +kernel)
set_option maxRecDepth 65536 in
theorem w_c34 : (Jvm.Cond.code ({ cls := "com/example/gate_to_handlers/gatetohandlers/ObjectErrorToStringPinLaw", name := "at", desc := "(Ljava/lang/String;ILjava/lang/String;)Z" } : Jvm.MethodName) method_4_code (4 : Nat) (Option.some Jvm.ClassFile.FieldType.boolean)).before args0 about1 = true := code_word (m := ⟨1, 3⟩) (meth := k1m3) (c := k1c3) (by decide +kernel) rfl rfl rfl (by decide +kernel)
set_option maxRecDepth 65536 in
theorem w_c35 : (Jvm.Cond.code ({ cls := "java/lang/String", name := "charAt", desc := "(I)C" } : Jvm.MethodName) jdk_42_method_56_code (2 : Nat) (Option.some Jvm.ClassFile.FieldType.char)).before args0 about1 = true := code_word (m := ⟨7, 4⟩) (meth := k7m4) (c := k7c4) (by decide +kernel) rfl rfl rfl (by decide +kernel)
set_option maxRecDepth 65536 in
theorem w_c36 : (Jvm.Cond.code ({ cls := "java/lang/String", name := "isLatin1", desc := "()Z" } : Jvm.MethodName) jdk_42_method_154_code (1 : Nat) (Option.some Jvm.ClassFile.FieldType.boolean)).before args0 about1 = true := code_word (m := ⟨7, 9⟩) (meth := k7m9) (c := k7c9) (by decide +kernel) rfl rfl rfl (by decide +kernel)
set_option maxRecDepth 65536 in
theorem w_c37 : (Jvm.Cond.code ({ cls := "java/lang/StringLatin1", name := "charAt", desc := "([BI)C" } : Jvm.MethodName) jdk_43_method_2_code (2 : Nat) (Option.some Jvm.ClassFile.FieldType.char)).before args0 about1 = true := code_word (m := ⟨16, 1⟩) (meth := k16m1) (c := k16c1) (by decide +kernel) rfl rfl rfl (by decide +kernel)
set_option maxRecDepth 65536 in
theorem w_c38 : (Jvm.Cond.code ({ cls := "java/lang/String", name := "checkIndex", desc := "(II)V" } : Jvm.MethodName) jdk_42_method_155_code (2 : Nat) (Option.none : Option Jvm.ClassFile.FieldType)).before args0 about1 = true := code_word (m := ⟨7, 10⟩) (meth := k7m10) (c := k7c10) (by decide +kernel) rfl rfl rfl (by decide +kernel)
set_option maxRecDepth 65536 in
theorem w_c39 : (Jvm.Cond.code ({ cls := "jdk/internal/util/Preconditions", name := "checkIndex", desc := "(IILjava/util/function/BiFunction;)I" } : Jvm.MethodName) jdk_41_method_11_code (3 : Nat) (Option.some Jvm.ClassFile.FieldType.int)).before args0 about1 = true := code_word (m := ⟨17, 1⟩) (meth := k17m1) (c := k17c1) (by decide +kernel) rfl rfl rfl (by decide +kernel)
set_option maxRecDepth 65536 in
theorem w_c40 : (Jvm.Cond.code ({ cls := "java/lang/StringUTF16", name := "compress", desc := "([CII)[B" } : Jvm.MethodName) jdk_52_method_16_code (6 : Nat) (Option.some (Jvm.ClassFile.FieldType.array Jvm.ClassFile.FieldType.byte))).before args0 about1 = true := code_word (m := ⟨18, 2⟩) (meth := k18m2) (c := k18c2) (by decide +kernel) rfl rfl rfl (by decide +kernel)
set_option maxRecDepth 65536 in
theorem w_c41 : (Jvm.Cond.code ({ cls := "java/lang/StringUTF16", name := "compress", desc := "([CI[BII)I" } : Jvm.MethodName) jdk_52_method_21_code (7 : Nat) (Option.some Jvm.ClassFile.FieldType.int)).before args0 about1 = true := code_word (m := ⟨18, 3⟩) (meth := k18m3) (c := k18c3) (by decide +kernel) rfl rfl rfl (by decide +kernel)
set_option maxRecDepth 65536 in
theorem w_c42 : (Jvm.Cond.code ({ cls := "java/lang/StringUTF16", name := "coderFromArrayLen", desc := "([BI)B" } : Jvm.MethodName) jdk_52_method_15_code (2 : Nat) (Option.some Jvm.ClassFile.FieldType.byte)).before args0 about1 = true := code_word (m := ⟨18, 1⟩) (meth := k18m1) (c := k18c1) (by decide +kernel) rfl rfl rfl (by decide +kernel)
def codes1 : List Jvm.Cond := [Jvm.Cond.code x code maxLocals ret, Jvm.Cond.code ({ cls := "com/example/gate_to_handlers/gatetohandlers/ObjectErrorToStringPinLaw", name := "make", desc := "(II)Ljava/lang/String;" } : Jvm.MethodName) method_2_code (4 : Nat) (Option.some (Jvm.ClassFile.FieldType.object "java/lang/String")), Jvm.Cond.code ({ cls := "java/lang/String", name := "<init>", desc := "([C)V" } : Jvm.MethodName) jdk_42_method_3_code (2 : Nat) (Option.none : Option Jvm.ClassFile.FieldType), Jvm.Cond.code ({ cls := "java/lang/String", name := "<init>", desc := "([CIILjava/lang/Void;)V" } : Jvm.MethodName) jdk_42_method_149_code (6 : Nat) (Option.none : Option Jvm.ClassFile.FieldType), Jvm.Cond.code ({ cls := "java/lang/Object", name := "<init>", desc := "()V" } : Jvm.MethodName) object_method_1_code (1 : Nat) (Option.none : Option Jvm.ClassFile.FieldType), Jvm.Cond.code ({ cls := "com/example/gate_to_handlers/gatetohandlers/ObjectError", name := "<init>", desc := "(Ljava/lang/String;Ljava/lang/String;Ljava/lang/String;)V" } : Jvm.MethodName) prog_78_method_1_code (4 : Nat) (Option.none : Option Jvm.ClassFile.FieldType), Jvm.Cond.code ({ cls := "com/example/gate_to_handlers/gatetohandlers/ObjectError", name := "toString", desc := "()Ljava/lang/String;" } : Jvm.MethodName) prog_78_method_5_code (1 : Nat) (Option.some (Jvm.ClassFile.FieldType.object "java/lang/String")), Jvm.Cond.code ({ cls := "java/lang/StringBuilder", name := "<init>", desc := "()V" } : Jvm.MethodName) jdk_67_method_1_code (1 : Nat) (Option.none : Option Jvm.ClassFile.FieldType), Jvm.Cond.code ({ cls := "java/lang/AbstractStringBuilder", name := "<init>", desc := "(I)V" } : Jvm.MethodName) jdk_68_method_2_code (2 : Nat) (Option.none : Option Jvm.ClassFile.FieldType), Jvm.Cond.code ({ cls := "java/lang/StringBuilder", name := "append", desc := "(Ljava/lang/String;)Ljava/lang/StringBuilder;" } : Jvm.MethodName) jdk_67_method_7_code (2 : Nat) (Option.some (Jvm.ClassFile.FieldType.object "java/lang/StringBuilder")), Jvm.Cond.code ({ cls := "java/lang/AbstractStringBuilder", name := "append", desc := "(Ljava/lang/String;)Ljava/lang/AbstractStringBuilder;" } : Jvm.MethodName) jdk_68_method_22_code (3 : Nat) (Option.some (Jvm.ClassFile.FieldType.object "java/lang/AbstractStringBuilder")), Jvm.Cond.code ({ cls := "java/lang/String", name := "length", desc := "()I" } : Jvm.MethodName) jdk_42_method_54_code (1 : Nat) (Option.some Jvm.ClassFile.FieldType.int), Jvm.Cond.code ({ cls := "java/lang/String", name := "coder", desc := "()B" } : Jvm.MethodName) jdk_42_method_152_code (1 : Nat) (Option.some Jvm.ClassFile.FieldType.byte), Jvm.Cond.code ({ cls := "java/lang/AbstractStringBuilder", name := "ensureCapacityInternal", desc := "(I)V" } : Jvm.MethodName) jdk_68_method_9_code (3 : Nat) (Option.none : Option Jvm.ClassFile.FieldType), Jvm.Cond.code ({ cls := "java/lang/AbstractStringBuilder", name := "putStringAt", desc := "(ILjava/lang/String;)V" } : Jvm.MethodName) jdk_68_method_73_code (3 : Nat) (Option.none : Option Jvm.ClassFile.FieldType), Jvm.Cond.code ({ cls := "java/lang/AbstractStringBuilder", name := "inflateIfNeededFor", desc := "(Ljava/lang/String;)V" } : Jvm.MethodName) jdk_68_method_71_code (2 : Nat) (Option.none : Option Jvm.ClassFile.FieldType), Jvm.Cond.code ({ cls := "java/lang/String", name := "getBytes", desc := "([BIB)V" } : Jvm.MethodName) jdk_42_method_147_code (4 : Nat) (Option.none : Option Jvm.ClassFile.FieldType), Jvm.Cond.code ({ cls := "java/lang/AbstractStringBuilder", name := "appendNull", desc := "()Ljava/lang/AbstractStringBuilder;" } : Jvm.MethodName) jdk_68_method_26_code (3 : Nat) (Option.some (Jvm.ClassFile.FieldType.object "java/lang/AbstractStringBuilder")), Jvm.Cond.code ({ cls := "java/lang/AbstractStringBuilder", name := "isLatin1", desc := "()Z" } : Jvm.MethodName) jdk_68_method_68_code (1 : Nat) (Option.some Jvm.ClassFile.FieldType.boolean), Jvm.Cond.code ({ cls := "java/lang/AbstractStringBuilder", name := "newCapacity", desc := "(I)I" } : Jvm.MethodName) jdk_68_method_10_code (6 : Nat) (Option.some Jvm.ClassFile.FieldType.int), Jvm.Cond.code ({ cls := "jdk/internal/util/ArraysSupport", name := "newLength", desc := "(III)I" } : Jvm.MethodName) jdk_48_method_27_code (4 : Nat) (Option.some Jvm.ClassFile.FieldType.int), Jvm.Cond.code ({ cls := "java/lang/Math", name := "max", desc := "(II)I" } : Jvm.MethodName) jdk_29_method_65_code (2 : Nat) (Option.some Jvm.ClassFile.FieldType.int), Jvm.Cond.code ({ cls := "java/util/Arrays", name := "copyOf", desc := "([BI)[B" } : Jvm.MethodName) jdk_65_method_121_code (3 : Nat) (Option.some (Jvm.ClassFile.FieldType.array Jvm.ClassFile.FieldType.byte)), Jvm.Cond.code ({ cls := "java/lang/Math", name := "min", desc := "(II)I" } : Jvm.MethodName) jdk_29_method_69_code (2 : Nat) (Option.some Jvm.ClassFile.FieldType.int), Jvm.Cond.code ({ cls := "java/lang/StringBuilder", name := "toString", desc := "()Ljava/lang/String;" } : Jvm.MethodName) jdk_67_method_42_code (1 : Nat) (Option.some (Jvm.ClassFile.FieldType.object "java/lang/String")), Jvm.Cond.code ({ cls := "java/lang/String", name := "<init>", desc := "(Ljava/lang/StringBuilder;)V" } : Jvm.MethodName) jdk_42_method_53_code (2 : Nat) (Option.none : Option Jvm.ClassFile.FieldType), Jvm.Cond.code ({ cls := "java/lang/String", name := "<init>", desc := "(Ljava/lang/AbstractStringBuilder;Ljava/lang/Void;)V" } : Jvm.MethodName) jdk_42_method_150_code (5 : Nat) (Option.none : Option Jvm.ClassFile.FieldType), Jvm.Cond.code ({ cls := "java/lang/AbstractStringBuilder", name := "getValue", desc := "()[B" } : Jvm.MethodName) jdk_68_method_64_code (1 : Nat) (Option.some (Jvm.ClassFile.FieldType.array Jvm.ClassFile.FieldType.byte)), Jvm.Cond.code ({ cls := "java/lang/StringBuilder", name := "length", desc := "()I" } : Jvm.MethodName) jdk_67_method_93_code (1 : Nat) (Option.some Jvm.ClassFile.FieldType.int), Jvm.Cond.code ({ cls := "java/lang/AbstractStringBuilder", name := "length", desc := "()I" } : Jvm.MethodName) jdk_68_method_6_code (1 : Nat) (Option.some Jvm.ClassFile.FieldType.int), Jvm.Cond.code ({ cls := "java/util/Arrays", name := "copyOfRange", desc := "([BII)[B" } : Jvm.MethodName) jdk_65_method_132_code (3 : Nat) (Option.some (Jvm.ClassFile.FieldType.array Jvm.ClassFile.FieldType.byte)), Jvm.Cond.code ({ cls := "java/util/Arrays", name := "copyOfRangeByte", desc := "([BII)[B" } : Jvm.MethodName) jdk_65_method_133_code (5 : Nat) (Option.some (Jvm.ClassFile.FieldType.array Jvm.ClassFile.FieldType.byte)), Jvm.Cond.code ({ cls := "java/util/Arrays", name := "checkLength", desc := "(II)V" } : Jvm.MethodName) jdk_65_method_131_code (2 : Nat) (Option.none : Option Jvm.ClassFile.FieldType), Jvm.Cond.code ({ cls := "com/example/gate_to_handlers/gatetohandlers/ObjectErrorToStringPinLaw", name := "shown", desc := "(Ljava/lang/String;)Ljava/lang/String;" } : Jvm.MethodName) method_3_code (1 : Nat) (Option.some (Jvm.ClassFile.FieldType.object "java/lang/String")), Jvm.Cond.code ({ cls := "com/example/gate_to_handlers/gatetohandlers/ObjectErrorToStringPinLaw", name := "at", desc := "(Ljava/lang/String;ILjava/lang/String;)Z" } : Jvm.MethodName) method_4_code (4 : Nat) (Option.some Jvm.ClassFile.FieldType.boolean), Jvm.Cond.code ({ cls := "java/lang/String", name := "charAt", desc := "(I)C" } : Jvm.MethodName) jdk_42_method_56_code (2 : Nat) (Option.some Jvm.ClassFile.FieldType.char), Jvm.Cond.code ({ cls := "java/lang/String", name := "isLatin1", desc := "()Z" } : Jvm.MethodName) jdk_42_method_154_code (1 : Nat) (Option.some Jvm.ClassFile.FieldType.boolean), Jvm.Cond.code ({ cls := "java/lang/StringLatin1", name := "charAt", desc := "([BI)C" } : Jvm.MethodName) jdk_43_method_2_code (2 : Nat) (Option.some Jvm.ClassFile.FieldType.char), Jvm.Cond.code ({ cls := "java/lang/String", name := "checkIndex", desc := "(II)V" } : Jvm.MethodName) jdk_42_method_155_code (2 : Nat) (Option.none : Option Jvm.ClassFile.FieldType), Jvm.Cond.code ({ cls := "jdk/internal/util/Preconditions", name := "checkIndex", desc := "(IILjava/util/function/BiFunction;)I" } : Jvm.MethodName) jdk_41_method_11_code (3 : Nat) (Option.some Jvm.ClassFile.FieldType.int), Jvm.Cond.code ({ cls := "java/lang/StringUTF16", name := "compress", desc := "([CII)[B" } : Jvm.MethodName) jdk_52_method_16_code (6 : Nat) (Option.some (Jvm.ClassFile.FieldType.array Jvm.ClassFile.FieldType.byte)), Jvm.Cond.code ({ cls := "java/lang/StringUTF16", name := "compress", desc := "([CI[BII)I" } : Jvm.MethodName) jdk_52_method_21_code (7 : Nat) (Option.some Jvm.ClassFile.FieldType.int), Jvm.Cond.code ({ cls := "java/lang/StringUTF16", name := "coderFromArrayLen", desc := "([BI)B" } : Jvm.MethodName) jdk_52_method_15_code (2 : Nat) (Option.some Jvm.ClassFile.FieldType.byte)]
set_option maxRecDepth 65536 in
theorem codes_eq : words1.filter isCode = codes1 := rfl
theorem w_codes : ∀ c ∈ words1.filter isCode, c.before args0 about1 = true := by
  rw [codes_eq]
  intro c hc
  simp only [codes1, List.mem_cons, List.not_mem_nil, or_false] at hc
  rcases hc with rfl | rfl | rfl | rfl | rfl | rfl | rfl | rfl | rfl | rfl | rfl | rfl | rfl | rfl | rfl | rfl | rfl | rfl | rfl | rfl | rfl | rfl | rfl | rfl | rfl | rfl | rfl | rfl | rfl | rfl | rfl | rfl | rfl | rfl | rfl | rfl | rfl | rfl | rfl | rfl | rfl | rfl | rfl
  · exact w_c0
  · exact w_c1
  · exact w_c2
  · exact w_c3
  · exact w_c4
  · exact w_c5
  · exact w_c6
  · exact w_c7
  · exact w_c8
  · exact w_c9
  · exact w_c10
  · exact w_c11
  · exact w_c12
  · exact w_c13
  · exact w_c14
  · exact w_c15
  · exact w_c16
  · exact w_c17
  · exact w_c18
  · exact w_c19
  · exact w_c20
  · exact w_c21
  · exact w_c22
  · exact w_c23
  · exact w_c24
  · exact w_c25
  · exact w_c26
  · exact w_c27
  · exact w_c28
  · exact w_c29
  · exact w_c30
  · exact w_c31
  · exact w_c32
  · exact w_c33
  · exact w_c34
  · exact w_c35
  · exact w_c36
  · exact w_c37
  · exact w_c38
  · exact w_c39
  · exact w_c40
  · exact w_c41
  · exact w_c42
set_option maxRecDepth 65536 in
theorem w_t1 : (words1.take 24).all (fun c => isCode c || c.before args0 about1) = true := by decide +kernel
set_option maxRecDepth 65536 in
theorem w_t2 : ((words1.drop 24).take 24).all (fun c => isCode c || c.before args0 about1) = true := by decide +kernel
set_option maxRecDepth 65536 in
theorem w_t3 : (((words1.drop 24).drop 24).take 24).all (fun c => isCode c || c.before args0 about1) = true := by decide +kernel
set_option maxRecDepth 65536 in
theorem w_t4 : ((((words1.drop 24).drop 24).drop 24).take 24).all (fun c => isCode c || c.before args0 about1) = true := by decide +kernel
set_option maxRecDepth 65536 in
theorem w_t5 : (((((words1.drop 24).drop 24).drop 24).drop 24).take 24).all (fun c => isCode c || c.before args0 about1) = true := by decide +kernel
set_option maxRecDepth 65536 in
theorem w_t6 : ((((((words1.drop 24).drop 24).drop 24).drop 24).drop 24).take 24).all (fun c => isCode c || c.before args0 about1) = true := by decide +kernel
set_option maxRecDepth 65536 in
theorem w_t7 : (((((((words1.drop 24).drop 24).drop 24).drop 24).drop 24).drop 24).take 24).all (fun c => isCode c || c.before args0 about1) = true := by decide +kernel
set_option maxRecDepth 65536 in
theorem w_t8 : ((((((((words1.drop 24).drop 24).drop 24).drop 24).drop 24).drop 24).drop 24).take 24).all (fun c => isCode c || c.before args0 about1) = true := by decide +kernel
set_option maxRecDepth 65536 in
theorem w_t9 : (((((((((words1.drop 24).drop 24).drop 24).drop 24).drop 24).drop 24).drop 24).drop 24).take 24).all (fun c => isCode c || c.before args0 about1) = true := by decide +kernel
set_option maxRecDepth 65536 in
theorem w_t10 : (((((((((words1.drop 24).drop 24).drop 24).drop 24).drop 24).drop 24).drop 24).drop 24).drop 24).all (fun c => isCode c || c.before args0 about1) = true := by decide +kernel
theorem w_tables : (allAtoms (Jvm.Cond.code x code maxLocals ret :: tables_1)).before args0 about1 = true := by
  rw [allAtoms_all]
  show words1.all (fun c => c.before args0 about1) = true
  refine all_split ?_ w_codes
  rw [← List.take_append_drop 24 words1, List.all_append, w_t1, ← List.take_append_drop 24 (words1.drop 24), List.all_append, w_t2, ← List.take_append_drop 24 ((words1.drop 24).drop 24), List.all_append, w_t3, ← List.take_append_drop 24 (((words1.drop 24).drop 24).drop 24), List.all_append, w_t4, ← List.take_append_drop 24 ((((words1.drop 24).drop 24).drop 24).drop 24), List.all_append, w_t5, ← List.take_append_drop 24 (((((words1.drop 24).drop 24).drop 24).drop 24).drop 24), List.all_append, w_t6, ← List.take_append_drop 24 ((((((words1.drop 24).drop 24).drop 24).drop 24).drop 24).drop 24), List.all_append, w_t7, ← List.take_append_drop 24 (((((((words1.drop 24).drop 24).drop 24).drop 24).drop 24).drop 24).drop 24), List.all_append, w_t8, ← List.take_append_drop 24 ((((((((words1.drop 24).drop 24).drop 24).drop 24).drop 24).drop 24).drop 24).drop 24), List.all_append, w_t9, w_t10]
  rfl
set_option maxRecDepth 65536 in
theorem w_rest : rest_1_c.before args0 about1 = true := by decide +kernel
set_option maxRecDepth 65536 in
theorem w_case : (Jvm.Cond.and given_1 narrow_1).before args0 about1 = true := by decide +kernel
set_option maxRecDepth 65536 in
theorem w_consts : constsHeld consts_1 about1 := Jvm.Lit.constsHeldB_iff.mp (by decide +kernel)
theorem w_applies : (headSpec (Jvm.Cond.code x code maxLocals ret :: tables_1) room_1).applies x e0.platform about1 = true :=
  (Spec.applies_iff w_frames).mpr ⟨w_running, w_runnable, w_alone, w_named, w_hears, w_ripe, w_room, w_tables⟩
theorem atStart : AtStart classFile x code maxLocals ret World_1 tables_1 room_1 Calls_1 rest_1 Pre_1 launch0 p0 e0 about1 theMethod args0 below0 :=
  ⟨lists_1, trivial, launch0.admits_env _ _ _, launch0.least_env, fairChoices_fair.cas, fairChoices_fair.clock, w_frames, w_args, w_heap, w_applies, ⟨w_consts, trivial⟩, w_rest, w_case⟩
end start1
theorem witness_1 : WitnessClaimed_1 := ⟨start1.p0, start1.e0, start1.about1, start1.theMethod, start1.args0, start1.below0, start1.atStart⟩
end Jvm.Pilot.@@N@@
