import JvmDerived
import JvmDerived.Pilot.@@N@@Statement
import JvmDerived.Pilot.@@N@@Code
set_option linter.unusedVariables false
set_option linter.unusedSimpArgs false
namespace Jvm.OwnKit
open Sem ClassFile Op Lib Jvm.Stand Jvm.Free Jvm.LawKit Jvm.RoadKit
/-! a run that goes on to its end -/
def Run (tb : Tables) (e : Env) (below : List Frame) (F : Outcome → State → Prop) (st : State) : Prop :=
  ∃ u o, Steps tb e below st u ∧ u.status = .running ∧ Ended u below o ∧ F o u
theorem Run.st {tb : Tables} {e : Env} {below : List Frame} {F : Outcome → State → Prop} {st : State} (st' : State) (k : ∀ t, Steps tb e below st' t → Steps tb e below st t) (h : Run tb e below F st') : Run tb e below F st := by
  obtain ⟨u, o, a, b⟩ := h
  exact ⟨u, o, k _ a, b⟩
/-! small facts -/
theorem extR (h : Heap) : Ext h h := ⟨Nat.le_refl _, fun _ _ q => q⟩
theorem extT {h h1 h2 : Heap} (E : Ext h h1) (F : Ext h1 h2) : Ext h h2 := ⟨Nat.le_trans E.1 F.1, fun a c q => F.2 a c (E.2 a c q)⟩
theorem extK {h h1 h2 : Heap} {ws : List Addr} (E : Ext h h1) (K : Keep h1 h2 ws) (q : ∀ x ∈ ws, h.size ≤ x) : Ext h h2 := ⟨Nat.le_trans E.1 K.1, fun a c ha => K.2.1 a c (E.2 a c ha) fun hm => Nat.lt_irrefl _ (Nat.lt_of_lt_of_le (Array.getElem?_eq_some_iff.mp ha).1 (q a hm))⟩
theorem keepE {h h1 : Heap} (K : Keep h h1 []) : Ext h h1 := extK (extR h) K all0
theorem cat_r (a : Addr) : (Value.ref a).category = 1 := rfl
theorem cat_i (z : Int32) : (Value.int z).category = 1 := rfl
theorem cat_l (z : Int64) : (Value.long z).category = 2 := rfl
theorem cat_n : Value.null.category = 1 := rfl
theorem catR {v : Value} (h : v.isRef = true) : v.category = 1 := by cases v <;> simp [Value.isRef] at h <;> rfl
theorem narR {v : Value} {t : FieldType} (h : v.isRef = true) (ht : t.isReference = true) : narrow t v = v := by cases v <;> simp [Value.isRef] at h <;> cases t <;> first | rfl | cases ht
theorem fitR {v : Value} {t : FieldType} (h : v.isRef = true) (ht : t.isReference = true) : fits t v = true := by cases v <;> simp [Value.isRef] at h <;> cases t <;> first | rfl | cases ht
theorem narZ {z : Int32} (h : z = 0 ∨ z = 1) : narrow .boolean (.int z) = .int z := by rcases h with rfl | rfl <;> rfl
theorem fitZ {z : Int32} (h : z = 0 ∨ z = 1) : fits .boolean (.int z) = true := by rcases h with rfl | rfl <;> rfl
theorem b01k {P : Prop} {z : Int32} (h : P ∧ z = 1 ∨ ¬ P ∧ z = 0) : z = 0 ∨ z = 1 := h.elim (fun q => Or.inr q.2) (fun q => Or.inl q.2)
def bI (P : Prop) [Decidable P] : Int32 := if P then 1 else 0
theorem bIt {P : Prop} [Decidable P] (h : P) : bI P = 1 := if_pos h
theorem bI0 {P : Prop} [Decidable P] (h : ¬ P) : bI P = 0 := if_neg h
theorem bI1 {P : Prop} [Decidable P] (h : P) : ¬ bI P = 0 := by rw [bIt h]; decide
theorem bIc {P Q : Prop} [Decidable P] [Decidable Q] (h : P ↔ Q) : bI P = bI Q := by
  by_cases p : P
  · rw [bIt p, bIt (h.mp p)]
  · rw [bI0 p, bI0 fun q => p (h.mpr q)]
theorem b01b {P : Prop} [Decidable P] : bI P = 0 ∨ bI P = 1 := by
  by_cases p : P
  · exact Or.inr (bIt p)
  · exact Or.inl (bI0 p)
theorem cmpL_self (x : Int64) : XT.cmpL x x = 0 := by simp [XT.cmpL]
theorem i32e {a b : Int32} (h : a.toInt = b.toInt) : a = b := Int32.toInt_inj.mp h
theorem fitsNB (x : Int32) : fits .byte (.int (nar .byte x)) = true := by
  have h := c_i2b x; have e1 : (-128 : Int32).toInt = -128 := rfl; have e2 : (127 : Int32).toInt = 127 := rfl
  simp only [fits, nar, Bool.and_eq_true, decide_eq_true_eq, Int32.le_iff_toInt_le, e1, e2]; omega
theorem c8i (x : Int32) : (x &&& (255 : Int32)).toUInt32.toUInt16.toUInt32.toInt32 = x &&& (255 : Int32) := by
  have q := c_and x 255 (by decide); have r := c_i2c (x &&& 255); have e : (255 : Int32).toInt = 255 := rfl
  exact i32e (by omega)
theorem narC {x : Int32} (h : ¬ x < 0 ∧ ¬ (255 : Int32) < x) : nar .char x = x := by
  have r := c_i2c x; have e : (255 : Int32).toInt = 255 := rfl; have e0 : (0 : Int32).toInt = 0 := rfl
  obtain ⟨h1, h2⟩ := h; rw [Int32.lt_iff_toInt_lt] at h1 h2
  exact i32e (by show x.toUInt32.toUInt16.toUInt32.toInt32.toInt = x.toInt; omega)
theorem c8r (x : Int32) : ¬ (x &&& (255 : Int32)) < 0 ∧ ¬ (255 : Int32) < (x &&& (255 : Int32)) := by
  have q := c_and x 255 (by decide); have e : (255 : Int32).toInt = 255 := rfl; have e0 : (0 : Int32).toInt = 0 := rfl
  rw [Int32.lt_iff_toInt_lt, Int32.lt_iff_toInt_lt]; omega
theorem c8n (x : Int32) : nar .char ((x &&& (255 : Int32)).toUInt32.toUInt16.toUInt32.toInt32) = x &&& (255 : Int32) := by rw [c8i]; exact narC (c8r x)
theorem c8lr (x : Int64) : ¬ (x &&& (255 : Int64)).toInt32 < 0 ∧ ¬ (255 : Int32) < (x &&& (255 : Int64)).toInt32 := by
  have q := c_maskL x 255 8 (by decide) (by decide); have r := c_l2i (x &&& 255); have b := rng32 (x &&& 255).toInt32; have e : (255 : Int32).toInt = 255 := rfl; have e0 : (0 : Int32).toInt = 0 := rfl
  rw [Int32.lt_iff_toInt_lt, Int32.lt_iff_toInt_lt]; omega
theorem c8ln (x : Int64) : nar .char ((x &&& (255 : Int64)).toInt32.toUInt32.toUInt16.toUInt32.toInt32) = (x &&& (255 : Int64)).toInt32 := by
  have h := narC (c8lr x)
  have e : (x &&& (255 : Int64)).toInt32.toUInt32.toUInt16.toUInt32.toInt32 = (x &&& (255 : Int64)).toInt32 := h
  rw [e]; exact h
theorem chs0 {P : Int32 → Prop} : ∀ c ∈ ([] : List Int32), P c := fun _ h => nomatch h
theorem chsS {P : Int32 → Prop} {y : Int32} {L : List Int32} (q : P y) (r : ∀ x ∈ L, P x) : ∀ x ∈ y :: L, P x := fun x hx => (List.mem_cons.mp hx).elim (fun e => e ▸ q) (r x)
theorem chUp {cs : List Int32} (h : ∀ c ∈ cs, ¬ c < 0 ∧ ¬ (255 : Int32) < c) : ∀ c ∈ cs, ¬ c < 0 ∧ ¬ (65535 : Int32) < c := fun c hc => ⟨(h c hc).1, fun q => (h c hc).2 (by rw [Int32.lt_iff_toInt_lt] at q ⊢; have e1 : (65535 : Int32).toInt = 65535 := rfl; have e2 : (255 : Int32).toInt = 255 := rfl; omega)⟩
theorem stoR {l : Array Slot} {i : Nat} {v : Value} {l' : Array Slot} {o : Slot} (hold : l[i]? = some o) (ho : o = .unset ∨ ∃ w, o = .val w ∧ w.category = 1) (hv : v.isRef = true) (e : l.setIfInBounds i (.val v) = l') : storeLocals l i v = some l' := by rw [XS.store1 hold ho (catR hv), e]
theorem shr0 (x : Int32) : x >>> ((0 : Int32) &&& 31) = x := i32e (by rw [c_ishr x 0 0 rfl]; simp)
theorem shl0 (x : Int32) : x <<< ((0 : Int32) &&& 31) = x := by
  have h := c_ishl x 0 0 rfl; have a := rng32 x; have b := rng32 (x <<< ((0 : Int32) &&& 31))
  rw [show (((2 ^ 0 : Nat) : Int)) = 1 from rfl, Int.mul_one] at h
  exact i32e (by omega)
theorem n_int {a : Nat} (h : a < 2147483648) : (Int32.ofNat a).toInt = a := len_toInt (n := a) (by omega)
theorem n_add (a b : Nat) : Int32.ofNat a + Int32.ofNat b = Int32.ofNat (a + b) := (Int32.ofNat_add a b).symm
theorem n_sub {a b : Nat} (h : b ≤ a) : Int32.ofNat a - Int32.ofNat b = Int32.ofNat (a - b) := by
  have e := n_add (a - b) b
  rw [Nat.sub_add_cancel h] at e
  rw [← e, Int32.add_sub_cancel]
theorem n_lt {a b : Nat} (ha : a < 2147483648) (hb : b < 2147483648) : Int32.ofNat a < Int32.ofNat b ↔ a < b := by rw [Int32.lt_iff_toInt_lt, n_int ha, n_int hb]; omega
theorem n_pos {a : Nat} (ha : a < 2147483648) : ¬ Int32.ofNat a < 0 := by rw [Int32.lt_iff_toInt_lt, n_int ha]; have e0 : (0 : Int32).toInt = 0 := rfl; omega
theorem n_clamp {a : Nat} (ha : a < 2147483648) : (Int32.ofNat a).toNatClampNeg = a := by simp only [Int32.toNatClampNeg, n_int ha]; rfl
theorem n_eq {a b : Nat} (ha : a < 2147483648) (hb : b < 2147483648) (h : Int32.ofNat a = Int32.ofNat b) : a = b := by have := congrArg Int32.toInt h; rw [n_int ha, n_int hb] at this; omega
theorem n_suble {a b : Nat} (h : a ≤ b) (hb : b < 2147483648) : ¬ (0 : Int32) < Int32.ofNat a - Int32.ofNat b := by
  have q := c_isub (Int32.ofNat a) (Int32.ofNat b); have r := rng32 (Int32.ofNat a - Int32.ofNat b)
  rw [n_int (by omega), n_int hb] at q
  rw [Int32.lt_iff_toInt_lt]; have e0 : (0 : Int32).toInt = 0 := rfl; omega
theorem n_subgt {a b : Nat} (h : b < a) (ha : a < 2147483648) : (0 : Int32) < Int32.ofNat a - Int32.ofNat b := by
  have q := c_isub (Int32.ofNat a) (Int32.ofNat b); have r := rng32 (Int32.ofNat a - Int32.ofNat b)
  rw [n_int ha, n_int (by omega)] at q
  rw [Int32.lt_iff_toInt_lt]; have e0 : (0 : Int32).toInt = 0 := rfl; omega
theorem nsI {Z : State} {a0 : Array Value} {C S K : String} {q : Nat} (w : (Cond.superclass C S).before a0 Z = true) (wo : (Cond.noSuperclass S).before a0 Z = true) (wk : (Cond.instantiable K q).before a0 Z = true) (h1 : C ≠ K) (h2 : S ≠ K) : ∃ c t, Z.vm.findClass C = some c ∧ Z.vm.findClass K = some t ∧ Z.vm.assignable c t = false := by
  obtain ⟨o, ko, o1, o2, o3, -, -⟩ := Cond.noSuperclass_spec wo
  obtain ⟨t, kt, t1, t2, t3, t4, -⟩ := Cond.instantiable_spec wk
  obtain ⟨c, c0⟩ := found_sup w
  obtain ⟨p, k, kp, p1, p2, p3, p4, p5, -, p7⟩ := Cond.superclass_spec c0 w
  cases o1.symm.trans p1
  have ne := ids_ne c0 t1 h1
  have ne2 := ids_ne o1 t1 h2
  have sub0 : ∀ fuel, Z.vm.isSubclassAux fuel o t = false := fun fuel => by
    cases fuel with
    | zero => rfl
    | succ f => simp [Vm.isSubclassAux, ne2, o2, o3]
  have sub : ∀ fuel, Z.vm.isSubclassAux fuel c t = false := fun fuel => by
    cases fuel with
    | zero => rfl
    | succ f => simp [Vm.isSubclassAux, ne, p2, p4, sub0]
  simp only [Bool.or_eq_false_iff] at t4
  refine ⟨c, t, c0, t1, ?_⟩
  show Z.vm.assignableAux (255 + 1) c t = false
  simp [Vm.assignableAux, ne, p2, t2, p5, t3, t4.1, Vm.isSubclass, sub]
theorem nfSel {Z : State} {a0 : Array Value} {y : MethodName} {C : String} (w : (Cond.selects C y y).before a0 Z = true) (s' : State) (hZ : Z.Warmed39 s'.vm) : NotFace s' y := notFace_of_selects (args := #[]) (mvT (s := s') hZ w)
theorem nfSelC {Z : State} {a0 : Array Value} {y y' z' : MethodName} {C : String} (w : (Cond.selects C y' z').before a0 Z = true) (e : z'.cls = y.cls) (s' : State) (hZ : Z.Warmed39 s'.vm) : NotFace s' y := fun r0 h0 => by
  obtain ⟨c2, r2, m2, q1, q2, q3, q4, kP, hkP, hkPi⟩ := Cond.selects_spec (mvT (s := s') (args := #[]) hZ w)
  have d1 := findClass_of_methodNamed h0
  have d2 := findClass_of_methodNamed q3
  rw [e] at d2
  have e2 := Option.some.inj (d1.symm.trans d2)
  exact ⟨kP, by rw [e2]; exact hkP, hkPi⟩
theorem nfSup {Z : State} {a0 : Array Value} {y : MethodName} {S : String} (w : (Cond.superclass y.cls S).before a0 Z = true) (s' : State) (hZ : Z.Warmed39 s'.vm) : NotFace s' y := nf_super (args := #[]) (mvT (s := s') hZ w)
theorem nfTop {Z : State} {a0 : Array Value} {y : MethodName} (w : (Cond.noSuperclass y.cls).before a0 Z = true) (s' : State) (hZ : Z.Warmed39 s'.vm) : NotFace s' y := nf_top (args := #[]) (mvT (s := s') hZ w)
theorem sameOf {Z : State} {a0 : Array Value} {y : MethodName} (wd : (Cond.declares y).before a0 Z = true) (nf : ∀ s' : State, Z.Warmed39 s'.vm → NotFace s' y) (hy : y.cls ≠ "java/lang/invoke/MethodHandle" ∧ y.cls ≠ "java/lang/invoke/VarHandle") : (Cond.sameMethod y.cls y.cls y.name y.desc).before a0 Z = true := by
  obtain ⟨r, meth, h1, h2, -, -⟩ := Cond.declares_spec wd
  obtain ⟨kr, k1, k2⟩ := nf Z (State.Warmed39.refl Z) r h1
  have c1 := findClass_of_methodNamed h1
  have f := State.methodFound?_of_named h1 hy
  simp [Cond.before, Cond.holds, Cond.value, c1, f, h1, k1, k2]
theorem declOf {Z : State} {a0 : Array Value} {y : MethodName} {bytes : ByteArray} {maxL : Nat} {ret : Option FieldType} (wi : (Cond.instanceMethod y).before a0 Z = true) (wc : (Cond.code y bytes maxL ret).before a0 Z = true) : (Cond.declares y).before a0 Z = true := by
  obtain ⟨r, meth, h1, h2, h3, -⟩ := Cond.instanceMethod_spec wi
  obtain ⟨m2, cM, q1, -, -, -, -, -, -, hsig⟩ := Cond.code_spec h1 wc
  cases h2.symm.trans q1
  simp [Cond.before, Cond.holds, Cond.value, h1, h2, h3, hsig]
/-! where a walk stands -/
def Wk (W : Bool) (Z : State) (a0 : Array Value) (EL : List (String × Nat)) (n0 : Nat) (h0 : Heap) (ws : List Addr) (own : String) (p : Program) (l : Launch) (e : Env) (R : Room) (s : State) (m : MethodId) (args : Array Value) (below : List Frame) (meth : Method) (c : Code) (sf : List Addr) (T : State) (h : Heap) (k n : Nat) : Prop :=
  ∃ (vm0 : Vm) (locs : List Loc) (k0 k' n' : Nat), (k' ≤ k ∧ n' ≤ n) ∧ Stand p l e R (s.setVm vm0) m args below meth c T locs k' n' ∧ T.heap = h ∧ (s.Since vm0 k0 ∧ k0 ≤ h.size) ∧ Z.Warmed39 vm0 ∧ vm0.findClass own = some m.cls ∧ Fr n0 locs ∧ Keep h0 h ws ∧ Old Z n0 h ∧
    (∀ x ∈ sf, n0 ≤ x ∧ (x ∈ ws ∨ h0.size ≤ x) ∧ x < h.size) ∧ (W = false → vm0 = s.vm) ∧ (W = true → EW Z a0 EL ∧ CHr Z EL s.vm h0 vm0 h ∧ ∀ x ∈ sf, Safe Z EL vm0 h x)
section Kit
variable {W : Bool} {Z : State} {a0 : Array Value} {EL : List (String × Nat)} {n0 : Nat} {h0 : Heap} {ws : List Addr} {own : String} {p : Program} {l : Launch} {e : Env} {R : Room} {s : State} {m : MethodId} {args : Array Value} {below : List Frame} {meth : Method} {c : Code} {sf : List Addr} {T : State} {h : Heap} {k n : Nat}
theorem Wk.here (A : Wk W Z a0 EL n0 h0 ws own p l e R s m args below meth c sf T h k n) : At T m c below := by
  obtain ⟨_, _, _, _, _, _, X, -⟩ := A; exact X.here
theorem Wk.old (A : Wk W Z a0 EL n0 h0 ws own p l e R s m args below meth c sf T h k n) : Old Z n0 h := by
  obtain ⟨_, _, _, _, _, _, _, _, _, _, _, _, _, O, -⟩ := A; exact O
theorem Wk.keep (A : Wk W Z a0 EL n0 h0 ws own p l e R s m args below meth c sf T h k n) : Keep h0 h ws := by
  obtain ⟨_, _, _, _, _, _, _, _, _, _, _, _, K, -⟩ := A; exact K
theorem Wk.zle (A : Wk W Z a0 EL n0 h0 ws own p l e R s m args below meth c sf T h k n) : n0 ≤ h.size := by
  obtain ⟨q, E⟩ := A.old; rw [← q]; exact E.1
theorem Wk.nle (A : Wk W Z a0 EL n0 h0 ws own p l e R s m args below meth c sf T h k n) {x : Addr} (hx : x ∈ sf) : n0 ≤ x := by
  obtain ⟨_, _, _, _, _, _, _, _, _, _, _, _, _, _, f, -⟩ := A; exact (f x hx).1
theorem Wk.mono {k' n' : Nat} (A : Wk W Z a0 EL n0 h0 ws own p l e R s m args below meth c sf T h k n) (hk : k ≤ k') (hn : n ≤ n') : Wk W Z a0 EL n0 h0 ws own p l e R s m args below meth c sf T h k' n' := by
  obtain ⟨vm0, locs, k0, k1, n1, ⟨q1, q2⟩, r⟩ := A
  exact ⟨vm0, locs, k0, k1, n1, ⟨Nat.le_trans q1 hk, Nat.le_trans q2 hn⟩, r⟩
theorem Wk.less {sf' : List Addr} (A : Wk W Z a0 EL n0 h0 ws own p l e R s m args below meth c sf T h k n) (q : ∀ x ∈ sf', x ∈ sf) : Wk W Z a0 EL n0 h0 ws own p l e R s m args below meth c sf' T h k n := by
  obtain ⟨vm0, locs, k0, k1, n1, b, X, eT, S, hZ, ho, N, K, O, f, w1, w2⟩ := A
  exact ⟨vm0, locs, k0, k1, n1, b, X, eT, S, hZ, ho, N, K, O, fun x hx => f x (q x hx), w1, fun e => ⟨(w2 e).1, (w2 e).2.1, fun x hx => (w2 e).2.2 x (q x hx)⟩⟩
theorem Wk.newO (A : Wk W Z a0 EL n0 h0 ws own p l e R s m args below meth c sf T h k n) (hx : p.tables.exec = Jvm.exec) {C : String} {index q : Nat} (w : (Cond.classLink own index C).before a0 Z = true) (wi : (Cond.instantiable C q).before a0 Z = true) (wz : (Cond.initialized C).before a0 Z = true)
    {g : JFrame} (hg : g.method = m) (hd : decode c.code g.pc = .ok (.new index, 3)) (hc : k + 1 ≤ R.cells) (hl : n + q ≤ R.slots) :
    ∃ (a : Addr) (T' : State) (h' : Heap), Wk W Z a0 EL n0 h0 ws own p l e R s m args below meth c (a :: sf) T' h' (k + 1) (n + q) ∧ Ext h h' ∧ h.size = a ∧ Exa Z h' a C ∧ (∀ {O nm d : String} {ty : FieldType}, Laid Z a0 C O nm d → parseFieldDescriptor d = some ty → Fld Z h' a O nm d (defaultValue ty)) ∧
      ∀ t, Steps p.tables e below (T'.setTop { g with pc := g.pc + 3, stack := .ref a :: g.stack }) t → Steps p.tables e below (T.setTop g) t := by
  obtain ⟨vm0, locs, k0, k1, n1, ⟨b1, b2⟩, X, eT, ⟨S, S0⟩, hZ, ho, N, K, O, f, w1, w2⟩ := A
  obtain ⟨T', h', X', e', E, Ex, D, -, st⟩ := RoadKit.newO X hx hZ ho w wi wz eT hg hd (by omega) (by omega)
  refine ⟨_, T', h', ⟨vm0, locs, k0, _, _, ⟨by omega, by omega⟩, X', e', ⟨S, Nat.le_trans S0 E.1⟩, hZ, ho, N, K.ext E, O.ext E, ?_, w1, ?_⟩, E, rfl, Ex, D, st⟩
  · intro x hx'
    rcases List.mem_cons.mp hx' with rfl | hx'
    · exact ⟨by have := O.1; have := O.2.1; omega, Or.inr K.1, Ex.lt⟩
    · exact ⟨(f x hx').1, (f x hx').2.1, Nat.lt_of_lt_of_le (f x hx').2.2 E.1⟩
  · intro ew
    obtain ⟨v1, v2, v3⟩ := w2 ew
    refine ⟨v1, v2.trans (CHr.ext E v2.1), fun x hx' => ?_⟩
    rcases List.mem_cons.mp hx' with rfl | hx'
    · exact Safe.ext E v2.1 (Safe.new (Nat.le_refl _))
    · exact Safe.ext E v2.1 (v3 x hx')
theorem Wk.newP (A : Wk W Z a0 EL n0 h0 ws own p l e R s m args below meth c sf T h k n) (hx : p.tables.exec = Jvm.exec) {aty : ArrayType} (w : (Cond.arrayClass (newarray.typeOf aty)).before a0 Z = true)
    {g : JFrame} (hg : g.method = m) (hd : decode c.code g.pc = .ok (.newarray aty, 2)) {N : Int32} {rest : List Value} (hs : g.stack = .int N :: rest) (hn : ¬ N < 0) {cap : Nat} (hcap : N.toNatClampNeg ≤ cap) (hb : cap * 8 ≤ 536870912) (hc : k + 1 ≤ R.cells) (hl : n + cap ≤ R.slots) :
    ∃ (a : Addr) (T' : State) (h' : Heap) (kA : ClassId), Wk W Z a0 EL n0 h0 ws own p l e R s m args below meth c (a :: sf) T' h' (k + 1) (n + cap) ∧ Ext h h' ∧ h.size = a ∧ Arv Z h' a kA (newarray.typeOf aty) N (List.replicate cap (defaultValue (newarray.typeOf aty))) (defaultValue (newarray.typeOf aty)) ∧
      ∀ t, Steps p.tables e below (T'.setTop { g with pc := g.pc + 2, stack := .ref a :: rest }) t → Steps p.tables e below (T.setTop g) t := by
  obtain ⟨vm0, locs, k0, k1, n1, ⟨b1, b2⟩, X, eT, ⟨S, S0⟩, hZ, ho, Nf, K, O, f, w1, w2⟩ := A
  obtain ⟨T', h', kA, X', e', E, Ar, st⟩ := RoadKit.newP X hx hZ w eT hg hd hs hn hcap hb (by omega) (by omega)
  have V := (Arv.new Ar hn).pad (pad_rep [] (defaultValue (newarray.typeOf aty)) cap)
  refine ⟨_, T', h', kA, ⟨vm0, locs, k0, _, _, ⟨by omega, by omega⟩, X', e', ⟨S, Nat.le_trans S0 E.1⟩, hZ, ho, Nf, K.ext E, O.ext E, ?_, w1, ?_⟩, E, rfl, V, st⟩
  · intro x hx'
    rcases List.mem_cons.mp hx' with rfl | hx'
    · exact ⟨by have := O.1; have := O.2.1; omega, Or.inr K.1, Ar.lt⟩
    · exact ⟨(f x hx').1, (f x hx').2.1, Nat.lt_of_lt_of_le (f x hx').2.2 E.1⟩
  · intro ew
    obtain ⟨v1, v2, v3⟩ := w2 ew
    refine ⟨v1, v2.trans (CHr.ext E v2.1), fun x hx' => ?_⟩
    rcases List.mem_cons.mp hx' with rfl | hx'
    · exact Safe.ext E v2.1 (Safe.new (Nat.le_refl _))
    · exact Safe.ext E v2.1 (v3 x hx')
theorem Wk.newPE (A : Wk W Z a0 EL n0 h0 ws own p l e R s m args below meth c sf T h k n) (hx : p.tables.exec = Jvm.exec) {aty : ArrayType} (w : (Cond.arrayClass (newarray.typeOf aty)).before a0 Z = true)
    {g : JFrame} (hg : g.method = m) (hd : decode c.code g.pc = .ok (.newarray aty, 2)) {N : Int32} {rest : List Value} (hs : g.stack = .int N :: rest) (hn : ¬ N < 0) {cap : Nat} (hcap : N.toNatClampNeg ≤ cap) (hb : cap * 8 ≤ 536870912) (hc : k + 1 ≤ R.cells) (hl : n + cap ≤ R.slots) {ad : String} (had : "[" ++ (newarray.typeOf aty).toString = ad) :
    ∃ (a : Addr) (T' : State) (h' : Heap) (kA : ClassId), Wk W Z a0 EL n0 h0 ws own p l e R s m args below meth c (a :: sf) T' h' (k + 1) (n + cap) ∧ Ext h h' ∧ h.size = a ∧ Arv Z h' a kA (newarray.typeOf aty) N (List.replicate cap (defaultValue (newarray.typeOf aty))) (defaultValue (newarray.typeOf aty)) ∧ Exa Z h' a ad ∧
      ∀ t, Steps p.tables e below (T'.setTop { g with pc := g.pc + 2, stack := .ref a :: rest }) t → Steps p.tables e below (T.setTop g) t := by
  obtain ⟨vm0, locs, k0, k1, n1, ⟨b1, b2⟩, X, eT, ⟨S, S0⟩, hZ, ho, Nf, K, O, f, w1, w2⟩ := A
  obtain ⟨T', h', kA, X', e', E, Ar, Ex, st⟩ := RoadKit.newPE X hx hZ w eT hg hd hs hn hcap hb (by omega) (by omega) had
  have V := (Arv.new Ar hn).pad (pad_rep [] (defaultValue (newarray.typeOf aty)) cap)
  refine ⟨_, T', h', kA, ⟨vm0, locs, k0, _, _, ⟨by omega, by omega⟩, X', e', ⟨S, Nat.le_trans S0 E.1⟩, hZ, ho, Nf, K.ext E, O.ext E, ?_, w1, ?_⟩, E, rfl, V, Ex, st⟩
  · intro x hx'
    rcases List.mem_cons.mp hx' with rfl | hx'
    · exact ⟨by have := O.1; have := O.2.1; omega, Or.inr K.1, Ar.lt⟩
    · exact ⟨(f x hx').1, (f x hx').2.1, Nat.lt_of_lt_of_le (f x hx').2.2 E.1⟩
  · intro ew
    obtain ⟨v1, v2, v3⟩ := w2 ew
    refine ⟨v1, v2.trans (CHr.ext E v2.1), fun x hx' => ?_⟩
    rcases List.mem_cons.mp hx' with rfl | hx'
    · exact Safe.ext E v2.1 (Safe.new (Nat.le_refl _))
    · exact Safe.ext E v2.1 (v3 x hx')
theorem Wk.clone (A : Wk W Z a0 EL n0 h0 ws own p l e R s m args below meth c sf T h k n) (hx : p.tables.exec = Jvm.exec) {ad : String} {index : Nat}
    (v1 : (Cond.methodLink own index ⟨ad, "clone", "()Ljava/lang/Object;"⟩).before a0 Z = true) (v2 : (Cond.sameMethod ad "java/lang/Object" "clone" "()Ljava/lang/Object;").before a0 Z = true) (v3 : (Cond.native ⟨"java/lang/Object", "clone", "()Ljava/lang/Object;"⟩).before a0 Z = true)
    (v4 : (Cond.instanceMethod ⟨"java/lang/Object", "clone", "()Ljava/lang/Object;"⟩).before a0 Z = true) (v5 : (Cond.selects ad ⟨ad, "clone", "()Ljava/lang/Object;"⟩ ⟨"java/lang/Object", "clone", "()Ljava/lang/Object;"⟩).before a0 Z = true) (v6 : (Cond.castable ad "java/lang/Cloneable").before a0 Z = true)
    {b : Addr} {kb : ClassId} {ty : FieldType} {z : Int32} {vs : List Value} {d : Value} (V : Arv Z h b kb ty z vs d) (E : Exa Z h b ad) {g : JFrame} (hg : g.method = m) (hsize : g.locals.size = c.maxLocals) {rest : List Value} (hs : g.stack = .ref b :: rest) (hd : decode c.code g.pc = .ok (.invokevirtual index, 3))
    (hf : 1 ≤ R.frames) {Wd cap : Nat} (hW : 2 * g.monitorRoom + (rest.map fun v => v.category).sum ≤ Wd) (hl : Wd + 14 ≤ R.locals) (hcap : z.toNatClampNeg ≤ cap) (hc : k + 1 ≤ R.cells) (hsl : n + cap ≤ R.slots) :
    ∃ (a : Addr) (T' : State) (h' : Heap), Wk W Z a0 EL n0 h0 ws own p l e R s m args below meth c (a :: sf) T' h' (k + 1) (n + cap) ∧ Ext h h' ∧ h.size = a ∧ Arv Z h' a kb ty z vs d ∧ Exa Z h' a ad ∧
      ∀ t, Steps p.tables e below (T'.setTop { g with pc := g.pc + 3, stack := .ref a :: rest }) t → Steps p.tables e below (T.setTop g) t := by
  obtain ⟨vm0, locs, k0, k1, n1, ⟨b1, b2⟩, X, eT, ⟨S, S0⟩, hZ, ho, Nf, K, O, f, w1, w2⟩ := A
  obtain ⟨T', h', X', e', Ex, Ar, Ea, st⟩ := RoadKit.cloneH X hx hZ ho v1 v2 v3 v4 v5 v6 eT V.arh E hg hsize hs hd hf hW hl hcap (by omega) (by omega)
  refine ⟨_, T', h', ⟨vm0, locs, k0, _, _, ⟨by omega, by omega⟩, X', e', ⟨S, Nat.le_trans S0 Ex.1⟩, hZ, ho, Nf, K.ext Ex, O.ext Ex, ?_, w1, ?_⟩, Ex, rfl, Ar, Ea, st⟩
  · intro x hx'
    rcases List.mem_cons.mp hx' with rfl | hx'
    · exact ⟨by have := O.1; have := O.2.1; omega, Or.inr K.1, Ea.lt⟩
    · exact ⟨(f x hx').1, (f x hx').2.1, Nat.lt_of_lt_of_le (f x hx').2.2 Ex.1⟩
  · intro ew
    obtain ⟨q1, q2, q3⟩ := w2 ew
    refine ⟨q1, q2.trans (CHr.ext Ex q2.1), fun x hx' => ?_⟩
    rcases List.mem_cons.mp hx' with rfl | hx'
    · exact Safe.ext Ex q2.1 (Safe.new (Nat.le_refl _))
    · exact Safe.ext Ex q2.1 (q3 x hx')
/-- one place of a cell of our own is written -/
theorem Wk.wrote {T' : State} {h' : Heap} {a : Addr} {sl : Nat} {v : Value} {vm0 : Vm} {locs : List Loc} {k0 k1 n1 : Nat} (X' : Stand p l e R (s.setVm vm0) m args below meth c T' (locs ++ [⟨a, sl⟩]) k1 n1) (e' : T'.heap = h') (Wr' : Wr h h' a sl v) (ha : a ∈ sf)
    (b : k1 ≤ k ∧ n1 ≤ n) (S : s.Since vm0 k0 ∧ k0 ≤ h.size) (hZ : Z.Warmed39 vm0) (ho : vm0.findClass own = some m.cls) (N : Fr n0 locs) (K : Keep h0 h ws) (O : Old Z n0 h) (f : ∀ x ∈ sf, n0 ≤ x ∧ (x ∈ ws ∨ h0.size ≤ x) ∧ x < h.size) (w1 : W = false → vm0 = s.vm) (w2 : W = true → EW Z a0 EL ∧ CHr Z EL s.vm h0 vm0 h ∧ ∀ x ∈ sf, Safe Z EL vm0 h x) :
    Wk W Z a0 EL n0 h0 ws own p l e R s m args below meth c sf T' h' k n := by
  obtain ⟨f1, f2, f3⟩ := f a ha
  refine ⟨vm0, _, k0, k1, n1, b, X', e', ⟨S.1, by rw [Wr'.size]; exact S.2⟩, hZ, ho, Fr.snoc X' N f1, K.wr Wr' f2, O.wr Wr' f1, fun x hx => ?_, w1, fun ew => ?_⟩
  · rw [Wr'.size]; exact f x hx
  · obtain ⟨v1, v2, v3⟩ := w2 ew
    exact ⟨v1, v2.trans (CHr.wr Wr' (v3 a ha) v2.1), fun x hx => Safe.wr Wr' (v3 a ha) v2.1 (v3 x hx)⟩
theorem Wk.stC (A : Wk W Z a0 EL n0 h0 ws own p l e R s m args below meth c sf T h k n) (hx : p.tables.exec = Jvm.exec) {b : Addr} {kb : ClassId} {N : Int32} {vs : List Value} {d : Value} (V : Arv Z h b kb .char N vs d) (hb : b ∈ sf) {j x : Int32} (i : Nat) (hj : j.toNatClampNeg = i) (hjn : ¬ j < 0 ∧ j < N) (hi : i < vs.length)
    {g : JFrame} (hg : g.method = m) {rest : List Value} (hs : g.stack = .int x :: .int j :: .ref b :: rest) (hd : decode c.code g.pc = .ok (.castore, 1)) :
    ∃ (T' : State) (h' : Heap), Wk W Z a0 EL n0 h0 ws own p l e R s m args below meth c sf T' h' k n ∧ Keep h h' [b] ∧ Arv Z h' b kb .char N (vs.set i (.int (nar .char x))) d ∧
      ∀ t, Steps p.tables e below (T'.setTop { g with pc := g.pc + 1, stack := rest }) t → Steps p.tables e below (T.setTop g) t := by
  obtain ⟨vm0, locs, k0, k1, n1, bb, X, eT, S, hZ, ho, Nf, K, O, f, w1, w2⟩ := A
  obtain ⟨cl, Ar, q, Sz, Nn, H, G⟩ := V
  obtain ⟨T', h', X', e', Wr', st⟩ := RoadKit.stC X hx hZ eT Ar (j := j) (inb_of Sz hjn) hg hs hd
  exact ⟨T', h', Wk.wrote X' e' Wr' hb bb S hZ ho Nf K O f w1 w2, Keep.of_wr Wr', Arv.set Ar q Sz Nn H G (fits_nar_char _) Wr' i hj hi, st⟩
theorem Wk.stB (A : Wk W Z a0 EL n0 h0 ws own p l e R s m args below meth c sf T h k n) (hx : p.tables.exec = Jvm.exec) {b : Addr} {kb : ClassId} {N : Int32} {vs : List Value} {d : Value} (V : Arv Z h b kb .byte N vs d) (hb : b ∈ sf) {j x : Int32} (i : Nat) (hj : j.toNatClampNeg = i) (hjn : ¬ j < 0 ∧ j < N) (hi : i < vs.length) (hf : fits .byte (.int (nar .byte x)) = true)
    {g : JFrame} (hg : g.method = m) {rest : List Value} (hs : g.stack = .int x :: .int j :: .ref b :: rest) (hd : decode c.code g.pc = .ok (.bastore, 1)) :
    ∃ (T' : State) (h' : Heap), Wk W Z a0 EL n0 h0 ws own p l e R s m args below meth c sf T' h' k n ∧ Keep h h' [b] ∧ Arv Z h' b kb .byte N (vs.set i (.int (nar .byte x))) d ∧
      ∀ t, Steps p.tables e below (T'.setTop { g with pc := g.pc + 1, stack := rest }) t → Steps p.tables e below (T.setTop g) t := by
  obtain ⟨vm0, locs, k0, k1, n1, bb, X, eT, S, hZ, ho, Nf, K, O, f, w1, w2⟩ := A
  obtain ⟨cl, Ar, q, Sz, Nn, H, G⟩ := V
  obtain ⟨T', h', X', e', Wr', st⟩ := RoadKit.stB X hx hZ eT Ar (j := j) (inb_of Sz hjn) hg hs hd
  exact ⟨T', h', Wk.wrote X' e' Wr' hb bb S hZ ho Nf K O f w1 w2, Keep.of_wr Wr', Arv.set Ar q Sz Nn H G hf Wr' i hj hi, st⟩
theorem Wk.putF (A : Wk W Z a0 EL n0 h0 ws own p l e R s m args below meth c sf T h k n) (hx : p.tables.exec = Jvm.exec) {R0 O fn d C : String} {index kk : Nat} {ty : FieldType} (w : (Cond.fieldLink own index R0 fn d).before a0 Z = true) (via : Via Z R0 O fn d) {a : Addr} (ha : a ∈ sf) {v v' old : Value} (F : Fld Z h a O fn d old) (E : Exa Z h a C)
    (L : (Cond.lays C O fn d).before a0 Z = true ∨ ((Cond.laysFinal C O fn d).before a0 Z = true ∧ own = O ∧ meth.name = "<init>")) (wi : (Cond.instantiable C kk).before a0 Z = true) (hty : parseFieldDescriptor d = some ty) (hn : narrow ty v = v') (hf : fits ty v' = true) {g : JFrame} (hg : g.method = m) {rest : List Value} (hs : g.stack = v :: .ref a :: rest) (hd : decode c.code g.pc = .ok (.putfield index, 3)) :
    ∃ (T' : State) (h' : Heap), Wk W Z a0 EL n0 h0 ws own p l e R s m args below meth c sf T' h' k n ∧ Keep h h' [a] ∧ Wr h h' a (RoadKit.slotOf Z O fn d) v' ∧
      ∀ t, Steps p.tables e below (T'.setTop { g with pc := g.pc + 3, stack := rest }) t → Steps p.tables e below (T.setTop g) t := by
  obtain ⟨vm0, locs, k0, k1, n1, bb, X, eT, S, hZ, ho, Nf, K, Od, f, w1, w2⟩ := A
  obtain ⟨T', h', X', e', Wr', st⟩ := RoadKit.putFN X hx hZ ho w via eT F E L wi hty hn hf hg hs hd
  exact ⟨T', h', Wk.wrote X' e' Wr' ha bb S hZ ho Nf K Od f w1 w2, Keep.of_wr Wr', Wr', st⟩
/-- a step that leaves the heap -/
theorem Wk.stay {T' : State} {vm0 : Vm} {locs : List Loc} {k0 k1 n1 : Nat} (X' : Stand p l e R (s.setVm vm0) m args below meth c T' locs k1 n1) (e' : T'.heap = h)
    (b : k1 ≤ k ∧ n1 ≤ n) (S : s.Since vm0 k0 ∧ k0 ≤ h.size) (hZ : Z.Warmed39 vm0) (ho : vm0.findClass own = some m.cls) (N : Fr n0 locs) (K : Keep h0 h ws) (O : Old Z n0 h) (f : ∀ x ∈ sf, n0 ≤ x ∧ (x ∈ ws ∨ h0.size ≤ x) ∧ x < h.size) (w1 : W = false → vm0 = s.vm) (w2 : W = true → EW Z a0 EL ∧ CHr Z EL s.vm h0 vm0 h ∧ ∀ x ∈ sf, Safe Z EL vm0 h x) :
    Wk W Z a0 EL n0 h0 ws own p l e R s m args below meth c sf T' h k n := ⟨vm0, locs, k0, k1, n1, b, X', e', S, hZ, ho, N, K, O, f, w1, w2⟩
theorem Wk.getF (A : Wk W Z a0 EL n0 h0 ws own p l e R s m args below meth c sf T h k n) (hx : p.tables.exec = Jvm.exec) {R0 O fn d : String} {index : Nat} (w : (Cond.fieldLink own index R0 fn d).before a0 Z = true) (via : Via Z R0 O fn d) {a : Addr} {v : Value} (F : Fld Z h a O fn d v) {g : JFrame} (hg : g.method = m) {rest : List Value} (hs : g.stack = .ref a :: rest) (hd : decode c.code g.pc = .ok (.getfield index, 3)) :
    ∃ (T' : State), Wk W Z a0 EL n0 h0 ws own p l e R s m args below meth c sf T' h k n ∧
      ∀ t, Steps p.tables e below (T'.setTop { g with pc := g.pc + 3, stack := v :: rest }) t → Steps p.tables e below (T.setTop g) t := by
  obtain ⟨vm0, locs, k0, k1, n1, bb, X, eT, S, hZ, ho, Nf, K, O, f, w1, w2⟩ := A
  obtain ⟨T', X', e', st⟩ := RoadKit.getF X hx hZ ho (host := "") (Or.inl w) via eT F hg hs hd
  exact ⟨T', Wk.stay X' e' bb S hZ ho Nf K O f w1 w2, st⟩
theorem Wk.getS (A : Wk W Z a0 EL n0 h0 ws own p l e R s m args below meth c sf T h k n) (hx : p.tables.exec = Jvm.exec) {R0 O fn d : String} {index : Nat} (w : (Cond.fieldLink own index R0 fn d).before a0 Z = true) (via : Via Z R0 O fn d) {v : Value} (F : Sta Z h O fn d v) {g : JFrame} (hg : g.method = m) (hd : decode c.code g.pc = .ok (.getstatic index, 3)) :
    ∃ (T' : State), Wk W Z a0 EL n0 h0 ws own p l e R s m args below meth c sf T' h k n ∧
      ∀ t, Steps p.tables e below (T'.setTop { g with pc := g.pc + 3, stack := v :: g.stack }) t → Steps p.tables e below (T.setTop g) t := by
  obtain ⟨vm0, locs, k0, k1, n1, bb, X, eT, S, hZ, ho, Nf, K, O, f, w1, w2⟩ := A
  obtain ⟨T', X', e', st⟩ := RoadKit.getS X hx hZ (host := "") ho w via eT F hg hd
  exact ⟨T', Wk.stay X' e' bb S hZ ho Nf K O f w1 w2, st⟩
theorem Wk.castY (A : Wk W Z a0 EL n0 h0 ws own p l e R s m args below meth c sf T h k n) (hx : p.tables.exec = Jvm.exec) {KK : String} {index : Nat} (w : (Cond.classLink own index KK).before a0 Z = true) {a : Addr} (F : Ins Z h a KK true) {g : JFrame} (hg : g.method = m) {rest : List Value} (hs : g.stack = .ref a :: rest) (hd : decode c.code g.pc = .ok (.checkcast index, 3)) :
    ∃ (T' : State), Wk W Z a0 EL n0 h0 ws own p l e R s m args below meth c sf T' h k n ∧
      ∀ t, Steps p.tables e below (T'.setTop { g with pc := g.pc + 3 }) t → Steps p.tables e below (T.setTop g) t := by
  obtain ⟨vm0, locs, k0, k1, n1, bb, X, eT, S, hZ, ho, Nf, K, O, f, w1, w2⟩ := A
  obtain ⟨T', X', e', st⟩ := RoadKit.castY X hx hZ ho w eT F hg hs hd
  exact ⟨T', Wk.stay X' e' bb S hZ ho Nf K O f w1 w2, st⟩
theorem Wk.instY (A : Wk W Z a0 EL n0 h0 ws own p l e R s m args below meth c sf T h k n) (hx : p.tables.exec = Jvm.exec) {KK : String} {index : Nat} (w : (Cond.classLink own index KK).before a0 Z = true) {a : Addr} (F : Ins Z h a KK true) {g : JFrame} (hg : g.method = m) {rest : List Value} (hs : g.stack = .ref a :: rest) (hd : decode c.code g.pc = .ok (.instanceof index, 3)) :
    ∃ (T' : State), Wk W Z a0 EL n0 h0 ws own p l e R s m args below meth c sf T' h k n ∧
      ∀ t, Steps p.tables e below (T'.setTop { g with pc := g.pc + 3, stack := .int 1 :: rest }) t → Steps p.tables e below (T.setTop g) t := by
  obtain ⟨vm0, locs, k0, k1, n1, bb, X, eT, S, hZ, ho, Nf, K, O, f, w1, w2⟩ := A
  obtain ⟨T', X', e', st⟩ := RoadKit.instY X hx hZ ho w eT F hg hs hd
  exact ⟨T', Wk.stay X' e' bb S hZ ho Nf K O f w1 w2, st⟩
theorem Wk.instNo (A : Wk W Z a0 EL n0 h0 ws own p l e R s m args below meth c sf T h k n) (hx : p.tables.exec = Jvm.exec) {KK C : String} {index : Nat} (w : (Cond.classLink own index KK).before a0 Z = true) {a : Addr} (E : Exa Z h a C) (F : ∃ c t, Z.vm.findClass C = some c ∧ Z.vm.findClass KK = some t ∧ Z.vm.assignable c t = false) {g : JFrame} (hg : g.method = m) {rest : List Value} (hs : g.stack = .ref a :: rest) (hd : decode c.code g.pc = .ok (.instanceof index, 3)) :
    ∃ (T' : State), Wk W Z a0 EL n0 h0 ws own p l e R s m args below meth c sf T' h k n ∧
      ∀ t, Steps p.tables e below (T'.setTop { g with pc := g.pc + 3, stack := .int 0 :: rest }) t → Steps p.tables e below (T.setTop g) t := by
  obtain ⟨vm0, locs, k0, k1, n1, bb, X, eT, S, hZ, ho, Nf, K, O, f, w1, w2⟩ := A
  obtain ⟨T', X', e', st⟩ := RoadKit.instNo X hx hZ ho w eT E F hg hs hd
  exact ⟨T', Wk.stay X' e' bb S hZ ho Nf K O f w1 w2, st⟩
theorem Wk.instNull (A : Wk W Z a0 EL n0 h0 ws own p l e R s m args below meth c sf T h k n) (hx : p.tables.exec = Jvm.exec) {index : Nat} {g : JFrame} (hg : g.method = m) {rest : List Value} (hs : g.stack = .null :: rest) (hd : decode c.code g.pc = .ok (.instanceof index, 3)) :
    ∀ t, Steps p.tables e below (T.setTop { g with pc := g.pc + 3, stack := .int 0 :: rest }) t → Steps p.tables e below (T.setTop g) t := by
  obtain ⟨vm0, locs, k0, k1, n1, bb, X, eT, S, hZ, ho, Nf, K, O, f, w1, w2⟩ := A
  exact X.instanceofNull hx hg hs hd
theorem Wk.castNull (A : Wk W Z a0 EL n0 h0 ws own p l e R s m args below meth c sf T h k n) (hx : p.tables.exec = Jvm.exec) {index : Nat} {g : JFrame} (hg : g.method = m) {rest : List Value} (hs : g.stack = .null :: rest) (hd : decode c.code g.pc = .ok (.checkcast index, 3)) :
    ∀ t, Steps p.tables e below (T.setTop { g with pc := g.pc + 3 }) t → Steps p.tables e below (T.setTop g) t := by
  obtain ⟨vm0, locs, k0, k1, n1, bb, X, eT, S, hZ, ho, Nf, K, O, f, w1, w2⟩ := A
  exact X.checkcastNull hx hg hs hd
theorem Wk.initO (A : Wk W Z a0 EL n0 h0 ws own p l e R s m args below meth c sf T h k n) (hx : p.tables.exec = Jvm.exec) {idx : Nat} (w1' : (Cond.methodLink own idx Lib.objectInit).before a0 Z = true) (w2' : (Cond.instanceMethod Lib.objectInit).before a0 Z = true) (w3' : (Cond.code Lib.objectInit ⟨#[0xb1]⟩ 1 none).before a0 Z = true) {g : JFrame} (hg : g.method = m) (hsize : g.locals.size = c.maxLocals) {a : Addr} {rest : List Value} (hs : g.stack = .ref a :: rest) (hd : decode c.code g.pc = .ok (.invokespecial idx, 3))
    (hf : 1 ≤ R.frames) {Wd : Nat} (hW : 2 * g.monitorRoom + (rest.map fun v => v.category).sum ≤ Wd) (hl : Wd + 12 ≤ R.locals) :
    ∃ (T' : State), Wk W Z a0 EL n0 h0 ws own p l e R s m args below meth c sf T' h k n ∧
      ∀ t, Steps p.tables e below (T'.setTop { g with pc := g.pc + 3, stack := rest }) t → Steps p.tables e below (T.setTop g) t := by
  obtain ⟨vm0, locs, k0, k1, n1, bb, X, eT, S, hZ, ho, Nf, K, O, f, w1, w2⟩ := A
  obtain ⟨T', X', e', st⟩ := RoadKit.initO X hx hZ ho w1' w2' w3' eT hg hsize hs hd hf hW hl
  exact ⟨T', Wk.stay X' e' bb S hZ ho Nf K O f w1 w2, st⟩
theorem Wk.ldcI (A : Wk W Z a0 EL n0 h0 ws own p l e R s m args below meth c sf T h k n) (hx : p.tables.exec = Jvm.exec) {index : Nat} {v : Int32} (w : (Cond.constant own index v).before a0 Z = true) {g : JFrame} (hg : g.method = m) (hd : decode c.code g.pc = .ok (.ldc index, 2)) :
    ∀ t, Steps p.tables e below (T.setTop { g with pc := g.pc + 2, stack := .int v :: g.stack }) t → Steps p.tables e below (T.setTop g) t := by
  obtain ⟨vm0, locs, k0, k1, n1, bb, X, eT, S, hZ, ho, Nf, K, O, f, w1, w2⟩ := A
  exact X.ldcInt hx ho (mvT (s := s.setVm vm0) hZ w) hg hd
theorem Wk.ldcL (A : Wk W Z a0 EL n0 h0 ws own p l e R s m args below meth c sf T h k n) (hx : p.tables.exec = Jvm.exec) {index : Nat} {v : Int64} (w : (Cond.constantLong own index v).before a0 Z = true) {g : JFrame} (hg : g.method = m) (hd : decode c.code g.pc = .ok (.ldc2_w index, 3)) :
    ∀ t, Steps p.tables e below (T.setTop { g with pc := g.pc + 3, stack := .long v :: g.stack }) t → Steps p.tables e below (T.setTop g) t := by
  obtain ⟨vm0, locs, k0, k1, n1, bb, X, eT, S, hZ, ho, Nf, K, O, f, w1, w2⟩ := A
  exact X.ldc2Long hx ho (mvT (s := s.setVm vm0) hZ w) hg hd
theorem Wk.ldB (A : Wk W Z a0 EL n0 h0 ws own p l e R s m args below meth c sf T h k n) (hx : p.tables.exec = Jvm.exec) {b : Addr} {kb : ClassId} {N : Int32} {vs : List Value} {d : Value} (V : Arv Z h b kb .byte N vs d) {j : Int32} (i : Nat) (hj : j.toNatClampNeg = i) (hjn : ¬ j < 0 ∧ j < N) {v : Value} (hv : vs.getD i d = v)
    {g : JFrame} (hg : g.method = m) {rest : List Value} (hs : g.stack = .int j :: .ref b :: rest) (hd : decode c.code g.pc = .ok (.baload, 1)) :
    ∀ t, Steps p.tables e below (T.setTop { g with pc := g.pc + 1, stack := v :: rest }) t → Steps p.tables e below (T.setTop g) t := by
  obtain ⟨vm0, locs, k0, k1, n1, bb, X, eT, S, hZ, ho, Nf, K, O, f, w1, w2⟩ := A
  obtain ⟨cl, Ar, q, Sz, Nn, H, G⟩ := V
  have hin := inb_of Sz hjn
  subst hj
  exact fun t kk => X.baloadBytes hx (by rw [eT]; exact Ar.1) (State.isArrayOf_alike hZ.alike Ar.2.1) Ar.2.2 hin (by rw [H _ (Nat.lt_of_not_le fun q => hin (Or.inr q)), hv]) hg hs hd t kk
theorem Wk.ldC (A : Wk W Z a0 EL n0 h0 ws own p l e R s m args below meth c sf T h k n) (hx : p.tables.exec = Jvm.exec) {b : Addr} {kb : ClassId} {N : Int32} {vs : List Value} {d : Value} (V : Arv Z h b kb .char N vs d) {j : Int32} (i : Nat) (hj : j.toNatClampNeg = i) (hjn : ¬ j < 0 ∧ j < N) {v : Value} (hv : vs.getD i d = v)
    {g : JFrame} (hg : g.method = m) {rest : List Value} (hs : g.stack = .int j :: .ref b :: rest) (hd : decode c.code g.pc = .ok (.caload, 1)) :
    ∀ t, Steps p.tables e below (T.setTop { g with pc := g.pc + 1, stack := v :: rest }) t → Steps p.tables e below (T.setTop g) t := by
  obtain ⟨vm0, locs, k0, k1, n1, bb, X, eT, S, hZ, ho, Nf, K, O, f, w1, w2⟩ := A
  obtain ⟨cl, Ar, q, Sz, Nn, H, G⟩ := V
  have hin := inb_of Sz hjn
  subst hj
  exact fun t kk => X.caload hx (by rw [eT]; exact Ar.1) (State.isArrayOf_alike hZ.alike Ar.2.1) Ar.2.2 hin (by rw [H _ (Nat.lt_of_not_le fun q => hin (Or.inr q)), hv]) hg hs hd t kk
theorem Wk.alen (A : Wk W Z a0 EL n0 h0 ws own p l e R s m args below meth c sf T h k n) (hx : p.tables.exec = Jvm.exec) {b : Addr} {kb : ClassId} {ty : FieldType} {N : Int32} {vs : List Value} {d : Value} (V : Arv Z h b kb ty N vs d) {g : JFrame} (hg : g.method = m) {rest : List Value} (hs : g.stack = .ref b :: rest) (hd : decode c.code g.pc = .ok (.arraylength, 1)) :
    ∀ t, Steps p.tables e below (T.setTop { g with pc := g.pc + 1, stack := .int N :: rest }) t → Steps p.tables e below (T.setTop g) t := by
  obtain ⟨vm0, locs, k0, k1, n1, bb, X, eT, S, hZ, ho, Nf, K, O, f, w1, w2⟩ := A
  obtain ⟨cl, Ar, q, Sz, Nn, H, G⟩ := V
  intro t kk
  refine X.arraylength hx (cell := cl) (by rw [eT]; exact Ar.1) (State.isArrayOf_alike (Vm.Alike.trans (Vm.Alike.refl _) hZ.alike) Ar.2.1) hg hs hd _ ?_
  rw [len_of Sz Nn]; exact kk
/-! what pays a call -/
abbrev PayN (l : Launch) (R : Room) (p : Program) (e : Env) (below : List Frame) (s : State) (args : Array Value) (y : MethodName) (len Wd : Nat) (as : Array Value) (h : Heap) (kc ks : Nat) (Q : Option Value → Heap → List Loc → Prop) : Prop :=
  Back l R p e below s args y len Wd (fun A a => a = as ∧ A.U.heap = h ∧ A.cells + kc ≤ R.cells ∧ A.slots + ks ≤ R.slots) (fun A _ v B => ∃ L, Q v B.U.heap L ∧ B.locs = A.locs ++ L ∧ B.cells = A.cells + kc ∧ B.slots = A.slots + ks)
abbrev PayW (Z : State) (EL : List (String × Nat)) (l : Launch) (R : Room) (p : Program) (e : Env) (below : List Frame) (s : State) (vm0 : Vm) (args : Array Value) (y : MethodName) (len Wd : Nat) (as : Array Value) (h : Heap) (kc ks : Nat) (Q : Option Value → Heap → List Loc → Prop) : Prop :=
  BackS l R p e below (s.setVm vm0) args y len Wd (fun A a => a = as ∧ A.U.heap = h ∧ A.cells + kc ≤ R.cells ∧ A.slots + ks ≤ R.slots) (fun A _ v B => ∃ L, Q v B.U.heap L ∧ B.locs = A.locs ++ L ∧ B.cells = A.cells + kc ∧ B.slots = A.slots + ks ∧ CHr Z EL vm0 h B.U.vm B.U.heap)
/-- behind a call that interned nothing -/
theorem Wk.after {kc ks : Nat} {T' : State} {L locs : List Loc} {vm0 : Vm} {k0 k1 n1 : Nat} {wc : List Addr} (X' : Stand p l e R (s.setVm vm0) m args below meth c T' (locs ++ L) (k1 + kc) (n1 + ks))
    (b : k1 ≤ k ∧ n1 ≤ n) (S : s.Since vm0 k0 ∧ k0 ≤ h.size) (hZ : Z.Warmed39 vm0) (ho : vm0.findClass own = some m.cls) (N : Fr n0 locs) (K : Keep h0 h ws) (O : Old Z n0 h) (f : ∀ x ∈ sf, n0 ≤ x ∧ (x ∈ ws ∨ h0.size ≤ x) ∧ x < h.size) (w1 : W = false → vm0 = s.vm) (w2 : W = true → EW Z a0 EL ∧ CHr Z EL s.vm h0 vm0 h ∧ ∀ x ∈ sf, Safe Z EL vm0 h x)
    (NL : Fr n0 L) (Kc : Keep h T'.heap wc) (hws : ∀ x ∈ wc, x ∈ sf) (xs : List Addr) (hxs : ∀ x ∈ xs, x ∈ sf ∨ h.size ≤ x ∧ x < T'.heap.size) :
    Wk W Z a0 EL n0 h0 ws own p l e R s m args below meth c (xs ++ sf) T' T'.heap (k + kc) (n + ks) := by
  refine ⟨vm0, _, k0, _, _, ⟨by omega, by omega⟩, X', rfl, ⟨S.1, Nat.le_trans S.2 Kc.1⟩, hZ, ho, Fr.app N NL, K.trans Kc fun x hx => (f x (hws x hx)).2.1, O.keep Kc fun x hx => (f x (hws x hx)).1, fun x hx => ?_, w1, fun ew => ?_⟩
  · have old : x ∈ sf → n0 ≤ x ∧ (x ∈ ws ∨ h0.size ≤ x) ∧ x < T'.heap.size := fun hx => ⟨(f x hx).1, (f x hx).2.1, Nat.lt_of_lt_of_le (f x hx).2.2 Kc.1⟩
    rcases List.mem_append.mp hx with hx | hx
    · rcases hxs x hx with hx | ⟨q1, q2⟩
      · exact old hx
      · exact ⟨Nat.le_trans (by rw [← O.1]; exact O.2.1) q1, Or.inr (Nat.le_trans K.1 q1), q2⟩
    · exact old hx
  · obtain ⟨v1, v2, v3⟩ := w2 ew
    refine ⟨v1, v2.trans (CHr.keep Kc (fun x hx => v3 x (hws x hx)) v2.1), fun x hx => ?_⟩
    have old : x ∈ sf → Safe Z EL vm0 T'.heap x := fun hx => Safe.keep Kc (fun x hx => v3 x (hws x hx)) v2.1 (v3 x hx)
    rcases List.mem_append.mp hx with hx | hx
    · rcases hxs x hx with hx | ⟨q1, q2⟩
      · exact old hx
      · exact Safe.keep Kc (fun x hx => v3 x (hws x hx)) v2.1 (Safe.new q1)
    · exact old hx
theorem Wk.callS (A : Wk W Z a0 EL n0 h0 ws own p l e R s m args below meth c sf T h k n) (hx : p.tables.exec = Jvm.exec) {index : Nat} {y : MethodName} {bytes : ByteArray} {maxL : Nat} {ret : Option FieldType} (wl : (Cond.methodLink own index y).before a0 Z = true) (wst : (Cond.static y).before a0 Z = true) (wz : (Cond.initialized y.cls).before a0 Z = true) (wc : (Cond.code y bytes maxL ret).before a0 Z = true) (hy : y.cls ≠ "java/lang/invoke/MethodHandle" ∧ y.cls ≠ "java/lang/invoke/VarHandle")
    {g : JFrame} (hg : g.method = m) (hsize : g.locals.size = c.maxLocals) (argsL rest : List Value) (hlen : ∀ sig, parseMethodDescriptor y.desc = some sig → argsL.length = sig.parameters.length) (hs : g.stack = argsL.reverse ++ rest) {Wd kc ks : Nat} (hW : 2 * g.monitorRoom + (rest.map fun v => v.category).sum ≤ Wd) (hd : decode c.code g.pc = .ok (.invokestatic index, 3)) (hk : k + kc ≤ R.cells) (hn : n + ks ≤ R.slots)
    {Q : Option Value → Heap → List Loc → Prop} (wc' : List Addr) (hQ : ∀ v h' L, Q v h' L → Fr n0 L ∧ Keep h h' wc') (hws : ∀ x ∈ wc', x ∈ sf) (pay : ∀ vm0, Z.Warmed39 (s.setVm vm0).vm → PayN l R p e below (s.setVm vm0) args y 3 Wd argsL.toArray h kc ks Q) :
    ∃ (v : Option Value) (T' : State) (h' : Heap), (∀ xs : List Addr, (∀ x ∈ xs, x ∈ sf ∨ h.size ≤ x ∧ x < h'.size) → Wk W Z a0 EL n0 h0 ws own p l e R s m args below meth c (xs ++ sf) T' h' (k + kc) (n + ks)) ∧ Keep h h' wc' ∧ (∃ L, Q v h' L) ∧
      ∀ t, Steps p.tables e below (T'.setTop { g with pc := g.pc + 3, stack := v.toList ++ rest }) t → Steps p.tables e below (T.setTop g) t := by
  obtain ⟨vm0, locs, k0, k1, n1, bb, X, eT, S, hZ, ho, Nf, K, O, f, w1, w2⟩ := A
  obtain ⟨v, _, ⟨T', L', c', s'⟩, -, X', ⟨L, hq, l1, l2, l3⟩, st⟩ := Jvm.LawKit.callS X hx ho (mvT (s := s.setVm vm0) hZ wl) (mvT (s := s.setVm vm0) hZ wst) (mvT (s := s.setVm vm0) hZ wz) (mvT (s := s.setVm vm0) hZ wc) hy (pay vm0 hZ) hg hsize (argsL := argsL) (rest := rest) hlen hs hW hd (fun _ _ => ⟨rfl, eT, by show k1 + kc ≤ _; omega, by show n1 + ks ≤ _; omega⟩)
  dsimp only [Pt.U, Pt.locs, Pt.cells, Pt.slots] at X' hq l1 l2 l3 st
  subst l1 l2 l3
  obtain ⟨q1, q2⟩ := hQ _ _ _ hq
  exact ⟨v, T', _, Wk.after X' bb S hZ ho Nf K O f w1 w2 q1 q2 hws, q2, ⟨L, hq⟩, st⟩
theorem Wk.callI (A : Wk W Z a0 EL n0 h0 ws own p l e R s m args below meth c sf T h k n) (hx : p.tables.exec = Jvm.exec) {index : Nat} {y : MethodName} {bytes : ByteArray} {maxL : Nat} (hy1 : y.name = "<init>") (wl : (Cond.methodLink own index y).before a0 Z = true) (wi : (Cond.instanceMethod y).before a0 Z = true) (wc : (Cond.code y bytes maxL none).before a0 Z = true) (hy : y.cls ≠ "java/lang/invoke/MethodHandle" ∧ y.cls ≠ "java/lang/invoke/VarHandle")
    {g : JFrame} (hg : g.method = m) (hsize : g.locals.size = c.maxLocals) (a : Addr) (argsL rest : List Value) (hlen : ∀ sig, parseMethodDescriptor y.desc = some sig → argsL.length = sig.parameters.length) (hs : g.stack = argsL.reverse ++ .ref a :: rest) {Wd kc ks : Nat} (hW : 2 * g.monitorRoom + (rest.map fun v => v.category).sum ≤ Wd) (hd : decode c.code g.pc = .ok (.invokespecial index, 3)) (hk : k + kc ≤ R.cells) (hn : n + ks ≤ R.slots)
    {Q : Option Value → Heap → List Loc → Prop} (wc' : List Addr) (hQ : ∀ v h' L, Q v h' L → Fr n0 L ∧ Keep h h' wc') (hws : ∀ x ∈ wc', x ∈ sf) (pay : ∀ vm0, Z.Warmed39 (s.setVm vm0).vm → PayN l R p e below (s.setVm vm0) args y 3 Wd (.ref a :: argsL).toArray h kc ks Q) :
    ∃ (v : Option Value) (T' : State) (h' : Heap), (∀ xs : List Addr, (∀ x ∈ xs, x ∈ sf ∨ h.size ≤ x ∧ x < h'.size) → Wk W Z a0 EL n0 h0 ws own p l e R s m args below meth c (xs ++ sf) T' h' (k + kc) (n + ks)) ∧ Keep h h' wc' ∧ (∃ L, Q v h' L) ∧
      ∀ t, Steps p.tables e below (T'.setTop { g with pc := g.pc + 3, stack := v.toList ++ rest }) t → Steps p.tables e below (T.setTop g) t := by
  obtain ⟨vm0, locs, k0, k1, n1, bb, X, eT, S, hZ, ho, Nf, K, O, f, w1, w2⟩ := A
  obtain ⟨v, _, ⟨T', L', c', s'⟩, -, X', ⟨L, hq, l1, l2, l3⟩, st⟩ := X.specialBack hx hy1 ho (mvT (s := s.setVm vm0) hZ wl) (mvT (s := s.setVm vm0) hZ wi) (mvT (s := s.setVm vm0) hZ wc) hy (pay vm0 hZ) hg hsize (Steps.refl _) (a := a) (argsL := argsL) (rest := rest) hlen hs hW hd (fun _ _ => ⟨rfl, eT, by show k1 + kc ≤ _; omega, by show n1 + ks ≤ _; omega⟩)
  dsimp only [Pt.U, Pt.locs, Pt.cells, Pt.slots] at X' hq l1 l2 l3 st
  subst l1 l2 l3
  obtain ⟨q1, q2⟩ := hQ _ _ _ hq
  exact ⟨v, T', _, Wk.after X' bb S hZ ho Nf K O f w1 w2 q1 q2 hws, q2, ⟨L, hq⟩, fun t q => st.trans q⟩
theorem Wk.callV (A : Wk W Z a0 EL n0 h0 ws own p l e R s m args below meth c sf T h k n) (hx : p.tables.exec = Jvm.exec) {C : String} {index : Nat} {y z : MethodName} (wl : (Cond.methodLink own index y).before a0 Z = true) (wd : (Cond.declares y).before a0 Z = true) (wse : (Cond.selects C y z).before a0 Z = true) (wi : (Cond.instanceMethod z).before a0 Z = true) (nf : ∀ s' : State, Z.Warmed39 s'.vm → NotFace s' y) (hy : y.cls ≠ "java/lang/invoke/MethodHandle" ∧ y.cls ≠ "java/lang/invoke/VarHandle")
    {b : Addr} (E : Exa Z h b C) {g : JFrame} (hg : g.method = m) (hsize : g.locals.size = c.maxLocals) (argsL rest : List Value) (hlen : ∀ sig, parseMethodDescriptor y.desc = some sig → argsL.length = sig.parameters.length) (hs : g.stack = argsL.reverse ++ .ref b :: rest) {Wd kc ks : Nat} (hW : 2 * g.monitorRoom + (rest.map fun v => v.category).sum ≤ Wd) (hd : decode c.code g.pc = .ok (.invokevirtual index, 3)) (hk : k + kc ≤ R.cells) (hn : n + ks ≤ R.slots)
    {Q : Option Value → Heap → List Loc → Prop} (wc' : List Addr) (hQ : ∀ v h' L, Q v h' L → Fr n0 L ∧ Keep h h' wc') (hws : ∀ x ∈ wc', x ∈ sf) (pay : ∀ vm0, Z.Warmed39 (s.setVm vm0).vm → PayN l R p e below (s.setVm vm0) args z 3 Wd (.ref b :: argsL).toArray h kc ks Q) :
    ∃ (v : Option Value) (T' : State) (h' : Heap), (∀ xs : List Addr, (∀ x ∈ xs, x ∈ sf ∨ h.size ≤ x ∧ x < h'.size) → Wk W Z a0 EL n0 h0 ws own p l e R s m args below meth c (xs ++ sf) T' h' (k + kc) (n + ks)) ∧ Keep h h' wc' ∧ (∃ L, Q v h' L) ∧
      ∀ t, Steps p.tables e below (T'.setTop { g with pc := g.pc + 3, stack := v.toList ++ rest }) t → Steps p.tables e below (T.setTop g) t := by
  obtain ⟨vm0, locs, k0, k1, n1, bb, X, eT, S, hZ, ho, Nf, K, O, f, w1, w2⟩ := A
  obtain ⟨cq, kq, qa, qb, qc⟩ := isOf (s := s.setVm vm0) hZ eT E
  obtain ⟨v, _, ⟨T', L', c', s'⟩, -, X', ⟨L, hq, l1, l2, l3⟩, st⟩ := X.virtualBack hx ho (mvT (s := s.setVm vm0) hZ wl) (mvT (s := s.setVm vm0) hZ wd) (nf (s.setVm vm0) hZ) (mvT (s := s.setVm vm0) hZ wse) (mvT (s := s.setVm vm0) hZ wi) hy (pay vm0 hZ) qa qc hg hsize (Steps.refl _) (argsL := argsL) (rest := rest) hlen hs hW hd (fun _ _ => ⟨rfl, eT, by show k1 + kc ≤ _; omega, by show n1 + ks ≤ _; omega⟩)
  dsimp only [Pt.U, Pt.locs, Pt.cells, Pt.slots] at X' hq l1 l2 l3 st
  subst l1 l2 l3
  obtain ⟨q1, q2⟩ := hQ _ _ _ hq
  exact ⟨v, T', _, Wk.after X' bb S hZ ho Nf K O f w1 w2 q1 q2 hws, q2, ⟨L, hq⟩, fun t q => st.trans q⟩
theorem Wk.callSup (A : Wk W Z a0 EL n0 h0 ws own p l e R s m args below meth c sf T h k n) (hx : p.tables.exec = Jvm.exec) {KK : String} {index : Nat} {y : MethodName} {bytes : ByteArray} {maxL : Nat} {ret : Option FieldType} (wl : (Cond.methodLink own index y).before a0 Z = true) (wsm : (Cond.sameMethod y.cls y.cls y.name y.desc).before a0 Z = true) (wi : (Cond.instanceMethod y).before a0 Z = true) (wsu : (Cond.superclass own y.cls).before a0 Z = true) (wc : (Cond.code y bytes maxL ret).before a0 Z = true) (hn1 : y.name ≠ "<init>")
    {g : JFrame} (hg : g.method = m) (hsize : g.locals.size = c.maxLocals) {a : Addr} (F : Ins Z h a KK true) (argsL rest : List Value) (hlen : ∀ sig, parseMethodDescriptor y.desc = some sig → argsL.length = sig.parameters.length) (hs : g.stack = argsL.reverse ++ .ref a :: rest) {Wd kc ks : Nat} (hW : 2 * g.monitorRoom + (rest.map fun v => v.category).sum ≤ Wd) (hd : decode c.code g.pc = .ok (.invokespecial index, 3)) (hk : k + kc ≤ R.cells) (hn : n + ks ≤ R.slots)
    {Q : Option Value → Heap → List Loc → Prop} (wc' : List Addr) (hQ : ∀ v h' L, Q v h' L → Fr n0 L ∧ Keep h h' wc') (hws : ∀ x ∈ wc', x ∈ sf) (pay : ∀ vm0, Z.Warmed39 (s.setVm vm0).vm → PayN l R p e below (s.setVm vm0) args y 3 Wd (.ref a :: argsL).toArray h kc ks Q) :
    ∃ (v : Option Value) (T' : State) (h' : Heap), (∀ xs : List Addr, (∀ x ∈ xs, x ∈ sf ∨ h.size ≤ x ∧ x < h'.size) → Wk W Z a0 EL n0 h0 ws own p l e R s m args below meth c (xs ++ sf) T' h' (k + kc) (n + ks)) ∧ Keep h h' wc' ∧ (∃ L, Q v h' L) ∧
      ∀ t, Steps p.tables e below (T'.setTop { g with pc := g.pc + 3, stack := v.toList ++ rest }) t → Steps p.tables e below (T.setTop g) t := by
  obtain ⟨vm0, locs, k0, k1, n1, bb, X, eT, S, hZ, ho, Nf, K, O, f, w1, w2⟩ := A
  obtain ⟨v, _, ⟨T', L', c', s'⟩, -, X', ⟨L, hq, l1, l2, l3⟩, st⟩ := RoadKit.superBack X hx hZ ho wl wsm wi wsu hn1 (pay vm0 hZ) eT F hg hsize wc (argsL := argsL) (rest := rest) hlen hs hW hd (fun _ _ => ⟨rfl, eT, by show k1 + kc ≤ _; omega, by show n1 + ks ≤ _; omega⟩)
  dsimp only [Pt.U, Pt.locs, Pt.cells, Pt.slots] at X' hq l1 l2 l3 st
  subst l1 l2 l3
  obtain ⟨q1, q2⟩ := hQ _ _ _ hq
  exact ⟨v, T', _, Wk.after X' bb S hZ ho Nf K O f w1 w2 q1 q2 hws, q2, ⟨L, hq⟩, fun t q => st.trans q⟩
theorem Wk.copy (A : Wk W Z a0 EL n0 h0 ws own p l e R s m args below meth c sf T h k n) (hx : p.tables.exec = Jvm.exec) {index : Nat} (wl : (Cond.methodLink own index Jvm.Stand.acN).before a0 Z = true) (wn : (Cond.native Jvm.Stand.acN).before a0 Z = true) (wst : (Cond.static Jvm.Stand.acN).before a0 Z = true) (wz : (Cond.initialized "java/lang/System").before a0 Z = true)
    {a b : Addr} {ka kb : ClassId} {ty : FieldType} {z z' sp dp nn : Int32} {vs vd us : List Value} {dv dd : Value} (Va : Arv Z h a ka ty z vs dv) (Vb : Arv Z h b kb ty z' vd dd) (hty : refKind ty = false) (h1 : ¬ sp < 0) (h2 : ¬ dp < 0) (h3 : ¬ nn < 0) (h4 : sp.toNatClampNeg + nn.toNatClampNeg ≤ z.toNatClampNeg) (h5 : dp.toNatClampNeg + nn.toNatClampNeg ≤ z'.toNatClampNeg)
    (hus : us = (List.range nn.toNatClampNeg).map fun i => vs.getD (sp.toNatClampNeg + i) dv) (hl : dp.toNatClampNeg + nn.toNatClampNeg ≤ vd.length) (hb : b ∈ sf)
    {g : JFrame} (hg : g.method = m) (hsize : g.locals.size = c.maxLocals) {rest : List Value} (hs : g.stack = .int nn :: .int dp :: .ref b :: .int sp :: .ref a :: rest) (hd : decode c.code g.pc = .ok (.invokestatic index, 3))
    (hf : 1 ≤ R.frames) {Wd : Nat} (hW : 2 * g.monitorRoom + (rest.map fun v => v.category).sum ≤ Wd) (hlo : Wd + (nativeFrameWords "java/lang/System" "arraycopy" 5 + 11) ≤ R.locals) :
    ∃ (T' : State) (h' : Heap), Wk W Z a0 EL n0 h0 ws own p l e R s m args below meth c sf T' h' k n ∧ Keep h h' [b] ∧ Arv Z h' b kb ty z' (vd.take dp.toNatClampNeg ++ us ++ vd.drop (dp.toNatClampNeg + nn.toNatClampNeg)) dd ∧
      ∀ t, Steps p.tables e below (T'.setTop { g with pc := g.pc + 3, stack := rest }) t → Steps p.tables e below (T.setTop g) t := by
  obtain ⟨vm0, locs, k0, k1, n1, bb, X, eT, S, hZ, ho, Nf, K, O, f, w1, w2⟩ := A
  obtain ⟨T', h', L, X', e', N', Kc, V', st⟩ := RoadKit.cpA X hx hZ ho wl wn wst wz eT Va Vb (Or.inl ⟨rfl, hty⟩) h1 h2 h3 h4 h5 hus hl Nf (f b hb).1 hg hsize hs hd hf hW hlo
  have hws : ∀ x ∈ [b], x ∈ sf := allS hb all0
  refine ⟨T', h', ⟨vm0, L, k0, k1, n1, bb, X', e', ⟨S.1, Nat.le_trans S.2 Kc.1⟩, hZ, ho, N', K.trans Kc fun x hx => (f x (hws x hx)).2.1, O.keep Kc fun x hx => (f x (hws x hx)).1, fun x hx => ⟨(f x hx).1, (f x hx).2.1, Nat.lt_of_lt_of_le (f x hx).2.2 Kc.1⟩, w1, fun ew => ?_⟩, Kc, V', st⟩
  obtain ⟨v1, v2, v3⟩ := w2 ew
  exact ⟨v1, v2.trans (CHr.keep Kc (fun x hx => v3 x (hws x hx)) v2.1), fun x hx => Safe.keep Kc (fun x hx => v3 x (hws x hx)) v2.1 (v3 x hx)⟩
/-! contracts -/
abbrev EndN (s : State) (h0 : Heap) (ws : List Addr) (n0 : Nat) (rm : Room) (Q : Option Value → Heap → Prop) (o : Outcome) (u : State) : Prop :=
  ∃ v L, o = .returned v ∧ (Q v u.heap ∧ Fr n0 L ∧ Keep h0 u.heap ws) ∧ FrameEnd s o u L rm.cells rm.slots
abbrev CtrN (l : Launch) (Z : State) (y : MethodName) (bytes : ByteArray) (maxL : Nat) (ret : Option FieldType) (tb : List Cond) (rm : Room) (as : Array Value) (h0 : Heap) (ws : List Addr) (n0 : Nat) (Q : Option Value → Heap → Prop) : Prop :=
  MetFree l y (head1 (Cond.code y bytes maxL ret :: tb) rm) (fun a U => a = as ∧ Z.Warmed39 U.vm ∧ U.heap = h0) (fun _ _ _ _ _ => True) (fun _ U o U' => ∃ v L, o = .returned v ∧ (Q v U'.heap ∧ Fr n0 L ∧ Keep h0 U'.heap ws) ∧ FrameEnd U o U' L rm.cells rm.slots)
theorem enterN {y : MethodName} {bytes : ByteArray} {maxL : Nat} {ret : Option FieldType} {tb : List Cond} {rm : Room} {as : Array Value} {Q : Option Value → Heap → Prop} (hp : plainFor y = true) (hO : Old Z n0 h0) (hsf : ∀ x ∈ ws, n0 ≤ x ∧ x < h0.size)
    (body : ∀ (p : Program) (e : Env) (s : State) (m : MethodId) (below : List Frame) (meth : Method) (c : Code) (T : State), p.tables.exec = Jvm.exec → c.code = bytes → c.maxLocals = maxL → meth.sig.returnType = ret → meth.name = y.name → meth.locks = false →
      Wk false Z a0 [] n0 h0 ws y.cls p l e rm s m as below meth c ws T h0 0 0 → Run p.tables e below (EndN s h0 ws n0 rm Q) (T.setTop (entryFrame m as maxL))) : CtrN l Z y bytes maxL ret tb rm as h0 ws n0 Q := by
  refine MetFree.of_bodySF hp hisR ?_
  intro p e s m args below meth c s₁ Bd hml0 hP hK
  obtain ⟨rfl, hZ, hh⟩ := hP
  have X0 := Stand.of_body Bd
  have e0 : s₁.heap = h0 := by rw [← hh, Bd.state]; rfl
  exact body p e s m below meth c s₁ Bd.exec Bd.bytes hml0 Bd.returns (name_of_methodNamed Bd.named Bd.method).1 Bd.notSynchronized ⟨s.vm, [], 0, 0, 0, ⟨Nat.le_refl _, Nat.le_refl _⟩, X0, e0, ⟨(State.WarmedH.refl s).since 0, Nat.zero_le _⟩, hZ, findClass_of_methodNamed Bd.named, Fr.nil _, Keep.refl _ _, hO, fun x hx => ⟨(hsf x hx).1, Or.inl hx, (hsf x hx).2⟩, fun _ => rfl, fun q => by cases q⟩
theorem Wk.leaveN (A : Wk false Z a0 EL n0 h0 ws own p l e R s m args below meth c sf T h k n) (hlk : meth.locks = false) {rm : Room} {Q : Option Value → Heap → Prop} {g : JFrame} (v : Option Value) (hv : meth.sig.returnType = none → v = none) (hk : k ≤ rm.cells) (hn : n ≤ rm.slots) (hq : Q v h)
    (hret : ∀ {s' : State} {locs : List Loc} {k' n' : Nat} {fs : List Frame}, Stand p l e R s' m args below meth c T locs k' n' → (∀ (f : JFrame) (acts : List Action), f.method = m → f.locked = none → f.entered = [] → (doReturn e (T.setTop f) acts v).1 = T.setFrames fs) → Steps p.tables e below (T.setTop g) (T.setFrames fs)) :
    Run p.tables e below (EndN s h0 ws n0 rm Q) (T.setTop g) := by
  obtain ⟨vm0, locs, k0, k1, n1, ⟨b1, b2⟩, X, eT, S, hZ, ho, Nf, K, O, f, w1, w2⟩ := A
  cases w1 rfl
  obtain ⟨fs, hr, hrun, hended, hW, hsame⟩ := X.leave (v := v) hv hlk
  refine ⟨_, _, hret X hr, hrun, hended, _, _, rfl, ⟨?_, Nf, ?_⟩, ⟨_, rfl⟩, hW, hsame.mono (by omega) (by omega)⟩
  · show Q v T.heap; rw [eT]; exact hq
  · show Keep h0 T.heap ws; rw [eT]; exact K
theorem payN {y : MethodName} {bytes : ByteArray} {maxL : Nat} {ret : Option FieldType} {rm : Room} {as : Array Value} {Q : Option Value → Heap → Prop} {len Wd : Nat} (M : CtrN l Z y bytes maxL ret [] rm as h ws n0 Q) (wc : (Cond.code y bytes maxL ret).before a0 Z = true) (wz : (Cond.initialized y.cls).before a0 Z = true) (hf : rm.frames + 1 ≤ R.frames) (hl : Wd + (maxL + 11) + rm.locals ≤ R.locals) {vm0 : Vm} (hZ : Z.Warmed39 (s.setVm vm0).vm) :
    PayN l R p e below (s.setVm vm0) args y len Wd as h rm.cells rm.slots (fun v h' L => Q v h' ∧ Fr n0 L ∧ Keep h h' ws) := backOf (Q := fun v h' L => Q v h' ∧ Fr n0 L ∧ Keep h h' ws) M hZ wc wz hf hl
/-! contracts of bodies that may intern -/
abbrev EndW (Z : State) (EL : List (String × Nat)) (s : State) (h0 : Heap) (ws : List Addr) (n0 : Nat) (rm : Room) (Q : Option Value → Heap → Prop) (o : Outcome) (u : State) : Prop :=
  ∃ v L, o = .returned v ∧ (Q v u.heap ∧ Fr n0 L ∧ Keep h0 u.heap ws) ∧ CHr Z EL s.vm s.heap u.vm u.heap ∧ ReturnedEndW s o u L rm.cells rm.slots
abbrev CtrW (l : Launch) (Z : State) (EL : List (String × Nat)) (y : MethodName) (bytes : ByteArray) (maxL : Nat) (ret : Option FieldType) (tb : List Cond) (rm : Room) (as : Array Value) (h0 : Heap) (ws : List Addr) (n0 : Nat) (Q : Option Value → Heap → Prop) : Prop :=
  MetFree l y (head1 (Cond.code y bytes maxL ret :: tb) rm) (fun a U => a = as ∧ Z.Warmed39 U.vm ∧ U.heap = h0 ∧ CHv Z EL U.vm h0 ∧ ∀ x ∈ ws, Safe Z EL U.vm h0 x) (fun _ _ _ _ _ => True) (fun _ U o U' => ∃ v L, o = .returned v ∧ (Q v U'.heap ∧ Fr n0 L ∧ Keep h0 U'.heap ws) ∧ CHr Z EL U.vm U.heap U'.vm U'.heap ∧ ReturnedEndW U o U' L rm.cells rm.slots)
theorem enterW {y : MethodName} {bytes : ByteArray} {maxL : Nat} {ret : Option FieldType} {tb : List Cond} {rm : Room} {as : Array Value} {Q : Option Value → Heap → Prop} (hp : plainFor y = true) (hEL : EW Z a0 EL) (hO : Old Z n0 h0) (hsf : ∀ x ∈ ws, n0 ≤ x ∧ x < h0.size)
    (body : ∀ (p : Program) (e : Env) (s : State) (m : MethodId) (below : List Frame) (meth : Method) (c : Code) (T : State), p.tables.exec = Jvm.exec → c.code = bytes → c.maxLocals = maxL → meth.sig.returnType = ret → meth.name = y.name → meth.locks = false → s.heap = h0 →
      Wk true Z a0 EL n0 h0 ws y.cls p l e rm s m as below meth c ws T h0 0 0 → Run p.tables e below (EndW Z EL s h0 ws n0 rm Q) (T.setTop (entryFrame m as maxL))) : CtrW l Z EL y bytes maxL ret tb rm as h0 ws n0 Q := by
  refine MetFree.of_bodySF hp hisR ?_
  intro p e s m args below meth c s₁ Bd hml0 hP hK
  obtain ⟨rfl, hZ, hh, hC, hSf⟩ := hP
  have X0 := Stand.of_body Bd
  have e0 : s₁.heap = h0 := by rw [← hh, Bd.state]; rfl
  exact body p e s m below meth c s₁ Bd.exec Bd.bytes hml0 Bd.returns (name_of_methodNamed Bd.named Bd.method).1 Bd.notSynchronized hh ⟨s.vm, [], 0, 0, 0, ⟨Nat.le_refl _, Nat.le_refl _⟩, X0, e0, ⟨(State.WarmedH.refl s).since 0, Nat.zero_le _⟩, hZ, findClass_of_methodNamed Bd.named, Fr.nil _, Keep.refl _ _, hO, fun x hx => ⟨(hsf x hx).1, Or.inl hx, (hsf x hx).2⟩, fun _ => rfl, fun _ => ⟨hEL, CHr.refl hC, hSf⟩⟩
theorem Wk.leaveW (A : Wk true Z a0 EL n0 h0 ws own p l e R s m args below meth c sf T h k n) (hlk : meth.locks = false) (hh : s.heap = h0) {rm : Room} {Q : Option Value → Heap → Prop} {g : JFrame} (v : Option Value) (hv : meth.sig.returnType = none → v = none) (hk : k ≤ rm.cells) (hn : n ≤ rm.slots) (hq : Q v h)
    (hret : ∀ {s' : State} {locs : List Loc} {k' n' : Nat} {fs : List Frame}, Stand p l e R s' m args below meth c T locs k' n' → (∀ (f : JFrame) (acts : List Action), f.method = m → f.locked = none → f.entered = [] → (doReturn e (T.setTop f) acts v).1 = T.setFrames fs) → Steps p.tables e below (T.setTop g) (T.setFrames fs)) :
    Run p.tables e below (EndW Z EL s h0 ws n0 rm Q) (T.setTop g) := by
  obtain ⟨vm0, locs, k0, k1, n1, ⟨b1, b2⟩, X, eT, ⟨S, S0⟩, hZ, ho, Nf, K, O, f, w1, w2⟩ := A
  obtain ⟨v1, v2, v3⟩ := w2 rfl
  obtain ⟨fs, hr, hrun, hended, r1, r2, r3, r4⟩ := X.leaveW S (by rw [eT]; exact S0) (v := v) hv hlk
  refine ⟨_, _, hret X hr, hrun, hended, _, _, rfl, ⟨?_, Nf, ?_⟩, ?_, r1, r2, r3, r4.mono (by omega) (by omega)⟩
  · show Q v T.heap; rw [eT]; exact hq
  · show Keep h0 T.heap ws; rw [eT]; exact K
  · show CHr Z EL s.vm s.heap T.vm T.heap
    rw [eT, hh]; exact v2.trans (CHv.at X hZ v1 v2.1)
theorem payW {y : MethodName} {bytes : ByteArray} {maxL : Nat} {ret : Option FieldType} {rm : Room} {as : Array Value} {Q : Option Value → Heap → Prop} {len Wd : Nat} (M : CtrW l Z EL y bytes maxL ret [] rm as h ws n0 Q) (wc : (Cond.code y bytes maxL ret).before a0 Z = true) (wz : (Cond.initialized y.cls).before a0 Z = true) (hf : rm.frames + 1 ≤ R.frames) (hl : Wd + (maxL + 11) + rm.locals ≤ R.locals) {vm0 : Vm} (hZ : Z.Warmed39 vm0) (hEL : EW Z a0 EL) (H : CHv Z EL vm0 h) (hsf : ∀ x ∈ ws, x < h.size ∧ Safe Z EL vm0 h x) :
    PayW Z EL l R p e below s vm0 args y len Wd as h rm.cells rm.slots (fun v h' L => Q v h' ∧ Fr n0 L ∧ Keep h h' ws) :=
  BackS.of_freeW (bytes := bytes) (maxL := maxL) (ret := ret) (E := fun _ first o t L k n => k = rm.cells ∧ n = rm.slots ∧ (∃ v, o = .returned v ∧ (Q v t.heap ∧ Fr n0 L ∧ Keep h t.heap ws)) ∧ CHr Z EL first.vm first.heap t.vm t.heap) M hf hl
    (fun m meth c A a Y hp => have hU : Z.Warmed39 A.U.vm := wtrans (s := s.setVm vm0) hZ Y.warmed
      ⟨by show (Cond.and _ .tt).before a A.U = true; rw [Cond.before_and, mv hU wc]; rfl, mv hU wc, mv hU wz, hp.2.2.1, hp.2.2.2⟩)
    (fun m meth c A a g mk Y hp => ⟨hp.1, wtrans (s := s.setVm vm0) hZ Y.warmed, hp.2.1, (CHv.at Y hZ hEL H).1, fun x hx => (CHv.at Y hZ hEL H).safe (hsf x hx).1 (hsf x hx).2⟩) (fun _ _ _ _ _ _ _ _ _ => trivial)
    (fun _ _ _ _ ⟨v, L, q1, q2, q3, q4⟩ => ⟨L, _, _, q4, rfl, rfl, ⟨v, q1, q2⟩, q3⟩)
    (fun m meth c A a g mk v t L k n Y hp _ _ ⟨e1, e2, ⟨v', e3, e4⟩, e5⟩ => by
      cases e3; subst e1 e2
      refine ⟨L, e4, rfl, rfl, rfl, (CHv.at Y hZ hEL H).trans ?_⟩
      rw [← hp.2.1]; exact e5)
/-- behind a call that may have interned -/
theorem Wk.afterW {kc ks : Nat} {T' : State} {L locs : List Loc} {vm0 : Vm} {k0 k1 n1 : Nat} {wc : List Addr} (eT : T.heap = h) (X' : Stand p l e R ((s.setVm vm0).setVm T'.vm) m args below meth c T' (locs ++ L) (k1 + kc) (n1 + ks)) (S2 : (s.setVm vm0).Since T'.vm T'.heap.size) (gr : T.heap.size ≤ T'.heap.size) (C2 : CHr Z EL vm0 h T'.vm T'.heap)
    (b : k1 ≤ k ∧ n1 ≤ n) (S : s.Since vm0 k0 ∧ k0 ≤ h.size) (hZ : Z.Warmed39 vm0) (ho : vm0.findClass own = some m.cls) (N : Fr n0 locs) (K : Keep h0 h ws) (O : Old Z n0 h) (f : ∀ x ∈ sf, n0 ≤ x ∧ (x ∈ ws ∨ h0.size ≤ x) ∧ x < h.size) (w2 : EW Z a0 EL ∧ CHr Z EL s.vm h0 vm0 h ∧ ∀ x ∈ sf, Safe Z EL vm0 h x)
    (NL : Fr n0 L) (Kc : Keep h T'.heap wc) (hws : ∀ x ∈ wc, x ∈ sf) :
    Wk true Z a0 EL n0 h0 ws own p l e R s m args below meth c sf T' T'.heap (k + kc) (n + ks) := by
  obtain ⟨v1, v2, v3⟩ := w2
  obtain ⟨X1, S1, hZ1, ho1⟩ := rebS S.1 S.2 X' S2 (by rw [← eT]; exact gr) hZ ho
  refine ⟨T'.vm, _, _, _, _, ⟨by omega, by omega⟩, X1, rfl, ⟨S1, Nat.le_refl _⟩, hZ1, ho1, Fr.app N NL, K.trans Kc fun x hx => (f x (hws x hx)).2.1, O.keep Kc fun x hx => (f x (hws x hx)).1, fun x hx => ⟨(f x hx).1, (f x hx).2.1, Nat.lt_of_lt_of_le (f x hx).2.2 Kc.1⟩, (fun q => by cases q), fun _ => ⟨v1, v2.trans C2, fun x hx => C2.safe (f x hx).2.2 (v3 x hx)⟩⟩
theorem Wk.callSW (A : Wk true Z a0 EL n0 h0 ws own p l e R s m args below meth c sf T h k n) (hx : p.tables.exec = Jvm.exec) {index : Nat} {y : MethodName} {bytes : ByteArray} {maxL : Nat} {ret : Option FieldType} (wl : (Cond.methodLink own index y).before a0 Z = true) (wst : (Cond.static y).before a0 Z = true) (wz : (Cond.initialized y.cls).before a0 Z = true) (wc : (Cond.code y bytes maxL ret).before a0 Z = true) (hy : y.cls ≠ "java/lang/invoke/MethodHandle" ∧ y.cls ≠ "java/lang/invoke/VarHandle")
    {g : JFrame} (hg : g.method = m) (hsize : g.locals.size = c.maxLocals) (argsL rest : List Value) (hlen : ∀ sig, parseMethodDescriptor y.desc = some sig → argsL.length = sig.parameters.length) (hs : g.stack = argsL.reverse ++ rest) {Wd kc ks : Nat} (hW : 2 * g.monitorRoom + (rest.map fun v => v.category).sum ≤ Wd) (hd : decode c.code g.pc = .ok (.invokestatic index, 3)) (hk : k + kc ≤ R.cells) (hn : n + ks ≤ R.slots)
    {Q : Option Value → Heap → List Loc → Prop} (wc' : List Addr) (hQ : ∀ v h' L, Q v h' L → Fr n0 L ∧ Keep h h' wc') (hws : ∀ x ∈ wc', x ∈ sf) (pay : ∀ vm0, Z.Warmed39 vm0 → EW Z a0 EL → CHv Z EL vm0 h → (∀ x ∈ wc', x < h.size ∧ Safe Z EL vm0 h x) → PayW Z EL l R p e below s vm0 args y 3 Wd argsL.toArray h kc ks Q) :
    ∃ (v : Option Value) (T' : State) (h' : Heap), Wk true Z a0 EL n0 h0 ws own p l e R s m args below meth c sf T' h' (k + kc) (n + ks) ∧ Keep h h' wc' ∧ (∃ L, Q v h' L) ∧
      ∀ t, Steps p.tables e below (T'.setTop { g with pc := g.pc + 3, stack := v.toList ++ rest }) t → Steps p.tables e below (T.setTop g) t := by
  obtain ⟨vm0, locs, k0, k1, n1, bb, X, eT, S, hZ, ho, Nf, K, O, f, w1, w2⟩ := A
  obtain ⟨v, _, ⟨T', L', c', s'⟩, -, X', S2, gr, ⟨L, hq, l1, l2, l3, C2⟩, st⟩ := RoadKit.callSS X hx ho (mvT (s := s.setVm vm0) hZ wl) (mvT (s := s.setVm vm0) hZ wst) (mvT (s := s.setVm vm0) hZ wz) (mvT (s := s.setVm vm0) hZ wc) hy (pay vm0 hZ (w2 rfl).1 (w2 rfl).2.1.1 fun x hx => ⟨(f x (hws x hx)).2.2, (w2 rfl).2.2 x (hws x hx)⟩) hg hsize (argsL := argsL) (rest := rest) hlen hs hW hd (fun _ _ => ⟨rfl, eT, by show k1 + kc ≤ _; omega, by show n1 + ks ≤ _; omega⟩)
  dsimp only [Pt.U, Pt.locs, Pt.cells, Pt.slots] at X' hq l1 l2 l3 st S2 gr C2
  subst l1 l2 l3
  obtain ⟨q1, q2⟩ := hQ _ _ _ hq
  exact ⟨v, T', _, Wk.afterW eT X' S2 gr C2 bb S hZ ho Nf K O f (w2 rfl) q1 q2 hws, q2, ⟨L, hq⟩, fun t q => st.trans q⟩
theorem Wk.callIW (A : Wk true Z a0 EL n0 h0 ws own p l e R s m args below meth c sf T h k n) (hx : p.tables.exec = Jvm.exec) {index : Nat} {y : MethodName} {bytes : ByteArray} {maxL : Nat} (hy1 : y.name = "<init>") (wl : (Cond.methodLink own index y).before a0 Z = true) (wi : (Cond.instanceMethod y).before a0 Z = true) (wc : (Cond.code y bytes maxL none).before a0 Z = true) (hy : y.cls ≠ "java/lang/invoke/MethodHandle" ∧ y.cls ≠ "java/lang/invoke/VarHandle")
    {g : JFrame} (hg : g.method = m) (hsize : g.locals.size = c.maxLocals) (a : Addr) (argsL rest : List Value) (hlen : ∀ sig, parseMethodDescriptor y.desc = some sig → argsL.length = sig.parameters.length) (hs : g.stack = argsL.reverse ++ .ref a :: rest) {Wd kc ks : Nat} (hW : 2 * g.monitorRoom + (rest.map fun v => v.category).sum ≤ Wd) (hd : decode c.code g.pc = .ok (.invokespecial index, 3)) (hk : k + kc ≤ R.cells) (hn : n + ks ≤ R.slots)
    {Q : Option Value → Heap → List Loc → Prop} (wc' : List Addr) (hQ : ∀ v h' L, Q v h' L → Fr n0 L ∧ Keep h h' wc') (hws : ∀ x ∈ wc', x ∈ sf) (pay : ∀ vm0, Z.Warmed39 vm0 → EW Z a0 EL → CHv Z EL vm0 h → (∀ x ∈ wc', x < h.size ∧ Safe Z EL vm0 h x) → PayW Z EL l R p e below s vm0 args y 3 Wd (.ref a :: argsL).toArray h kc ks Q) :
    ∃ (v : Option Value) (T' : State) (h' : Heap), Wk true Z a0 EL n0 h0 ws own p l e R s m args below meth c sf T' h' (k + kc) (n + ks) ∧ Keep h h' wc' ∧ (∃ L, Q v h' L) ∧
      ∀ t, Steps p.tables e below (T'.setTop { g with pc := g.pc + 3, stack := v.toList ++ rest }) t → Steps p.tables e below (T.setTop g) t := by
  obtain ⟨vm0, locs, k0, k1, n1, bb, X, eT, S, hZ, ho, Nf, K, O, f, w1, w2⟩ := A
  obtain ⟨v, _, ⟨T', L', c', s'⟩, -, X', S2, gr, ⟨L, hq, l1, l2, l3, C2⟩, st⟩ := X.specialBackS hx hy1 ho (mvT (s := s.setVm vm0) hZ wl) (mvT (s := s.setVm vm0) hZ wi) (mvT (s := s.setVm vm0) hZ wc) hy (pay vm0 hZ (w2 rfl).1 (w2 rfl).2.1.1 fun x hx => ⟨(f x (hws x hx)).2.2, (w2 rfl).2.2 x (hws x hx)⟩) hg hsize (Steps.refl _) (a := a) (argsL := argsL) (rest := rest) hlen hs hW hd (fun _ _ => ⟨rfl, eT, by show k1 + kc ≤ _; omega, by show n1 + ks ≤ _; omega⟩)
  dsimp only [Pt.U, Pt.locs, Pt.cells, Pt.slots] at X' hq l1 l2 l3 st S2 gr C2
  subst l1 l2 l3
  obtain ⟨q1, q2⟩ := hQ _ _ _ hq
  exact ⟨v, T', _, Wk.afterW eT X' S2 gr C2 bb S hZ ho Nf K O f (w2 rfl) q1 q2 hws, q2, ⟨L, hq⟩, fun t q => st.trans q⟩
theorem Wk.callVW (A : Wk true Z a0 EL n0 h0 ws own p l e R s m args below meth c sf T h k n) (hx : p.tables.exec = Jvm.exec) {C : String} {index : Nat} {y z : MethodName} (wl : (Cond.methodLink own index y).before a0 Z = true) (wd : (Cond.declares y).before a0 Z = true) (wse : (Cond.selects C y z).before a0 Z = true) (wi : (Cond.instanceMethod z).before a0 Z = true) (nf : ∀ s' : State, Z.Warmed39 s'.vm → NotFace s' y) (hy : y.cls ≠ "java/lang/invoke/MethodHandle" ∧ y.cls ≠ "java/lang/invoke/VarHandle")
    {b : Addr} (E : Exa Z h b C) {g : JFrame} (hg : g.method = m) (hsize : g.locals.size = c.maxLocals) (argsL rest : List Value) (hlen : ∀ sig, parseMethodDescriptor y.desc = some sig → argsL.length = sig.parameters.length) (hs : g.stack = argsL.reverse ++ .ref b :: rest) {Wd kc ks : Nat} (hW : 2 * g.monitorRoom + (rest.map fun v => v.category).sum ≤ Wd) (hd : decode c.code g.pc = .ok (.invokevirtual index, 3)) (hk : k + kc ≤ R.cells) (hn : n + ks ≤ R.slots)
    {Q : Option Value → Heap → List Loc → Prop} (wc' : List Addr) (hQ : ∀ v h' L, Q v h' L → Fr n0 L ∧ Keep h h' wc') (hws : ∀ x ∈ wc', x ∈ sf) (pay : ∀ vm0, Z.Warmed39 vm0 → EW Z a0 EL → CHv Z EL vm0 h → (∀ x ∈ wc', x < h.size ∧ Safe Z EL vm0 h x) → PayW Z EL l R p e below s vm0 args z 3 Wd (.ref b :: argsL).toArray h kc ks Q) :
    ∃ (v : Option Value) (T' : State) (h' : Heap), Wk true Z a0 EL n0 h0 ws own p l e R s m args below meth c sf T' h' (k + kc) (n + ks) ∧ Keep h h' wc' ∧ (∃ L, Q v h' L) ∧
      ∀ t, Steps p.tables e below (T'.setTop { g with pc := g.pc + 3, stack := v.toList ++ rest }) t → Steps p.tables e below (T.setTop g) t := by
  obtain ⟨vm0, locs, k0, k1, n1, bb, X, eT, S, hZ, ho, Nf, K, O, f, w1, w2⟩ := A
  obtain ⟨cq, kq, qa, qb, qc⟩ := isOf (s := s.setVm vm0) hZ eT E
  obtain ⟨v, _, ⟨T', L', c', s'⟩, -, X', S2, gr, ⟨L, hq, l1, l2, l3, C2⟩, st⟩ := X.virtualBackS hx ho (mvT (s := s.setVm vm0) hZ wl) (mvT (s := s.setVm vm0) hZ wd) (nf (s.setVm vm0) hZ) (mvT (s := s.setVm vm0) hZ wse) (mvT (s := s.setVm vm0) hZ wi) hy (pay vm0 hZ (w2 rfl).1 (w2 rfl).2.1.1 fun x hx => ⟨(f x (hws x hx)).2.2, (w2 rfl).2.2 x (hws x hx)⟩) qa qc hg hsize (Steps.refl _) (argsL := argsL) (rest := rest) hlen hs hW hd (fun _ _ => ⟨rfl, eT, by show k1 + kc ≤ _; omega, by show n1 + ks ≤ _; omega⟩)
  dsimp only [Pt.U, Pt.locs, Pt.cells, Pt.slots] at X' hq l1 l2 l3 st S2 gr C2
  subst l1 l2 l3
  obtain ⟨q1, q2⟩ := hQ _ _ _ hq
  exact ⟨v, T', _, Wk.afterW eT X' S2 gr C2 bb S hZ ho Nf K O f (w2 rfl) q1 q2 hws, q2, ⟨L, hq⟩, fun t q => st.trans q⟩
theorem Wk.ldc (A : Wk true Z a0 EL n0 h0 ws own p l e R s m args below meth c sf T h k n) (hx : p.tables.exec = Jvm.exec) {text : String} {index : Nat} (w : (Cond.stringLink own index text).before a0 Z = true) (wS : ∀ a ∈ Bundle.stringAtoms, a.before a0 Z = true) (hmem : (own, index) ∈ EL) {vs : List Value} {z : Int32} (ht : (∀ c ∈ text.toList, c.toNat < 256) ∧ text.toList.map (fun c => Value.int (Jvm.Lit.byteI c.toNat.toUInt16)) = vs) (hz : ¬ z < 0) (hl : z.toNatClampNeg = vs.length)
    {g : JFrame} (hg : g.method = m) (hd : decode c.code g.pc = .ok (.ldc index, 2)) {q : Nat} (hn : 4 * text.toList.length ≤ q) (hbig : q ≤ 536870912) (hc : k + 2 ≤ R.cells) (hl' : n + (q + 4) ≤ R.slots) :
    ∃ (a b : Addr) (kb : ClassId) (T' : State) (h' : Heap), Wk true Z a0 EL n0 h0 ws own p l e R s m args below meth c sf T' h' (k + 2) (n + (q + 4)) ∧ Ext h h' ∧ Exa Z h' a "java/lang/String" ∧ Fld Z h' a "java/lang/String" "coder" "B" (.int 0) ∧ Fld Z h' a "java/lang/String" "value" "[B" (.ref b) ∧ Arv Z h' b kb .byte z vs (.int 0) ∧ (∀ x ∈ sf, x ≠ a ∧ x ≠ b) ∧
      ∀ t, Steps p.tables e below (T'.setTop { g with pc := g.pc + 2, stack := .ref a :: g.stack }) t → Steps p.tables e below (T.setTop g) t := by
  obtain ⟨vm0, locs, k0, k1, n1, ⟨b1, b2⟩, X, eT, S, hZ, ho, Nf, K, O, f, w1, w2⟩ := A
  obtain ⟨v1, v2, v3⟩ := w2 rfl
  obtain ⟨a, T', h', k2, b, kb, X', e', E, S', hk', hZ', ho', E1, E2, E3, E4, -, -, C2, -, ne, st⟩ := RoadKit.ldcCH X hx hZ ho w wS eT S.1 S.2 v1 hmem v2.1 ht hz hl hg hd hn hbig (by omega) (by omega)
  refine ⟨a, b, kb, T', h', ⟨T'.vm, locs, k2, _, _, ⟨by omega, by omega⟩, X', e', ⟨S', hk'⟩, hZ', ho', Nf, K.ext E, O.ext E, fun x hx => ⟨(f x hx).1, (f x hx).2.1, Nat.lt_of_lt_of_le (f x hx).2.2 E.1⟩, (fun q => by cases q), fun _ => ⟨v1, v2.trans C2, fun x hx => C2.safe (f x hx).2.2 (v3 x hx)⟩⟩, E, E1, E2, E3, E4, fun x hx => ne x (C2.safe (f x hx).2.2 (v3 x hx)), st⟩
end Kit
end Jvm.OwnKit
/- laws to paste: Road.backV, Road.lenW, Road.eqW, Road.codOf (cut by pick.py; bodies as the Statement names them) -/
namespace Jvm.Pilot.@@N@@
namespace StrChars
open Jvm Sem ClassFile Op Lib Jvm.Stand Jvm.Free.XT Jvm.Free.ALB Jvm.Free.JM Jvm.Free
open Jvm.Lib.Cold (StaticIs)
/-- a char array whose places are chars -/
def Ch (a : Addr) (A : Cell) (U : State) : Prop := Arr .char a A U ∧ Typed .char A
theorem Ch.mv {a : Addr} {A : Cell} {U U' : State} (h : Ch a A U) (hal : U.vm.Alike U'.vm) (hh : U'.heap = U.heap) : Ch a A U' := ⟨h.1.mv hal hh, h.2⟩
theorem Ch.keep {a : Addr} {A : Cell} {U U' : State} (h : Ch a A U) (hal : U.vm.Alike U'.vm) (hk : U'.heap[a]? = some A) : Ch a A U' := ⟨h.1.keep hal hk, h.2⟩
/-- what place i of a char[]'s cell holds -/
def cv (A : Cell) (i : Nat) : Int32 := match A.slots[i]? with | some (.int x) => x | _ => 0
theorem Ch.get {a : Addr} {A : Cell} {U : State} (h : Ch a A U) {i : Nat} (hi : i < A.slots.size) : A.slots[i]? = some (.int (cv A i)) := by
  have e := Array.getElem?_eq_getElem hi
  have f := h.2 i _ e
  unfold cv; rw [e]
  generalize A.slots[i] = v at f
  cases v <;> simp [fits] at f ⊢
/-- the byte that i2b leaves of a char -/
def lo8 (x : Int32) : Int32 := x.toInt8.toInt32
theorem fits_lo8 (y : Int32) : fits .byte (.int (lo8 y)) = true := by
  have h1 := y.toInt8.le_toInt
  have h2 := y.toInt8.toInt_lt
  simp only [lo8, fits, Bool.and_eq_true, decide_eq_true_eq, Int32.le_iff_toInt_le, Int8.toInt_toInt32, show (-128 : Int32).toInt = -128 from by decide, show (127 : Int32).toInt = 127 from by decide]
  omega
/-- A' is A but that each place j of lo .. hi - 1 holds f j -/
def Laid (A A' : Cell) (lo hi : Nat) (f : Nat → Value) : Prop := A'.cls = A.cls ∧ A'.vm = A.vm ∧ A'.slots.size = A.slots.size ∧ ∀ i, A'.slots[i]? = if lo ≤ i ∧ i < hi then some (f i) else A.slots[i]?
theorem Laid.zero (A : Cell) (lo : Nat) (f : Nat → Value) : Laid A A lo (lo + 0) f := ⟨rfl, rfl, rfl, fun i => by rw [if_neg (by omega)]⟩
theorem Laid.step {A Ak : Cell} {lo k : Nat} {f : Nat → Value} {v : Value} (h : Laid A Ak lo k f) (hlo : lo ≤ k) (hk : k < Ak.slots.size) (hv : v = f k) : Laid A (Ak.setSlot k v) lo (k + 1) f := by
  refine ⟨h.1, h.2.1, by simpa [Cell.setSlot] using h.2.2.1, fun i => ?_⟩
  by_cases e : k = i
  · subst e; rw [Cell.slots_setSlot_self v hk, if_pos (by omega), hv]
  · rw [Cell.slots_setSlot_ne v e, h.2.2.2 i]
    by_cases q : lo ≤ i ∧ i < k
    · rw [if_pos q, if_pos (by omega)]
    · rw [if_neg q, if_neg (by omega)]
def U16 : String := "java/lang/StringUTF16"
namespace Cmp5
def yN : MethodName := ⟨"java/lang/StringUTF16", "compress", "([CI[BII)I"⟩
abbrev yB : ByteArray := jdk_52_method_21_code
theorem d0 : decode yB 0 = .ok (.iconst 0, 1) := by decide +kernel
theorem d1 : decode yB 1 = .ok (.istore 5, 2) := by decide +kernel
theorem d3 : decode yB 3 = .ok (.iload 5, 2) := by decide +kernel
theorem d5 : decode yB 5 = .ok (.iload 4, 2) := by decide +kernel
theorem d7 : decode yB 7 = .ok (.if_icmp (.ge) 37, 3) := by decide +kernel
theorem d10 : decode yB 10 = .ok (.aload_n 0, 1) := by decide +kernel
theorem d11 : decode yB 11 = .ok (.iload_n 1, 1) := by decide +kernel
theorem d12 : decode yB 12 = .ok (.caload, 1) := by decide +kernel
theorem d13 : decode yB 13 = .ok (.istore 6, 2) := by decide +kernel
theorem d15 : decode yB 15 = .ok (.iload 6, 2) := by decide +kernel
theorem d17 : decode yB 17 = .ok (.sipush 255, 3) := by decide +kernel
theorem d20 : decode yB 20 = .ok (.if_icmp (.le) 6, 3) := by decide +kernel
theorem d26 : decode yB 26 = .ok (.aload_n 2, 1) := by decide +kernel
theorem d27 : decode yB 27 = .ok (.iload_n 3, 1) := by decide +kernel
theorem d28 : decode yB 28 = .ok (.iload 6, 2) := by decide +kernel
theorem d30 : decode yB 30 = .ok (.i2b, 1) := by decide +kernel
theorem d31 : decode yB 31 = .ok (.bastore, 1) := by decide +kernel
theorem d32 : decode yB 32 = .ok (.iinc 1 1, 3) := by decide +kernel
theorem d35 : decode yB 35 = .ok (.iinc 3 1, 3) := by decide +kernel
theorem d38 : decode yB 38 = .ok (.iinc 5 1, 3) := by decide +kernel
theorem d41 : decode yB 41 = .ok (.goto (-38), 3) := by decide +kernel
theorem d44 : decode yB 44 = .ok (.iload 4, 2) := by decide +kernel
theorem d46 : decode yB 46 = .ok (.ireturn, 1) := by decide +kernel
def site : List Cond := []
def tab : Cond := tabOf yN yB 7 (some .int) site
def P (b : Addr) (A : Cell) (d : Addr) (B : Cell) (o q len : Nat) (args : Array Value) (s : State) : Prop := args = #[.ref b, .int (Int32.ofNat o), .ref d, .int (Int32.ofNat q), .int (Int32.ofNat len)] ∧ Ch b A s ∧ Arr .byte d B s ∧ b ≠ d ∧ o + len ≤ A.slots.size ∧ q + len ≤ B.slots.size ∧ ∀ i, i < len → ¬ 255 < cv A (o + i)
def E (b : Addr) (A : Cell) (d : Addr) (B : Cell) (o q len : Nat) (r : Option Value) (s u : State) : Prop := r = some (.int (Int32.ofNat len)) ∧ ∃ B', Put d B' s u ∧ Laid B B' q (q + len) (fun j => Value.int (lo8 (cv A (o + (j - q)))))
/-- no char of the range above 255: len; the places written hold each char's low byte -/
theorem law (l : Launch) (b : Addr) (A : Cell) (d : Addr) (B : Cell) (o q len : Nat) : Law l yN 5 5 0 0 yB 7 (some .int) site (P b A d B o q len) (E b A d B o q len) (copyLocs d q len) 0 0 := by
  refine Law.of_walk (plainFor_of_name (by decide +kernel)) (by decide +kernel) (by decide +kernel) (by decide) (fun _ _ h => by rw [h.1]; rfl) (fun _ U U' hal hh h => ⟨h.1, h.2.1.mv hal hh, h.2.2.1.mv hal hh, h.2.2.2⟩) (fun r U U' V V' h1 hal h2 h => ⟨h.1, h.2.elim fun B' q => ⟨B', q.1.mv h1 h2, q.2⟩⟩) ?_
  intro p e s m args below meth c s₁ X0 hexec hbytes hml hret hlk hnm hown hh0 W hP
  obtain ⟨rfl, hA, hB, hne, l1, l2, hp⟩ := hP
  have c1 : Steps p.tables e below (s₁.setTop (entryFrame m #[.ref b, .int (Int32.ofNat o), .ref d, .int (Int32.ofNat q), .int (Int32.ofNat len)] 7)) (s₁.setTop (mkF m 0 #[.val (.ref b), .val (.int (Int32.ofNat o)), .val (.ref d), .val (.int (Int32.ofNat q)), .val (.int (Int32.ofNat len)), .unset, .unset] [])) := entry rfl
  have hA0 := hA.1.mv X0.warmed.alike hh0
  have hB0 := hB.mv X0.warmed.alike hh0
  have a31 := hA.1.2.2.2
  have c2 : Steps p.tables e below (s₁.setTop (entryFrame m #[.ref b, .int (Int32.ofNat o), .ref d, .int (Int32.ofNat q), .int (Int32.ofNat len)] 7)) (s₁.setTop (mkF m 3 #[.val (.ref b), .val (.int (Int32.ofNat o)), .val (.ref d), .val (.int (Int32.ofNat q)), .val (.int (Int32.ofNat len)), .val (.int 0), .unset] [])) := c1.trans (by
    refine iconstV X0.here hexec rfl 0 (hb hbytes d0) (by decide) ?_
    refine XS.istore X0.here hexec rfl (hb hbytes d1) rfl rfl ?_
    exact Steps.refl _)
  have loop : ∀ (r i : Nat), i + r = len → ∀ (z : Slot), (z = .unset ∨ ∃ w, z = .val w ∧ w.category = 1) → ∀ (Tl : State) (Bk : Cell), Stand p l e { frames := 0, locals := 0, cells := 0, slots := 0 } s m #[.ref b, .int (Int32.ofNat o), .ref d, .int (Int32.ofNat q), .int (Int32.ofNat len)] below meth c Tl ([] ++ copyLocs d q i) 0 0 → Put d Bk s₁ Tl → Laid B Bk q (q + i) (fun j => Value.int (lo8 (cv A (o + (j - q))))) →
      Steps p.tables e below (s₁.setTop (entryFrame m #[.ref b, .int (Int32.ofNat o), .ref d, .int (Int32.ofNat q), .int (Int32.ofNat len)] 7)) (Tl.setTop (mkF m 3 #[.val (.ref b), .val (.int (Int32.ofNat (o + i))), .val (.ref d), .val (.int (Int32.ofNat (q + i))), .val (.int (Int32.ofNat len)), .val (.int (Int32.ofNat i)), z] [])) → ∃ (T' : State) (B' : Cell) (z' : Slot), Stand p l e { frames := 0, locals := 0, cells := 0, slots := 0 } s m #[.ref b, .int (Int32.ofNat o), .ref d, .int (Int32.ofNat q), .int (Int32.ofNat len)] below meth c T' ([] ++ copyLocs d q len) 0 0 ∧ Put d B' s₁ T' ∧ Laid B B' q (q + len) (fun j => Value.int (lo8 (cv A (o + (j - q))))) ∧
      Steps p.tables e below (s₁.setTop (entryFrame m #[.ref b, .int (Int32.ofNat o), .ref d, .int (Int32.ofNat q), .int (Int32.ofNat len)] 7)) (T'.setTop (mkF m 3 #[.val (.ref b), .val (.int (Int32.ofNat (o + len))), .val (.ref d), .val (.int (Int32.ofNat (q + len))), .val (.int (Int32.ofNat len)), .val (.int (Int32.ofNat len)), z'] [])) := by
    intro r
    induction r with
    | zero =>
      intro i hi z hz Tl Bk Xl pl fl cl
      have hil : i = len := by omega
      rw [hil] at Xl fl cl
      exact ⟨Tl, Bk, z, Xl, pl, fl, cl⟩
    | succ r ih =>
      intro i hi z hz Tl Bk Xl pl fl cl
      have all := X0.warmed.alike.symm.trans Xl.warmed.alike
      have hAl := hA0.keep all (pl.other hne hA0.1)
      have hBk := hB0.like all pl.1 fl.1 fl.2.1 fl.2.2.1
      have hlt : q + i < Bk.slots.size := by rw [fl.2.2.1]; omega
      have c3 : Steps p.tables e below (s₁.setTop (entryFrame m #[.ref b, .int (Int32.ofNat o), .ref d, .int (Int32.ofNat q), .int (Int32.ofNat len)] 7)) (Tl.setTop (mkF m 12 #[.val (.ref b), .val (.int (Int32.ofNat (o + i))), .val (.ref d), .val (.int (Int32.ofNat (q + i))), .val (.int (Int32.ofNat len)), .val (.int (Int32.ofNat i)), z] [.int (Int32.ofNat (o + i)), .ref b])) := cl.trans (by
        refine XS.iload Xl.here hexec rfl (hb hbytes d3) rfl ?_
        refine XS.iload Xl.here hexec rfl (hb hbytes d5) rfl ?_
        refine XS.icmpNo Xl.here hexec rfl (hb hbytes d7) rfl (ii_ge_f (lt32 (by omega) (by omega))) ?_
        refine XS.aloadN Xl.here hexec rfl (hb hbytes d10) rfl rfl ?_
        refine XS.iloadN Xl.here hexec rfl (hb hbytes d11) rfl ?_
        exact Steps.refl _)
      have c4 : Steps p.tables e below (s₁.setTop (entryFrame m #[.ref b, .int (Int32.ofNat o), .ref d, .int (Int32.ofNat q), .int (Int32.ofNat len)] 7)) (Tl.setTop (mkF m 13 #[.val (.ref b), .val (.int (Int32.ofNat (o + i))), .val (.ref d), .val (.int (Int32.ofNat (q + i))), .val (.int (Int32.ofNat len)), .val (.int (Int32.ofNat i)), z] [.int (cv A (o + i))])) := c3.trans (by
        refine Xl.aget hexec hAl rfl (hA.get (i := o + i) (by omega)) rfl rfl (hb hbytes d12) ?_
        exact Steps.refl _)
      have c5 : Steps p.tables e below (s₁.setTop (entryFrame m #[.ref b, .int (Int32.ofNat o), .ref d, .int (Int32.ofNat q), .int (Int32.ofNat len)] 7)) (Tl.setTop (mkF m 15 #[.val (.ref b), .val (.int (Int32.ofNat (o + i))), .val (.ref d), .val (.int (Int32.ofNat (q + i))), .val (.int (Int32.ofNat len)), .val (.int (Int32.ofNat i)), .val (.int (cv A (o + i)))] [])) := c4.trans (by
        refine XS.istoreS Xl.here hexec rfl (hb hbytes d13) rfl rfl hz ?_
        exact Steps.refl _)
      have c6 : Steps p.tables e below (s₁.setTop (entryFrame m #[.ref b, .int (Int32.ofNat o), .ref d, .int (Int32.ofNat q), .int (Int32.ofNat len)] 7)) (Tl.setTop (mkF m 31 #[.val (.ref b), .val (.int (Int32.ofNat (o + i))), .val (.ref d), .val (.int (Int32.ofNat (q + i))), .val (.int (Int32.ofNat len)), .val (.int (Int32.ofNat i)), .val (.int (cv A (o + i)))] [.int (lo8 (cv A (o + i))), .int (Int32.ofNat (q + i)), .ref d])) := c5.trans (by
        refine XS.iload Xl.here hexec rfl (hb hbytes d15) rfl ?_
        refine sipushV Xl.here hexec rfl 255 (hb hbytes d17) (by decide) ?_
        refine XS.icmpYes Xl.here hexec rfl (pc0 := 20) rfl (hb hbytes d20) rfl (ii_le_t (hp i (by omega))) (by decide) rfl ?_
        refine XS.aloadN Xl.here hexec rfl (hb hbytes d26) rfl rfl ?_
        refine XS.iloadN Xl.here hexec rfl (hb hbytes d27) rfl ?_
        refine XS.iload Xl.here hexec rfl (hb hbytes d28) rfl ?_
        refine i2b Xl.here hexec rfl (hb hbytes d30) rfl ?_
        exact Steps.refl _)
      obtain ⟨T7, X7, p7, st7⟩ := Xl.aput hexec hBk rfl hlt rfl (fits_lo8 (cv A (o + i))) (g := (mkF m 31 #[.val (.ref b), .val (.int (Int32.ofNat (o + i))), .val (.ref d), .val (.int (Int32.ofNat (q + i))), .val (.int (Int32.ofNat len)), .val (.int (Int32.ofNat i)), .val (.int (cv A (o + i)))] [.int (lo8 (cv A (o + i))), .int (Int32.ofNat (q + i)), .ref d])) rfl (rest := []) rfl (hb hbytes d31)
      have c8 : Steps p.tables e below (s₁.setTop (entryFrame m #[.ref b, .int (Int32.ofNat o), .ref d, .int (Int32.ofNat q), .int (Int32.ofNat len)] 7)) (T7.setTop (mkF m 32 #[.val (.ref b), .val (.int (Int32.ofNat (o + i))), .val (.ref d), .val (.int (Int32.ofNat (q + i))), .val (.int (Int32.ofNat len)), .val (.int (Int32.ofNat i)), .val (.int (cv A (o + i)))] [])) := c6.trans (st7 _ (Steps.refl _))
      have c9 : Steps p.tables e below (s₁.setTop (entryFrame m #[.ref b, .int (Int32.ofNat o), .ref d, .int (Int32.ofNat q), .int (Int32.ofNat len)] 7)) (T7.setTop (mkF m 3 #[.val (.ref b), .val (.int (Int32.ofNat (o + i) + 1)), .val (.ref d), .val (.int (Int32.ofNat (q + i) + 1)), .val (.int (Int32.ofNat len)), .val (.int (Int32.ofNat i + 1)), .val (.int (cv A (o + i)))] [])) := c8.trans (by
        refine iincV X7.here hexec rfl 1 (hb hbytes d32) (by decide) rfl rfl ?_
        refine iincV X7.here hexec rfl 1 (hb hbytes d35) (by decide) rfl rfl ?_
        refine iincV X7.here hexec rfl 1 (hb hbytes d38) (by decide) rfl rfl ?_
        refine XS.goto X7.here hexec rfl (pc0 := 41) rfl (hb hbytes d41) (by decide) rfl ?_
        exact Steps.refl _)
      have c10 : Steps p.tables e below (s₁.setTop (entryFrame m #[.ref b, .int (Int32.ofNat o), .ref d, .int (Int32.ofNat q), .int (Int32.ofNat len)] 7)) (T7.setTop (mkF m 3 #[.val (.ref b), .val (.int (Int32.ofNat (o + (i + 1)))), .val (.ref d), .val (.int (Int32.ofNat (q + (i + 1)))), .val (.int (Int32.ofNat len)), .val (.int (Int32.ofNat (i + 1))), .val (.int (cv A (o + i)))] [])) := by
        have := c9
        rw [succ32, succ32, succ32] at this
        exact this
      exact ih (i + 1) (by omega) _ (Or.inr ⟨_, rfl, rfl⟩) T7 _ (by rw [copyLocs_step, ← List.append_assoc]; exact X7) (pl.trans p7) (fl.step (by omega) hlt (by simp)) c10
  obtain ⟨T9, B9, z9, X9, p9, f9, g9⟩ := loop len 0 (by omega) .unset (Or.inl rfl) s₁ B (by simpa [copyLocs] using X0) ⟨hB0.1, fun _ _ => rfl, rfl⟩ (Laid.zero _ _ _) c2
  have c11 : Steps p.tables e below (s₁.setTop (entryFrame m #[.ref b, .int (Int32.ofNat o), .ref d, .int (Int32.ofNat q), .int (Int32.ofNat len)] 7)) (T9.setTop (mkF m 46 #[.val (.ref b), .val (.int (Int32.ofNat (o + len))), .val (.ref d), .val (.int (Int32.ofNat (q + len))), .val (.int (Int32.ofNat len)), .val (.int (Int32.ofNat len)), z9] [.int (Int32.ofNat len)])) := g9.trans (by
    refine XS.iload X9.here hexec rfl (hb hbytes d3) rfl ?_
    refine XS.iload X9.here hexec rfl (hb hbytes d5) rfl ?_
    refine XS.icmpYes X9.here hexec rfl (pc0 := 7) rfl (hb hbytes d7) rfl (ii_ge_t (nlt32 (by omega) (Nat.le_refl _))) (by decide) rfl ?_
    refine XS.iload X9.here hexec rfl (hb hbytes d44) rfl ?_
    exact Steps.refl _)
  exact ⟨T9, some (.int (Int32.ofNat len)), _, _, _, X9, by simp, rfl, rfl, (fun h => by cases h), ⟨rfl, B9, p9.from hh0, f9⟩, fun fs hl => c11.trans (X9.ireturnOut hexec hret rfl (Or.inl rfl) (hb hbytes d46) hl)⟩
end Cmp5
namespace Cmp3
def yN : MethodName := ⟨"java/lang/StringUTF16", "compress", "([CII)[B"⟩
abbrev yB : ByteArray := jdk_52_method_16_code
theorem d0 : decode yB 0 = .ok (.iload_n 2, 1) := by decide +kernel
theorem d1 : decode yB 1 = .ok (.newarray .byte, 2) := by decide +kernel
theorem d3 : decode yB 3 = .ok (.astore_n 3, 1) := by decide +kernel
theorem d4 : decode yB 4 = .ok (.aload_n 0, 1) := by decide +kernel
theorem d5 : decode yB 5 = .ok (.iload_n 1, 1) := by decide +kernel
theorem d6 : decode yB 6 = .ok (.aload_n 3, 1) := by decide +kernel
theorem d7 : decode yB 7 = .ok (.iconst 0, 1) := by decide +kernel
theorem d8 : decode yB 8 = .ok (.iload_n 2, 1) := by decide +kernel
theorem d9 : decode yB 9 = .ok (.invokestatic 115, 3) := by decide +kernel
theorem d12 : decode yB 12 = .ok (.istore 4, 2) := by decide +kernel
theorem d14 : decode yB 14 = .ok (.iload 4, 2) := by decide +kernel
theorem d16 : decode yB 16 = .ok (.iload_n 2, 1) := by decide +kernel
theorem d17 : decode yB 17 = .ok (.if_icmp (.eq) 40, 3) := by decide +kernel
theorem d57 : decode yB 57 = .ok (.aload_n 3, 1) := by decide +kernel
theorem d58 : decode yB 58 = .ok (.areturn, 1) := by decide +kernel
def site : List Cond := [.arrayClass .byte, Cmp5.tab] ++ staticW U16 115 Cmp5.yN
def tab : Cond := tabOf yN yB 6 (some (.array .byte)) site
def P (b : Addr) (A : Cell) (o len : Nat) (args : Array Value) (s : State) : Prop := args = #[.ref b, .int (Int32.ofNat o), .int (Int32.ofNat len)] ∧ Ch b A s ∧ o + len ≤ A.slots.size ∧ len ≤ 536870912 ∧ ∀ i, i < len → ¬ 255 < cv A (o + i)
def E (b : Addr) (A : Cell) (o len : Nat) (r : Option Value) (s u : State) : Prop := NewArr .byte "[B" len (fun j => .int (lo8 (cv A (o + j)))) r s u ∧ u.heap.size = s.heap.size + 1
/-- no char of the range above 255: a new byte[] of their low bytes -/
theorem law (l : Launch) (b : Addr) (A : Cell) (o len : Nat) : Law l yN 3 3 1 18 yB 6 (some (.array .byte)) site (P b A o len) (E b A o len) [] 1 len := by
  refine Law.of_walk (plainFor_of_name (by decide +kernel)) (by decide +kernel) (by decide +kernel) (by decide) (fun _ _ h => by rw [h.1]; rfl) (fun _ U U' hal hh h => ⟨h.1, h.2.1.mv hal hh, h.2.2⟩) (fun r U U' V V' h1 hal h2 h => ⟨NewArr.mv r U U' V V' h1 hal h2 h.1, by rw [h1, h2]; exact h.2⟩) ?_
  intro p e s m args below meth c s₁ X0 hexec hbytes hml hret hlk hnm hown hh0 W hP
  obtain ⟨rfl, hA, l1, l2, hp⟩ := hP
  have a31 := hA.1.2.2.2
  have c1 : Steps p.tables e below (s₁.setTop (entryFrame m #[.ref b, .int (Int32.ofNat o), .int (Int32.ofNat len)] 6)) (s₁.setTop (mkF m 0 #[.val (.ref b), .val (.int (Int32.ofNat o)), .val (.int (Int32.ofNat len)), .unset, .unset, .unset] [])) := entry rfl
  have c2 : Steps p.tables e below (s₁.setTop (entryFrame m #[.ref b, .int (Int32.ofNat o), .int (Int32.ofNat len)] 6)) (s₁.setTop (mkF m 1 #[.val (.ref b), .val (.int (Int32.ofNat o)), .val (.int (Int32.ofNat len)), .unset, .unset, .unset] [.int (Int32.ofNat len)])) := c1.trans (by
    refine XS.iloadN X0.here hexec rfl (hb hbytes d0) rfl ?_
    exact Steps.refl _)
  obtain ⟨T3, B3, X3, ba3, bs3, bv3, bh3, bf3, st3⟩ := X0.anew hexec (atype := .byte) (wk W (.arrayClass .byte)) rfl (by show len * 1 ≤ _; omega) (by omega) (g := (mkF m 1 #[.val (.ref b), .val (.int (Int32.ofNat o)), .val (.int (Int32.ofNat len)), .unset, .unset, .unset] [.int (Int32.ofNat len)])) rfl (hb hbytes d1) (rest := []) rfl (Nat.le_refl _) (by show 0 + len ≤ len; omega)
  rw [hh0] at ba3 st3
  have kp3 : XT.Kept s T3 := (XT.Kept.of_eq hh0).push bh3
  have hA3 := hA.keep X3.warmed.alike (kp3 _ _ hA.1.1)
  have hne : b ≠ s.heap.size := hA.1.ne
  have c4 : Steps p.tables e below (s₁.setTop (entryFrame m #[.ref b, .int (Int32.ofNat o), .int (Int32.ofNat len)] 6)) (T3.setTop (mkF m 3 #[.val (.ref b), .val (.int (Int32.ofNat o)), .val (.int (Int32.ofNat len)), .unset, .unset, .unset] [.ref s.heap.size])) := c2.trans (st3 _ (Steps.refl _))
  have c5 : Steps p.tables e below (s₁.setTop (entryFrame m #[.ref b, .int (Int32.ofNat o), .int (Int32.ofNat len)] 6)) (T3.setTop (mkF m 9 #[.val (.ref b), .val (.int (Int32.ofNat o)), .val (.int (Int32.ofNat len)), .val (.ref s.heap.size), .unset, .unset] [.int (Int32.ofNat len), .int 0, .ref s.heap.size, .int (Int32.ofNat o), .ref b])) := c4.trans (by
    refine XS.astoreN X3.here hexec rfl (hb hbytes d3) rfl rfl rfl ?_
    refine XS.aloadN X3.here hexec rfl (hb hbytes d4) rfl rfl ?_
    refine XS.iloadN X3.here hexec rfl (hb hbytes d5) rfl ?_
    refine XS.aloadN X3.here hexec rfl (hb hbytes d6) rfl rfl ?_
    refine iconstV X3.here hexec rfl 0 (hb hbytes d7) (by decide) ?_
    refine XS.iloadN X3.here hexec rfl (hb hbytes d8) rfl ?_
    exact Steps.refl _)
  obtain ⟨v6, T6, X6, E6, g6⟩ := X3.callS hexec (Cmp5.law l b A s.heap.size B3 o 0 len) hown (wks W (staticW U16 115 Cmp5.yN)) (wk W Cmp5.tab) (W := 0) (Nat.le_of_ble_eq_true rfl) (Nat.le_of_ble_eq_true rfl) (Nat.le_refl _) (by show 0 + len + 0 ≤ len; omega) (g := (mkF m 9 #[.val (.ref b), .val (.int (Int32.ofNat o)), .val (.int (Int32.ofNat len)), .val (.ref s.heap.size), .unset, .unset] [.int (Int32.ofNat len), .int (Int32.ofNat 0), .ref s.heap.size, .int (Int32.ofNat o), .ref b])) rfl (by rw [hml]; rfl) c5 (argsL := [.ref b, .int (Int32.ofNat o), .ref s.heap.size, .int (Int32.ofNat 0), .int (Int32.ofNat len)]) (rest := []) rfl rfl (by show 2 * 0 + 0 ≤ _; decide) (hb hbytes d9) (⟨rfl, hA3, ba3, hne, l1, by rw [bs3]; simp, hp⟩)
  obtain ⟨rfl, B6, p6, f6⟩ := E6
  have c7 : Steps p.tables e below (s₁.setTop (entryFrame m #[.ref b, .int (Int32.ofNat o), .int (Int32.ofNat len)] 6)) (T6.setTop (mkF m 12 #[.val (.ref b), .val (.int (Int32.ofNat o)), .val (.int (Int32.ofNat len)), .val (.ref s.heap.size), .unset, .unset] [.int (Int32.ofNat len)])) := g6
  have c8 : Steps p.tables e below (s₁.setTop (entryFrame m #[.ref b, .int (Int32.ofNat o), .int (Int32.ofNat len)] 6)) (T6.setTop (mkF m 58 #[.val (.ref b), .val (.int (Int32.ofNat o)), .val (.int (Int32.ofNat len)), .val (.ref s.heap.size), .val (.int (Int32.ofNat len)), .unset] [.ref s.heap.size])) := c7.trans (by
    refine XS.istore X6.here hexec rfl (hb hbytes d12) rfl rfl ?_
    refine XS.iload X6.here hexec rfl (hb hbytes d14) rfl ?_
    refine XS.iloadN X6.here hexec rfl (hb hbytes d16) rfl ?_
    refine XS.icmpYes X6.here hexec rfl (pc0 := 17) rfl (hb hbytes d17) rfl (ii_eq_t rfl) (by decide) rfl ?_
    refine XS.aloadN X6.here hexec rfl (hb hbytes d57) rfl rfl ?_
    exact Steps.refl _)
  have X8 := X6.wide (L' := []) (cells' := 1) (slots' := len) (fun x hx hlt => by
    simp only [List.nil_append, copyLocs, List.mem_map, List.mem_range] at hx
    obtain ⟨i, -, rfl⟩ := hx
    exact absurd hlt (Nat.lt_irrefl _)) (Nat.le_refl _) (by omega)
  exact ⟨T6, some (.ref s.heap.size), _, _, _, X8, rfl, rfl, rfl, (fun h => by cases h), ⟨⟨rfl, B6, ba3.like (X3.warmed.alike.symm.trans X6.warmed.alike) p6.1 f6.1 f6.2.1 f6.2.2.1, f6.2.1.trans bv3, by rw [X6.warmed.alike.findClass, f6.1]; exact bf3, by rw [f6.2.2.1, bs3]; simp, fun j hj => by rw [f6.2.2.2 j, if_pos (by omega)]; rfl, kp3.put p6 (Nat.le_refl _)⟩, by rw [p6.2.2, bh3, hh0]; simp⟩, fun fs hl => c8.trans (X8.areturnOut hexec rfl hret rfl (hb hbytes d58) hl)⟩
end Cmp3
namespace CodL
def yN : MethodName := ⟨"java/lang/StringUTF16", "coderFromArrayLen", "([BI)B"⟩
abbrev yB : ByteArray := jdk_52_method_15_code
theorem d0 : decode yB 0 = .ok (.iload_n 1, 1) := by decide +kernel
theorem d1 : decode yB 1 = .ok (.aload_n 0, 1) := by decide +kernel
theorem d2 : decode yB 2 = .ok (.arraylength, 1) := by decide +kernel
theorem d3 : decode yB 3 = .ok (.isub, 1) := by decide +kernel
theorem d4 : decode yB 4 = .ok (.bipush 31, 2) := by decide +kernel
theorem d6 : decode yB 6 = .ok (.iushr, 1) := by decide +kernel
theorem d7 : decode yB 7 = .ok (.i2b, 1) := by decide +kernel
theorem d8 : decode yB 8 = .ok (.ireturn, 1) := by decide +kernel
def site : List Cond := []
def tab : Cond := tabOf yN yB 2 (some .byte) site
def P (d : Addr) (B : Cell) (args : Array Value) (s : State) : Prop := args = #[.ref d, .int (Int32.ofNat B.slots.size)] ∧ Arr .byte d B s
def E (r : Option Value) (s u : State) : Prop := XT.PureE (some (.int 0)) r s u
/-- an array as long as the number of chars: LATIN1 -/
theorem law (l : Launch) (d : Addr) (B : Cell) : Law l yN 2 2 0 0 yB 2 (some .byte) site (P d B) E [] 0 0 := by
  refine Law.of_walk (plainFor_of_name (by decide +kernel)) (by decide +kernel) (by decide +kernel) (by decide) (fun _ _ h => by rw [h.1]; rfl) (fun _ U U' hal hh h => ⟨h.1, h.2.mv hal hh⟩) (fun r U U' V V' h1 hal h2 h => XT.PureE.mv r U U' V V' h1 hal h2 h) ?_
  intro p e s m args below meth c s₁ X0 hexec hbytes hml hret hlk hnm hown hh0 W hP
  obtain ⟨rfl, hB⟩ := hP
  have hB0 := hB.mv X0.warmed.alike hh0
  have c1 : Steps p.tables e below (s₁.setTop (entryFrame m #[.ref d, .int (Int32.ofNat B.slots.size)] 2)) (s₁.setTop (mkF m 0 #[.val (.ref d), .val (.int (Int32.ofNat B.slots.size))] [])) := entry rfl
  have c2 : Steps p.tables e below (s₁.setTop (entryFrame m #[.ref d, .int (Int32.ofNat B.slots.size)] 2)) (s₁.setTop (mkF m 2 #[.val (.ref d), .val (.int (Int32.ofNat B.slots.size))] [.ref d, .int (Int32.ofNat B.slots.size)])) := c1.trans (by
    refine XS.iloadN X0.here hexec rfl (hb hbytes d0) rfl ?_
    refine XS.aloadN X0.here hexec rfl (hb hbytes d1) rfl rfl ?_
    exact Steps.refl _)
  have c3 : Steps p.tables e below (s₁.setTop (entryFrame m #[.ref d, .int (Int32.ofNat B.slots.size)] 2)) (s₁.setTop (mkF m 8 #[.val (.ref d), .val (.int (Int32.ofNat B.slots.size))] [.int (lo8 (ushr (Int32.ofNat B.slots.size - Int32.ofNat B.slots.size) 31))])) := c2.trans (by
    refine X0.alen hexec hB0 rfl rfl (hb hbytes d2) ?_
    refine XS.isub X0.here hexec rfl (hb hbytes d3) rfl ?_
    refine bipushV X0.here hexec rfl 31 (hb hbytes d4) (by decide) ?_
    refine iushr X0.here hexec rfl (hb hbytes d6) rfl ?_
    refine i2b X0.here hexec rfl (hb hbytes d7) rfl ?_
    exact Steps.refl _)
  have e0 : lo8 (ushr (Int32.ofNat B.slots.size - Int32.ofNat B.slots.size) 31) = 0 := by rw [Int32.sub_self]; decide
  rw [e0] at c3
  exact ⟨s₁, some (.int 0), _, _, _, X0, rfl, rfl, rfl, (fun h => by cases h), ⟨rfl, hh0⟩, fun fs hl => c3.trans (X0.ireturnOut hexec hret rfl (Or.inr (Or.inr (Or.inl rfl))) (hb hbytes d8) hl)⟩
end CodL
/-- the String at a is Latin-1 over a new byte[] (the heap's one new cell): the low bytes of the len chars of A from o on; every cell but a is kept -/
def Got (a : Addr) (D : Cell) (fV fC : Field) (A : Cell) (o len : Nat) (r : Option Value) (s u : State) : Prop := r = none ∧ ∃ D' V : Cell, Blank "java/lang/String" a D' u ∧ Same D D' [fV.slot, fC.slot] ∧ D'.slots[fV.slot]? = some (.ref s.heap.size) ∧ D'.slots[fC.slot]? = some (.int 0) ∧ Arr .byte s.heap.size V u ∧ V.vm = .none ∧ u.vm.findClass "[B" = some V.cls ∧ V.slots.size = len ∧ (∀ j, j < len → V.slots[j]? = some (.int (lo8 (cv A (o + j))))) ∧ (∀ (y : Addr) (c : Cell), y ≠ a → s.heap[y]? = some c → u.heap[y]? = some c) ∧ u.heap.size = s.heap.size + 1
theorem Got.mv {a : Addr} {D A : Cell} {fV fC : Field} {o len : Nat} : ∀ r (U U' V V' : State), U'.heap = U.heap → V.vm.Alike V'.vm → V'.heap = V.heap → Got a D fV fC A o len r U V → Got a D fV fC A o len r U' V' :=
  fun r U U' V V' h1 hal h2 ⟨e0, D', X, a1, a2, a3, a4, a5, a6, a7, a8, a9, a10, a11⟩ => ⟨e0, D', X, a1.mv hal h2, a2, by rw [h1]; exact a3, a4, by rw [h1]; exact a5.mv hal h2, a6, by rw [hal.findClass]; exact a7, a8, a9, by rw [h1, h2]; exact a10, by rw [h1, h2]; exact a11⟩
namespace New4
def yN : MethodName := ⟨"java/lang/String", "<init>", "([CIILjava/lang/Void;)V"⟩
abbrev yB : ByteArray := jdk_42_method_149_code
theorem d0 : decode yB 0 = .ok (.aload_n 0, 1) := by decide +kernel
theorem d1 : decode yB 1 = .ok (.invokespecial 1, 3) := by decide +kernel
theorem d4 : decode yB 4 = .ok (.iload_n 3, 1) := by decide +kernel
theorem d5 : decode yB 5 = .ok (.ifCond (.ne) 22, 3) := by decide +kernel
theorem d27 : decode yB 27 = .ok (.getstatic 38, 3) := by decide +kernel
theorem d30 : decode yB 30 = .ok (.ifCond (.eq) 28, 3) := by decide +kernel
theorem d33 : decode yB 33 = .ok (.aload_n 1, 1) := by decide +kernel
theorem d34 : decode yB 34 = .ok (.iload_n 2, 1) := by decide +kernel
theorem d35 : decode yB 35 = .ok (.iload_n 3, 1) := by decide +kernel
theorem d36 : decode yB 36 = .ok (.invokestatic 177, 3) := by decide +kernel
theorem d39 : decode yB 39 = .ok (.astore 5, 2) := by decide +kernel
theorem d41 : decode yB 41 = .ok (.aload_n 0, 1) := by decide +kernel
theorem d42 : decode yB 42 = .ok (.aload 5, 2) := by decide +kernel
theorem d44 : decode yB 44 = .ok (.iload_n 3, 1) := by decide +kernel
theorem d45 : decode yB 45 = .ok (.invokestatic 47, 3) := by decide +kernel
theorem d48 : decode yB 48 = .ok (.putfield 15, 3) := by decide +kernel
theorem d51 : decode yB 51 = .ok (.aload_n 0, 1) := by decide +kernel
theorem d52 : decode yB 52 = .ok (.aload 5, 2) := by decide +kernel
theorem d54 : decode yB 54 = .ok (.putfield 9, 3) := by decide +kernel
theorem d57 : decode yB 57 = .ok (.return_, 1) := by decide +kernel
def site : List Cond := [.fieldLink "java/lang/String" 38 "java/lang/String" "COMPACT_STRINGS" "Z", Cmp3.tab, CodL.tab, .laysFinal "java/lang/String" "java/lang/String" "value" "[B", .fieldLink "java/lang/String" 9 "java/lang/String" "value" "[B", .laysFinal "java/lang/String" "java/lang/String" "coder" "B", .fieldLink "java/lang/String" 15 "java/lang/String" "coder" "B"] ++ objW "java/lang/String" 1 ++ staticW "java/lang/String" 177 Cmp3.yN ++ staticW "java/lang/String" 47 CodL.yN
def tab : Cond := tabOf yN yB 6 none site
def P (a : Addr) (D : Cell) (fV fC : Field) (b : Addr) (A : Cell) (z : Int32) (o len : Nat) (args : Array Value) (s : State) : Prop := args = #[.ref a, .ref b, .int (Int32.ofNat o), .int (Int32.ofNat len), .null] ∧ Blank "java/lang/String" a D s ∧ Found "java/lang/String" "value" "[B" fV s ∧ Found "java/lang/String" "coder" "B" fC s ∧ Ch b A s ∧ StaticIs s "java/lang/String" "COMPACT_STRINGS" "Z" (.int z) ∧ ¬ z = 0 ∧ 0 < len ∧ o + len ≤ A.slots.size ∧ len ≤ 536870912 ∧ ∀ i, i < len → ¬ 255 < cv A (o + i)
def E (a : Addr) (D : Cell) (fV fC : Field) (A : Cell) (o len : Nat) (r : Option Value) (s u : State) : Prop := Got a D fV fC A o len r s u
/-- len > 0, no char of the range above 255: a Latin-1 String of their low bytes -/
theorem law (l : Launch) (a : Addr) (D : Cell) (fV fC : Field) (b : Addr) (A : Cell) (z : Int32) (o len : Nat) : Law l yN 5 4 2 35 yB 6 none site (P a D fV fC b A z o len) (E a D fV fC A o len) [⟨a, fC.slot⟩, ⟨a, fV.slot⟩] 1 len := by
  refine Law.of_walk (plainFor_of_name (by decide +kernel)) (by decide +kernel) (by decide +kernel) (by decide) (fun _ _ h => by rw [h.1]; rfl) (fun _ U U' hal hh h => ⟨h.1, h.2.1.mv hal hh, h.2.2.1.al hal, h.2.2.2.1.al hal, h.2.2.2.2.1.mv hal hh, h.2.2.2.2.2.1.there hal hh, h.2.2.2.2.2.2⟩) (fun r U U' V V' h1 hal h2 h => Got.mv r U U' V V' h1 hal h2 h) ?_
  intro p e s m args below meth c s₁ X0 hexec hbytes hml hret hlk hnm hown hh0 W hP
  obtain ⟨rfl, hB, f1, f2, hA, s1, hz, l0, l1, l2, hp⟩ := hP
  have a31 := hA.1.2.2.2
  have c1 : Steps p.tables e below (s₁.setTop (entryFrame m #[.ref a, .ref b, .int (Int32.ofNat o), .int (Int32.ofNat len), .null] 6)) (s₁.setTop (mkF m 0 #[.val (.ref a), .val (.ref b), .val (.int (Int32.ofNat o)), .val (.int (Int32.ofNat len)), .val .null, .unset] [])) := entry rfl
  have c2 : Steps p.tables e below (s₁.setTop (entryFrame m #[.ref a, .ref b, .int (Int32.ofNat o), .int (Int32.ofNat len), .null] 6)) (s₁.setTop (mkF m 1 #[.val (.ref a), .val (.ref b), .val (.int (Int32.ofNat o)), .val (.int (Int32.ofNat len)), .val .null, .unset] [.ref a])) := c1.trans (by
    refine XS.aloadN X0.here hexec rfl (hb hbytes d0) rfl rfl ?_
    exact Steps.refl _)
  obtain ⟨T3, X3, q3, st3⟩ := X0.oinit hexec hown (wks W (objW "java/lang/String" 1)) (g := (mkF m 1 #[.val (.ref a), .val (.ref b), .val (.int (Int32.ofNat o)), .val (.int (Int32.ofNat len)), .val .null, .unset] [.ref a])) rfl (by rw [hml]; rfl) (rest := []) rfl (hb hbytes d1) (W := 0) (by show 2 * 0 + 0 ≤ _; decide) (Nat.le_of_ble_eq_true rfl) (Nat.le_of_ble_eq_true rfl)
  have hh3 := q3.trans hh0
  have c4 : Steps p.tables e below (s₁.setTop (entryFrame m #[.ref a, .ref b, .int (Int32.ofNat o), .int (Int32.ofNat len), .null] 6)) (T3.setTop (mkF m 27 #[.val (.ref a), .val (.ref b), .val (.int (Int32.ofNat o)), .val (.int (Int32.ofNat len)), .val .null, .unset] [])) := (c2.trans (st3 _ (Steps.refl _))).trans (by
    refine XS.iloadN X3.here hexec rfl (hb hbytes d4) rfl ?_
    refine XS.ifYes X3.here hexec rfl (pc0 := 5) rfl (hb hbytes d5) rfl (i0_ne_t (nz32 (by omega) l0)) (by decide) rfl ?_
    exact Steps.refl _)
  obtain ⟨T5, X5, q5, st5⟩ := X3.sget hexec hown (wk W (.fieldLink "java/lang/String" 38 "java/lang/String" "COMPACT_STRINGS" "Z")) s1 (fun _ _ h => by rw [hh3]; exact h) (g := (mkF m 27 #[.val (.ref a), .val (.ref b), .val (.int (Int32.ofNat o)), .val (.int (Int32.ofNat len)), .val .null, .unset] [])) rfl (hb hbytes d27)
  have hh5 := q5.trans hh3
  have c6 : Steps p.tables e below (s₁.setTop (entryFrame m #[.ref a, .ref b, .int (Int32.ofNat o), .int (Int32.ofNat len), .null] 6)) (T5.setTop (mkF m 30 #[.val (.ref a), .val (.ref b), .val (.int (Int32.ofNat o)), .val (.int (Int32.ofNat len)), .val .null, .unset] [.int z])) := c4.trans (st5 _ (Steps.refl _))
  have c7 : Steps p.tables e below (s₁.setTop (entryFrame m #[.ref a, .ref b, .int (Int32.ofNat o), .int (Int32.ofNat len), .null] 6)) (T5.setTop (mkF m 36 #[.val (.ref a), .val (.ref b), .val (.int (Int32.ofNat o)), .val (.int (Int32.ofNat len)), .val .null, .unset] [.int (Int32.ofNat len), .int (Int32.ofNat o), .ref b])) := c6.trans (by
    refine XS.ifNo X5.here hexec rfl (hb hbytes d30) rfl (i0_eq_f hz) ?_
    refine XS.aloadN X5.here hexec rfl (hb hbytes d33) rfl rfl ?_
    refine XS.iloadN X5.here hexec rfl (hb hbytes d34) rfl ?_
    refine XS.iloadN X5.here hexec rfl (hb hbytes d35) rfl ?_
    exact Steps.refl _)
  obtain ⟨v8, T8, X8, E8, g8⟩ := X5.callS hexec (Cmp3.law l b A o len) hown (wks W (staticW "java/lang/String" 177 Cmp3.yN)) (wk W Cmp3.tab) (W := 0) (Nat.le_of_ble_eq_true rfl) (Nat.le_of_ble_eq_true rfl) (Nat.le_refl _) (by show 0 + len ≤ len; omega) (g := (mkF m 36 #[.val (.ref a), .val (.ref b), .val (.int (Int32.ofNat o)), .val (.int (Int32.ofNat len)), .val .null, .unset] [.int (Int32.ofNat len), .int (Int32.ofNat o), .ref b])) rfl (by rw [hml]; rfl) c7 (argsL := [.ref b, .int (Int32.ofNat o), .int (Int32.ofNat len)]) (rest := []) rfl rfl (by show 2 * 0 + 0 ≤ _; decide) (hb hbytes d36) (⟨rfl, hA.mv X5.warmed.alike hh5, l1, l2, hp⟩)
  obtain ⟨e8, z8⟩ := E8
  obtain ⟨rfl, N, n1, n2, n3, n4, n5, n6⟩ := NewArr.mv _ T5 s _ _ hh5.symm (Vm.Alike.refl _) rfl e8
  rw [hh5] at z8
  have hB1 := hB.keep X8.warmed.alike (n6 _ _ hB.1)
  have hne : s.heap.size ≠ a := (Nat.ne_of_lt (Array.getElem?_eq_some_iff.mp hB.1).1).symm
  have c9 : Steps p.tables e below (s₁.setTop (entryFrame m #[.ref a, .ref b, .int (Int32.ofNat o), .int (Int32.ofNat len), .null] 6)) (T8.setTop (mkF m 39 #[.val (.ref a), .val (.ref b), .val (.int (Int32.ofNat o)), .val (.int (Int32.ofNat len)), .val .null, .unset] [.ref s.heap.size])) := g8
  have c10 : Steps p.tables e below (s₁.setTop (entryFrame m #[.ref a, .ref b, .int (Int32.ofNat o), .int (Int32.ofNat len), .null] 6)) (T8.setTop (mkF m 45 #[.val (.ref a), .val (.ref b), .val (.int (Int32.ofNat o)), .val (.int (Int32.ofNat len)), .val .null, .val (.ref s.heap.size)] [.int (Int32.ofNat N.slots.size), .ref s.heap.size, .ref a])) := by
    have hc : Steps p.tables e below (s₁.setTop (entryFrame m #[.ref a, .ref b, .int (Int32.ofNat o), .int (Int32.ofNat len), .null] 6)) (T8.setTop (mkF m 45 #[.val (.ref a), .val (.ref b), .val (.int (Int32.ofNat o)), .val (.int (Int32.ofNat len)), .val .null, .val (.ref s.heap.size)] [.int (Int32.ofNat len), .ref s.heap.size, .ref a])) := c9.trans (by
      refine XS.astore X8.here hexec rfl (hb hbytes d39) rfl rfl rfl ?_
      refine XS.aloadN X8.here hexec rfl (hb hbytes d41) rfl rfl ?_
      refine XS.aload X8.here hexec rfl (hb hbytes d42) rfl rfl ?_
      refine XS.iloadN X8.here hexec rfl (hb hbytes d44) rfl ?_
      exact Steps.refl _)
    rw [n4]; exact hc
  obtain ⟨v11, T11, X11, E11, g11⟩ := X8.callS hexec (CodL.law l s.heap.size N) hown (wks W (staticW "java/lang/String" 47 CodL.yN)) (wk W CodL.tab) (W := 1) (Nat.le_of_ble_eq_true rfl) (Nat.le_of_ble_eq_true rfl) (Nat.le_refl _) (by show 0 + len + 0 ≤ len; omega) (g := (mkF m 45 #[.val (.ref a), .val (.ref b), .val (.int (Int32.ofNat o)), .val (.int (Int32.ofNat len)), .val .null, .val (.ref s.heap.size)] [.int (Int32.ofNat N.slots.size), .ref s.heap.size, .ref a])) rfl (by rw [hml]; rfl) c10 (argsL := [.ref s.heap.size, .int (Int32.ofNat N.slots.size)]) (rest := [.ref a]) rfl rfl (by show 2 * 0 + (1 + 0) ≤ _; decide) (hb hbytes d45) (⟨rfl, n1⟩)
  obtain ⟨rfl, q11⟩ := E11
  have hB11 := hB1.mv (X8.warmed.alike.symm.trans X11.warmed.alike) q11
  have c12 : Steps p.tables e below (s₁.setTop (entryFrame m #[.ref a, .ref b, .int (Int32.ofNat o), .int (Int32.ofNat len), .null] 6)) (T11.setTop (mkF m 48 #[.val (.ref a), .val (.ref b), .val (.int (Int32.ofNat o)), .val (.int (Int32.ofNat len)), .val .null, .val (.ref s.heap.size)] [.int 0, .ref a])) := g11
  obtain ⟨T13, X13, p13, bl13, sl13, st13⟩ := X11.finit hexec hown (wk W (.fieldLink "java/lang/String" 15 "java/lang/String" "coder" "B")) (Or.inr ⟨_, (wk W (.laysFinal "java/lang/String" "java/lang/String" "coder" "B"))⟩) (Or.inl ⟨rfl, hnm⟩) f2 (Or.inl rfl) hB11 (t := .byte) (by decide +kernel) rfl (g := (mkF m 48 #[.val (.ref a), .val (.ref b), .val (.int (Int32.ofNat o)), .val (.int (Int32.ofNat len)), .val .null, .val (.ref s.heap.size)] [.int 0, .ref a])) rfl (rest := []) rfl (hb hbytes d48)
  have c14 : Steps p.tables e below (s₁.setTop (entryFrame m #[.ref a, .ref b, .int (Int32.ofNat o), .int (Int32.ofNat len), .null] 6)) (T13.setTop (mkF m 54 #[.val (.ref a), .val (.ref b), .val (.int (Int32.ofNat o)), .val (.int (Int32.ofNat len)), .val .null, .val (.ref s.heap.size)] [.ref s.heap.size, .ref a])) := (c12.trans (st13 _ (Steps.refl _))).trans (by
    refine XS.aloadN X13.here hexec rfl (hb hbytes d51) rfl rfl ?_
    refine XS.aload X13.here hexec rfl (hb hbytes d52) rfl rfl ?_
    exact Steps.refl _)
  obtain ⟨T15, X15, p15, bl15, sl15, st15⟩ := X13.finit hexec hown (wk W (.fieldLink "java/lang/String" 9 "java/lang/String" "value" "[B")) (Or.inr ⟨_, (wk W (.laysFinal "java/lang/String" "java/lang/String" "value" "[B"))⟩) (Or.inl ⟨rfl, hnm⟩) f1 (Or.inl rfl) bl13 (t := (.array .byte)) (by decide +kernel) rfl (g := (mkF m 54 #[.val (.ref a), .val (.ref b), .val (.int (Int32.ofNat o)), .val (.int (Int32.ofNat len)), .val .null, .val (.ref s.heap.size)] [.ref s.heap.size, .ref a])) rfl (rest := []) rfl (hb hbytes d54)
  have c16 : Steps p.tables e below (s₁.setTop (entryFrame m #[.ref a, .ref b, .int (Int32.ofNat o), .int (Int32.ofNat len), .null] 6)) (T15.setTop (mkF m 57 #[.val (.ref a), .val (.ref b), .val (.int (Int32.ofNat o)), .val (.int (Int32.ofNat len)), .val .null, .val (.ref s.heap.size)] [])) := c14.trans (st15 _ (Steps.refl _))
  have ap := apart (Or.inr ⟨_, (wk W (.laysFinal "java/lang/String" "java/lang/String" "value" "[B"))⟩) (Or.inr ⟨_, (wk W (.laysFinal "java/lang/String" "java/lang/String" "coder" "B"))⟩) f1 f2 (t₁ := .array .byte) (t₂ := .byte) (by decide +kernel) (by decide +kernel) (by decide)
  have al := X8.warmed.alike.symm.trans X15.warmed.alike
  have n7 : T11.heap[s.heap.size]? = some N := by rw [q11]; exact n1.1
  exact ⟨T15, none, _, _, _, X15, by simp, rfl, by omega, (fun _ => rfl), ⟨rfl, _, N, bl15, ((Same.refl D _).set _ (by simp)).set _ (by simp), sl15, (Cell.slots_setSlot_ne _ ap).trans sl13, n1.keep al (p15.other hne (p13.other hne n7)), n2, by rw [al.findClass]; exact n3, n4, n5, fun y c h1 h2 => p15.other h1 (p13.other h1 (by rw [q11]; exact n6 y c h2)), by rw [p15.2.2, p13.2.2, q11]; exact z8⟩, fun fs hl => c16.trans (X15.returnOut hexec hret (hb hbytes d57) hl)⟩
end New4
namespace New1
def yN : MethodName := ⟨"java/lang/String", "<init>", "([C)V"⟩
abbrev yB : ByteArray := jdk_42_method_3_code
theorem d0 : decode yB 0 = .ok (.aload_n 0, 1) := by decide +kernel
theorem d1 : decode yB 1 = .ok (.aload_n 1, 1) := by decide +kernel
theorem d2 : decode yB 2 = .ok (.iconst 0, 1) := by decide +kernel
theorem d3 : decode yB 3 = .ok (.aload_n 1, 1) := by decide +kernel
theorem d4 : decode yB 4 = .ok (.arraylength, 1) := by decide +kernel
theorem d5 : decode yB 5 = .ok (.aconst_null, 1) := by decide +kernel
theorem d6 : decode yB 6 = .ok (.invokespecial 27, 3) := by decide +kernel
theorem d9 : decode yB 9 = .ok (.return_, 1) := by decide +kernel
def site : List Cond := [New4.tab] ++ initW "java/lang/String" 27 New4.yN
def tab : Cond := tabOf yN yB 2 none site
def P (a : Addr) (D : Cell) (fV fC : Field) (b : Addr) (A : Cell) (z : Int32) (args : Array Value) (s : State) : Prop := args = #[.ref a, .ref b] ∧ Blank "java/lang/String" a D s ∧ Found "java/lang/String" "value" "[B" fV s ∧ Found "java/lang/String" "coder" "B" fC s ∧ Ch b A s ∧ StaticIs s "java/lang/String" "COMPACT_STRINGS" "Z" (.int z) ∧ ¬ z = 0 ∧ 0 < A.slots.size ∧ A.slots.size ≤ 536870912 ∧ ∀ i, i < A.slots.size → ¬ 255 < cv A i
def E (a : Addr) (D : Cell) (fV fC : Field) (A : Cell) (r : Option Value) (s u : State) : Prop := Got a D fV fC A 0 A.slots.size r s u
/-- new String(chars), not empty, no char above 255: a Latin-1 String of their low bytes -/
theorem law (l : Launch) (a : Addr) (D : Cell) (fV fC : Field) (b : Addr) (A : Cell) (z : Int32) : Law l yN 2 1 3 52 yB 2 none site (P a D fV fC b A z) (E a D fV fC A) [⟨a, fC.slot⟩, ⟨a, fV.slot⟩] 1 A.slots.size := by
  refine Law.of_walk (plainFor_of_name (by decide +kernel)) (by decide +kernel) (by decide +kernel) (by decide) (fun _ _ h => by rw [h.1]; rfl) (fun _ U U' hal hh h => ⟨h.1, h.2.1.mv hal hh, h.2.2.1.al hal, h.2.2.2.1.al hal, h.2.2.2.2.1.mv hal hh, h.2.2.2.2.2.1.there hal hh, h.2.2.2.2.2.2⟩) (fun r U U' V V' h1 hal h2 h => Got.mv r U U' V V' h1 hal h2 h) ?_
  intro p e s m args below meth c s₁ X0 hexec hbytes hml hret hlk hnm hown hh0 W hP
  obtain ⟨rfl, hB, f1, f2, hA, s1, hz, l0, l2, hp⟩ := hP
  have c1 : Steps p.tables e below (s₁.setTop (entryFrame m #[.ref a, .ref b] 2)) (s₁.setTop (mkF m 0 #[.val (.ref a), .val (.ref b)] [])) := entry rfl
  have c2 : Steps p.tables e below (s₁.setTop (entryFrame m #[.ref a, .ref b] 2)) (s₁.setTop (mkF m 6 #[.val (.ref a), .val (.ref b)] [.null, .int (Int32.ofNat A.slots.size), .int 0, .ref b, .ref a])) := c1.trans (by
    refine XS.aloadN X0.here hexec rfl (hb hbytes d0) rfl rfl ?_
    refine XS.aloadN X0.here hexec rfl (hb hbytes d1) rfl rfl ?_
    refine iconstV X0.here hexec rfl 0 (hb hbytes d2) (by decide) ?_
    refine XS.aloadN X0.here hexec rfl (hb hbytes d3) rfl rfl ?_
    refine X0.alen hexec (hA.1.mv X0.warmed.alike hh0) rfl rfl (hb hbytes d4) ?_
    refine XS.aconstNull X0.here hexec rfl (hb hbytes d5) ?_
    exact Steps.refl _)
  obtain ⟨v3, T3, X3, E3, g3⟩ := X0.callN hexec (New4.law l a D fV fC b A z 0 A.slots.size) rfl hown (wks W (initW "java/lang/String" 27 New4.yN)) (W New4.tab (by simp only [site, List.mem_cons, List.mem_append, true_or, or_true])) (W := 0) (Nat.le_of_ble_eq_true rfl) (Nat.le_of_ble_eq_true rfl) (Nat.le_refl _) (by show 0 + A.slots.size ≤ A.slots.size; omega) (g := (mkF m 6 #[.val (.ref a), .val (.ref b)] [.null, .int (Int32.ofNat A.slots.size), .int (Int32.ofNat 0), .ref b, .ref a])) rfl (by rw [hml]; rfl) c2 (argsL := [.ref b, .int (Int32.ofNat 0), .int (Int32.ofNat A.slots.size), .null]) (rest := []) rfl rfl (by show 2 * 0 + 0 ≤ _; decide) (hb hbytes d6) (⟨rfl, hB.mv X0.warmed.alike hh0, f1.al X0.warmed.alike, f2.al X0.warmed.alike, hA.mv X0.warmed.alike hh0, s1.there X0.warmed.alike hh0, hz, l0, by omega, l2, fun i hi => by rw [Nat.zero_add]; exact hp i hi⟩)
  have e0 := Got.mv _ s₁ s _ _ hh0.symm (Vm.Alike.refl _) rfl E3
  obtain rfl := e0.1
  have c4 : Steps p.tables e below (s₁.setTop (entryFrame m #[.ref a, .ref b] 2)) (T3.setTop (mkF m 9 #[.val (.ref a), .val (.ref b)] [])) := g3
  exact ⟨T3, none, _, _, _, X3, by simp, rfl, by omega, (fun _ => rfl), e0, fun fs hl => c4.trans (X3.returnOut hexec hret (hb hbytes d9) hl)⟩
theorem pays {l : Launch} {R : Room} {p : Program} {e : Env} {below : List Frame} {s : State} {sargs : Array Value} {len W : Nat} (a : Addr) (D : Cell) (fV fC : Field) (b : Addr) (A : Cell) (z : Int32) (htab : tab.before sargs s = true) (hfr : 4 ≤ R.frames) (hlo : W + 65 ≤ R.locals) :
    Back l R p e below s sargs yN len W (fun A₁ a₁ => A₁.cells + 1 ≤ R.cells ∧ A₁.slots + A.slots.size ≤ R.slots ∧ P a D fV fC b A z a₁ A₁.U) (fun A₁ _ v₁ B₁ => E a D fV fC A v₁ A₁.U B₁.U ∧ B₁.locs = A₁.locs ++ [⟨a, fC.slot⟩, ⟨a, fV.slot⟩] ∧ B₁.cells = A₁.cells + 1 ∧ B₁.slots = A₁.slots + A.slots.size) :=
  (law l a D fV fC b A z).pays htab hfr (by omega)
end New1
/-- the byte, read back as charAt reads it, is the char -/
theorem lo8_mask {x : Int32} (h0 : ¬ x < 0) (h1 : ¬ 255 < x) : lo8 x &&& 255 = x := by
  have t : ∀ k : Fin 256, lo8 (Int32.ofNat k.val) &&& 255 = Int32.ofNat k.val := by decide +kernel
  rw [Int32.lt_iff_toInt_lt] at h0 h1
  have e0 : (0 : Int32).toInt = 0 := rfl
  have e1 : (255 : Int32).toInt = 255 := rfl
  obtain ⟨k, hk⟩ : ∃ k : Nat, x.toInt = k := ⟨x.toInt.toNat, by omega⟩
  have hx : x = Int32.ofNat k := Int32.toInt_inj.mp (by rw [hk, Int32.toInt_ofNat_small (by omega)])
  rw [hx]
  exact t ⟨k, by omega⟩
end StrChars
namespace StrChars.Road
open Jvm Sem ClassFile Op Lib Jvm.Stand Jvm.Free Jvm.Free.XT
open Jvm.Lib.Cold (StaticIs)
abbrev ST : String := "java/lang/String"
/-- every table word that New1's law asks, flat -/
abbrev words : List Jvm.Cond := [.code New1.yN New1.yB 2 none, .initialized ST, .methodLink ST 27 New4.yN, .instanceMethod New4.yN,
  .code New4.yN New4.yB 6 none, .fieldLink ST 38 ST "COMPACT_STRINGS" "Z", .laysFinal ST ST "value" "[B", .fieldLink ST 9 ST "value" "[B", .laysFinal ST ST "coder" "B", .fieldLink ST 15 ST "coder" "B",
  .methodLink ST 1 Lib.objectInit, .instanceMethod Lib.objectInit, .code Lib.objectInit ⟨#[0xb1]⟩ 1 none, .methodLink ST 177 Cmp3.yN, .static Cmp3.yN, .methodLink ST 47 CodL.yN, .static CodL.yN,
  .code Cmp3.yN Cmp3.yB 6 (some (.array .byte)), .initialized U16, .arrayClass .byte, .methodLink U16 115 Cmp5.yN, .static Cmp5.yN, .code Cmp5.yN Cmp5.yB 7 (some .int), .code CodL.yN CodL.yB 2 (some .byte)]
theorem tab_of {a : Array Value} {s : State} (h : ∀ w ∈ words, w.before a s = true) : New1.tab.before a s = true := by
  have h5 : Cmp5.tab.before a s = true := unparts (wk h (.code Cmp5.yN Cmp5.yB 7 (some .int))) (wks h (.initialized Cmp5.yN.cls :: Cmp5.site))
  have hc : CodL.tab.before a s = true := unparts (wk h (.code CodL.yN CodL.yB 2 (some .byte))) (wks h (.initialized CodL.yN.cls :: CodL.site))
  have q5 : ∀ w ∈ Cmp5.tab :: words, w.before a s = true := fun w hw => (List.mem_cons.mp hw).elim (fun e => e ▸ h5) (h w)
  have h3 : Cmp3.tab.before a s = true := unparts (wk q5 (.code Cmp3.yN Cmp3.yB 6 (some (.array .byte)))) (wks q5 (.initialized Cmp3.yN.cls :: Cmp3.site))
  have q3 : ∀ w ∈ Cmp3.tab :: CodL.tab :: words, w.before a s = true := fun w hw => (List.mem_cons.mp hw).elim (fun e => e ▸ h3) fun hw => (List.mem_cons.mp hw).elim (fun e => e ▸ hc) (h w)
  have h4 : New4.tab.before a s = true := unparts (wk q3 (.code New4.yN New4.yB 6 none)) (wks q3 (.initialized New4.yN.cls :: New4.site))
  have q4 : ∀ w ∈ New4.tab :: words, w.before a s = true := fun w hw => (List.mem_cons.mp hw).elim (fun e => e ▸ h4) (h w)
  exact unparts (wk q4 (.code New1.yN New1.yB 2 none)) (wks q4 (.initialized New1.yN.cls :: New1.site))
/-- the words ride from the start Z to the walk's own state -/
theorem moved {Z s : State} {a0 args : Array Value} (hZ : Z.Warmed39 s.vm) (hw : ∀ d ∈ words, d.before a0 Z = true) : ∀ d ∈ words, d.before args s = true := fun d hd => by
  have q := hw d hd
  have t : ∀ d ∈ words, d = .arrayClass .byte ∨ (d.onTables && d.keepsFace) = true := by decide +kernel
  rcases t d hd with rfl | t
  · exact RoadKit.mvA hZ q
  · exact RoadKit.mv hZ q t
/-- WHAT COMES BACK, over the tables of the start Z: h the heap at the call, h' behind it -/
def Q (Z : State) (x : Addr) (A : Cell) (h : Heap) (v : Option Value) (h' : Heap) (L : List Loc) : Prop := v = none ∧ (∀ y ∈ L, y.base = x) ∧ RoadKit.Keep h h' [x] ∧ h'.size = h.size + 1 ∧ RoadKit.Exa Z h' x ST ∧ RoadKit.Fld Z h' x ST "value" "[B" (.ref h.size) ∧ RoadKit.Fld Z h' x ST "coder" "B" (.int 0) ∧
  (∃ V : Cell, RoadKit.Arr Z h' h.size V .byte ∧ V.vm = .none ∧ Z.vm.findClass "[B" = some V.cls ∧ V.slots.size = A.slots.size ∧ ∀ j, j < A.slots.size → V.slots[j]? = some (.int (lo8 (cv A j)))) ∧
  ∀ (O n d : String) (w : Value), RoadKit.Fld Z h x O n d w → RoadKit.slotOf Z O n d ≠ RoadKit.slotOf Z ST "value" "[B" → RoadKit.slotOf Z O n d ≠ RoadKit.slotOf Z ST "coder" "B" → RoadKit.Fld Z h' x O n d w
/-- **new String(chars) AT A CALL, IN THE ROAD'S FORM**: for specialBack behind newO: x the fresh String, b the char[] with the cell A -/
theorem back {p : Program} {l : Launch} {e : Env} {R : Room} {s : State} {args : Array Value} {below : List Frame} {len W : Nat} {Z : State} {a0 : Array Value} {h : Heap} (hZ : Z.Warmed39 s.vm) (hw : ∀ d ∈ words, d.before a0 Z = true) {kI : Nat} (wi : (Jvm.Cond.instantiable ST kI).before a0 Z = true)
    {x b : Addr} {A : Cell} {z : Int32} {v0 c0 : Value} (E : RoadKit.Exa Z h x ST) (V : RoadKit.Fld Z h x ST "value" "[B" v0) (C : RoadKit.Fld Z h x ST "coder" "B" c0) (K : RoadKit.Arr Z h b A .char) (hty : Typed .char A) (S : RoadKit.Sta Z h ST "COMPACT_STRINGS" "Z" (.int z)) (hz : ¬ z = 0)
    (l0 : 0 < A.slots.size) (l2 : A.slots.size ≤ 536870912) (hp : ∀ i, i < A.slots.size → ¬ 255 < cv A i) (hfr : 4 ≤ R.frames) (hlo : W + 65 ≤ R.locals) :
    Back l R p e below s args New1.yN len W (fun P a => a = #[.ref x, .ref b] ∧ P.U.heap = h ∧ P.cells + 1 ≤ R.cells ∧ P.slots + A.slots.size ≤ R.slots)
      (fun P _ v B => ∃ L, Q Z x A h v B.U.heap L ∧ B.locs = P.locs ++ L ∧ B.cells = P.cells + 1 ∧ B.slots = P.slots + A.slots.size) := by
  intro m meth c P g ig mk a X hg hsize hdg hW hn hp'
  obtain ⟨rfl, rfl, r1, r2⟩ := hp'
  have al : Z.vm.Alike P.U.vm := hZ.alike.trans X.warmed.alike
  obtain ⟨D, cfV, kV, iV, fV, hD, gV, stV, knV, obV, asV, slV⟩ := id V
  obtain ⟨D', cfC, kC, iC, fC, hD', gC, stC, -, -, asC, slC⟩ := id C
  cases hD.symm.trans hD'
  obtain ⟨D2, kD, e1, e2, e3, e4, e5⟩ := id E
  cases hD.symm.trans e1
  obtain ⟨c2, k2, i1, i2, i3, -⟩ := Cond.instantiable_spec wi
  cases e2.symm.trans i1
  cases e3.symm.trans i2
  obtain ⟨kU, u1, u2⟩ := al.2.2 _ _ e3
  have hB : Blank ST x D P.U := ⟨hD, ⟨knV, fun q hq => by rw [hq] at obV; cases obV⟩, by rw [al.findClass]; exact e2, kU, u1, by rw [u2]; exact i3, by rw [u2]; exact e5 i3⟩
  have F1 : Found ST "value" "[B" fV P.U := ⟨SBG.found_only al ⟨cfV, kV, iV, gV⟩, stV⟩
  have F2 : Found ST "coder" "B" fC P.U := ⟨SBG.found_only al ⟨cfC, kC, iC, gC⟩, stC⟩
  have hA : Ch b A P.U := ⟨⟨K.1, State.isArrayOf_alike al K.2.1, K.2.2, by omega⟩, hty⟩
  have hS : StaticIs P.U ST "COMPACT_STRINGS" "Z" (.int z) := by
    obtain ⟨cfS, iS, kS, fS, st, cS, t1, t2, t3, t4, t5, t6, t7⟩ := S
    exact StaticIs.there (s := { Z with heap := P.U.heap }) ⟨cfS, iS, kS, fS, st, cS, t1, t2, t3, t4, t5, (fun q => by rw [q] at t6; cases t6), t7⟩ al rfl
  obtain ⟨v, B, X', ⟨⟨hv, E', V', q1, q2, q3, q4, q5, q6, q7, q8, q9, q10, q11⟩, hl, hc, hs⟩, st⟩ := New1.pays x D fV fC b A z (tab_of (moved hZ hw)) hfr hlo m meth c P g ig mk _ X hg hsize hdg hW hn ⟨r1, r2, rfl, hB, F1, F2, hA, hS, hz, l0, l2, hp⟩
  have al' : Z.vm.Alike B.U.vm := hZ.alike.trans X'.warmed.alike
  have hsz : E'.slots.size = D.slots.size := by
    obtain ⟨-, -, -, kB, w1, w2, w3⟩ := q1
    obtain ⟨kB', y1, y2⟩ := al'.2.2 _ _ e3
    rw [q2.2.1] at w1
    cases w1.symm.trans y1
    rw [w3, e5 i3, y2]
  refine ⟨v, B, X', ⟨_, ⟨hv, ?_, ⟨by omega, fun y cy hy hn' => q10 y cy (by simpa using hn') hy, fun y cy hy => ?_⟩, q11, ⟨E', _, q1.1, by rw [q2.2.1]; exact e2, by rw [q2.2.1]; exact e3, by rw [q2.1]; exact obV, fun _ => by rw [hsz]; exact e5 i3⟩,
    ⟨E', cfV, kV, iV, fV, q1.1, gV, stV, by rw [q2.1]; exact knV, by rw [q2.1]; exact obV, by rw [q2.2.1]; exact asV, q3⟩, ⟨E', cfC, kC, iC, fC, q1.1, gC, stC, by rw [q2.1]; exact knV, by rw [q2.1]; exact obV, by rw [q2.2.1]; exact asC, q4⟩,
    ⟨V', ⟨q5.1, State.isArrayOf_alike al'.symm q5.2.1, q5.2.2.1⟩, q6, by rw [← al'.findClass]; exact q7, q8, fun j hj => by have := q9 j hj; rwa [Nat.zero_add] at this⟩, fun O n d w F n1 n2 => ?_⟩, hl, hc, hs⟩, st⟩
  · intro y hy
    simp only [List.mem_cons, List.not_mem_nil, or_false] at hy
    rcases hy with rfl | rfl <;> rfl
  · by_cases q : y = x
    · subst q
      cases hD.symm.trans hy
      exact ⟨E', q1.1, q2.2.1, q2.1, hsz⟩
    · exact ⟨cy, q10 y cy q hy, rfl, rfl, rfl⟩
  · obtain ⟨D3, cf, k, i, f, g1, g2, g3, g4, g5, g6, g7⟩ := F
    cases hD.symm.trans g1
    simp only [RoadKit.slotOf, g2, gV, gC, Option.map_some, Option.getD_some] at n1 n2
    exact ⟨E', cf, k, i, f, q1.1, g2, g3, by rw [q2.1]; exact g4, by rw [q2.1]; exact g5, by rw [q2.2.1]; exact g6, by rw [q2.2.2 f.slot (by simp [n1, n2])]; exact g7⟩
end StrChars.Road
namespace StrChars.Road
open Jvm Sem ClassFile Op Lib Jvm.Stand Jvm.Free Jvm.Free.XT
/-- WHAT COMES BACK, the byte[] as a list of values -/
def QA (Z : State) (x : Addr) (zn : Int32) (cs : List Int32) (h : Heap) (v : Option Value) (h' : Heap) (L : List Loc) : Prop := v = none ∧ (∀ y ∈ L, y.base = x) ∧ RoadKit.Keep h h' [x] ∧ h'.size = h.size + 1 ∧ RoadKit.Exa Z h' x ST ∧ RoadKit.Fld Z h' x ST "value" "[B" (.ref h.size) ∧ RoadKit.Fld Z h' x ST "coder" "B" (.int 0) ∧
  (∃ kb, Z.vm.findClass "[B" = some kb ∧ RoadKit.Arv Z h' h.size kb .byte zn (cs.map fun c => .int (lo8 c)) (.int 0)) ∧
  ∀ (O n d : String) (w : Value), RoadKit.Fld Z h x O n d w → RoadKit.slotOf Z O n d ≠ RoadKit.slotOf Z ST "value" "[B" → RoadKit.slotOf Z O n d ≠ RoadKit.slotOf Z ST "coder" "B" → RoadKit.Fld Z h' x O n d w
/-- **new String(chars) AT A CALL, THE ARRAYS AS LISTS**: the char[] at b holds cs, not empty, no char above 255 -/
theorem backArv {p : Program} {l : Launch} {e : Env} {R : Room} {s : State} {args : Array Value} {below : List Frame} {len W : Nat} {Z : State} {a0 : Array Value} {h : Heap} (hZ : Z.Warmed39 s.vm) (hw : ∀ d ∈ words, d.before a0 Z = true) {kI : Nat} (wi : (Jvm.Cond.instantiable ST kI).before a0 Z = true)
    {x b : Addr} {k : ClassId} {zn z : Int32} {cs : List Int32} {dv v0 c0 : Value} (E : RoadKit.Exa Z h x ST) (V : RoadKit.Fld Z h x ST "value" "[B" v0) (C : RoadKit.Fld Z h x ST "coder" "B" c0) (K : RoadKit.Arv Z h b k .char zn (cs.map Value.int) dv) (S : RoadKit.Sta Z h ST "COMPACT_STRINGS" "Z" (.int z)) (hz : ¬ z = 0)
    (hlen : zn.toNatClampNeg = cs.length) (h0 : 0 < cs.length) (hbig : cs.length ≤ 536870912) (hall : ∀ c ∈ cs, ¬ 255 < c) (hfr : 4 ≤ R.frames) (hlo : W + 65 ≤ R.locals) :
    Back l R p e below s args New1.yN len W (fun P a => a = #[.ref x, .ref b] ∧ P.U.heap = h ∧ P.cells + 1 ≤ R.cells ∧ P.slots + cs.length ≤ R.slots)
      (fun P _ v B => ∃ L, QA Z x zn cs h v B.U.heap L ∧ B.locs = P.locs ++ L ∧ B.cells = P.cells + 1 ∧ B.slots = P.slots + cs.length) := by
  obtain ⟨A, K1, K2, K3, K4, K5, K6⟩ := K
  have e : A.slots.size = cs.length := K3.trans hlen
  have hat : ∀ (i : Nat) (hi : i < cs.length), A.slots[i]? = some (.int cs[i]) := fun i hi => by rw [K5 i (by omega)]; simp [List.getD_eq_getElem?_getD, hi]
  have hcv : ∀ (i : Nat) (hi : i < cs.length), cv A i = cs[i] := fun i hi => by unfold cv; rw [hat i hi]
  have hty : Typed .char A := fun i v hv => by
    have hi : i < A.slots.size := (Array.getElem?_eq_some_iff.mp hv).1
    have q := K5 i hi
    rw [hv] at q
    rw [Option.some.inj q]
    exact K6 i hi
  refine Back.mono (back hZ hw wi E V C K1 hty S hz (by omega) (by omega) (fun i hi => by rw [hcv i (by omega)]; exact hall _ (List.getElem_mem _)) hfr hlo) (fun P a hp => ⟨hp.1, hp.2.1, hp.2.2.1, by rw [e]; exact hp.2.2.2⟩) (fun P a v B hp hq => ?_)
  obtain ⟨L, ⟨q1, q2, q3, q4, q5, q6, q7, ⟨V', v1, v2, v3, v4, v5⟩, q9⟩, hl, hc, hs⟩ := hq
  refine ⟨L, ⟨q1, q2, q3, q4, q5, q6, q7, ⟨V'.cls, v3, V', v1, rfl, by rw [v4, e, hlen], K4, fun i hi => ?_, fun i hi => ?_⟩, q9⟩, hl, hc, by rw [hs, e]⟩
  · have hi' : i < cs.length := by omega
    rw [v5 i (by omega), hcv i hi']; simp [List.getD_eq_getElem?_getD, hi']
  · have hi' : i < cs.length := by omega
    simp only [List.getD_eq_getElem?_getD, List.getElem?_map, List.getElem?_eq_getElem hi', Option.map_some, Option.getD_some]
    exact fits_lo8 _
end StrChars.Road
namespace StrChars.Road
open Jvm Sem ClassFile Op Lib Jvm.Stand Jvm.Free Jvm.Free.XT
/-- WHAT COMES BACK, in the writer's own shape -/
def QV (Z : State) (x : Addr) (N : Int32) (bs : List Int32) (h : Heap) (n0 : Nat) (v : Option Value) (h' : Heap) (L : List Loc) : Prop := v = none ∧ RoadKit.Fr n0 L ∧ RoadKit.Keep h h' [x] ∧ RoadKit.Exa Z h' x ST ∧ RoadKit.Fld Z h' x ST "coder" "B" (.int 0) ∧
  ∃ (t : Addr) (kb : ClassId), n0 ≤ t ∧ h.size ≤ t ∧ ¬ t = x ∧ RoadKit.Fld Z h' x ST "value" "[B" (.ref t) ∧ RoadKit.Arv Z h' t kb .byte N (bs.map Value.int) (.int 0)
/-- **new String(chars) AT A CALL, FOR THE WRITER**: a char[] of n known ints, each 0 to 255 -/
theorem backV {p : Program} {l : Launch} {e : Env} {R : Room} {s : State} {args : Array Value} {below : List Frame} {len W : Nat} {Z : State} {a0 : Array Value} {h : Heap} (hZ : Z.Warmed39 s.vm) (hw : ∀ d ∈ words, d.before a0 Z = true) {kI : Nat} (wi : (Jvm.Cond.instantiable ST kI).before a0 Z = true)
    {x b : Addr} {kC : ClassId} {cs bs : List Int32} {d v0 c0 : Value} {z N : Int32} {n n0 : Nat} (hx0 : n0 ≤ x) (hh0 : n0 ≤ h.size) (E : RoadKit.Exa Z h x ST) (V : RoadKit.Fld Z h x ST "value" "[B" v0) (C : RoadKit.Fld Z h x ST "coder" "B" c0) (K : RoadKit.Arv Z h b kC .char N (cs.map Value.int) d) (S : RoadKit.Sta Z h ST "COMPACT_STRINGS" "Z" (.int z)) (hz : ¬ z = 0)
    (hn : cs.length = n) (hN : N = Int32.ofNat n) (l0 : 0 < n) (l2 : n ≤ 4000) (hp : ∀ c ∈ cs, ¬ c < 0 ∧ ¬ (255 : Int32) < c) (hb : bs = cs.map (fun c => c.toInt8.toInt32)) (hfr : 4 ≤ R.frames) (hlo : W + 65 ≤ R.locals) :
    Back l R p e below s args (⟨"java/lang/String", "<init>", "([C)V"⟩ : MethodName) len W (fun P a => a = #[.ref x, .ref b] ∧ P.U.heap = h ∧ P.cells + 1 ≤ R.cells ∧ P.slots + n ≤ R.slots)
      (fun P _ v B => ∃ L, QV Z x N bs h n0 v B.U.heap L ∧ B.locs = P.locs ++ L ∧ B.cells = P.cells + 1 ∧ B.slots = P.slots + n) := by
  subst hn hN hb
  refine Back.mono (backArv hZ hw wi E V C K S hz (n32 (by omega)) l0 (by omega) (fun c hc => (hp c hc).2) hfr hlo) (fun P a hp => hp) (fun P a v B hp hq => ?_)
  obtain ⟨L, ⟨q1, q2, q3, q4, q5, q6, q7, ⟨kb, v1, v2⟩, q9⟩, hl, hc, hs⟩ := hq
  exact ⟨L, ⟨q1, fun y hy => by rw [q2 y hy]; exact hx0, q3, q5, q7, h.size, kb, hh0, Nat.le_refl _, Nat.ne_of_gt E.lt, q6, by rw [List.map_map]; exact v2⟩, hl, hc, hs⟩
end StrChars.Road
namespace StrChars
open Jvm Sem ClassFile Op Lib Jvm.Stand Jvm.Free.XT Jvm.Free.ALB Jvm.Free.JM Jvm.Free
open Jvm.Lib.Cold (StaticIs)
def hi8 (x : Int32) : Int32 := lo8 (x >>> ((8 : Int32) &&& 31))
/-- what StringUTF16.getChar makes of two bytes -/
def pairCh (u v : Int32) : Int32 := (((u &&& 255) <<< ((0 : Int32) &&& 31)) ||| ((v &&& 255) <<< ((8 : Int32) &&& 31))).toUInt32.toUInt16.toUInt32.toInt32
theorem shr0 (c : Int32) : c >>> ((0 : Int32) &&& 31) = c := by
  have e : ((0 : Int32) &&& 31) = 0 := by decide
  rw [e]
  apply Int32.toBitVec_inj.mp
  rw [Int32.toBitVec_shiftRight]
  have e1 : ((0 : Int32).toBitVec.smod 32) = 0#32 := by decide
  rw [e1, BitVec.sshiftRight_eq']
  exact BitVec.sshiftRight_zero
theorem lo8_and (x : Int32) : (lo8 x &&& 255).toBitVec.toNat = x.toBitVec.toNat % 256 := by
  have h : (lo8 x).toBitVec = (x.toBitVec.signExtend 8).signExtend 32 := by rw [lo8, Int8.toBitVec_toInt32, Int32.toBitVec_toInt8]
  rw [Int32.toBitVec_and, BitVec.toNat_and, h]
  have e : ((x.toBitVec.signExtend 8).signExtend 32).toNat % 256 = x.toBitVec.toNat % 256 := by
    rw [BitVec.toNat_signExtend]
    have hlt := x.toBitVec.isLt
    simp only [BitVec.toNat_setWidth, BitVec.toNat_signExtend]
    split <;> split <;> omega
  rw [← e]
  exact Nat.and_two_pow_sub_one_eq_mod _ 8
theorem pair_says {c : Int32} (h0 : ¬ c < 0) (h1 : ¬ 65535 < c) : pairCh (lo8 c) (hi8 c) = c := by
  rw [Int32.lt_iff_toInt_lt] at h0 h1
  have e0 : (0 : Int32).toInt = 0 := rfl
  have e1 : (65535 : Int32).toInt = 65535 := rfl
  have hc : c.toInt = c.toBitVec.toNat := by
    have := c.toBitVec.isLt
    have e : c.toInt = c.toBitVec.toInt := rfl
    rw [e] at h0 h1
    rw [e]
    rw [BitVec.toInt_eq_toNat_cond] at h0 h1 ⊢
    split at h0 <;> split <;> omega
  have hn : c.toBitVec.toNat < 65536 := by omega
  have a1 := lo8_and c
  have a2 : (hi8 c &&& 255).toBitVec.toNat = c.toBitVec.toNat / 256 := by
    rw [hi8, lo8_and]
    have e : ((8 : Int32) &&& 31) = 8 := by decide
    rw [e, Int32.toBitVec_shiftRight]
    have e2 : ((8 : Int32).toBitVec.smod 32) = 8#32 := by decide
    rw [e2, BitVec.sshiftRight_eq', BitVec.toNat_sshiftRight_of_msb_false (by rw [BitVec.msb_eq_false_iff_two_mul_lt]; omega)]
    show c.toBitVec.toNat >>> 8 % 256 = _
    rw [Nat.shiftRight_eq_div_pow]
    omega
  unfold pairCh
  apply Int32.toBitVec_inj.mp
  apply BitVec.eq_of_toNat_eq
  have f0 : ((0 : Int32) &&& 31) = 0 := by decide
  have f8 : ((8 : Int32) &&& 31) = 8 := by decide
  rw [f0, f8]
  have g : (((lo8 c &&& 255) <<< (0 : Int32)) ||| ((hi8 c &&& 255) <<< (8 : Int32))).toBitVec.toNat = c.toBitVec.toNat := by
    rw [Int32.toBitVec_or, Int32.toBitVec_shiftLeft, Int32.toBitVec_shiftLeft]
    have s0 : ((0 : Int32).toBitVec.smod 32) = 0#32 := by decide
    have s8 : ((8 : Int32).toBitVec.smod 32) = 8#32 := by decide
    rw [s0, s8, BitVec.toNat_or]
    simp only [BitVec.shiftLeft_eq', BitVec.toNat_shiftLeft, a1, a2]
    show (c.toBitVec.toNat % 256) <<< 0 % 2 ^ 32 ||| (c.toBitVec.toNat / 256) <<< 8 % 2 ^ 32 = _
    rw [Nat.shiftLeft_zero, Nat.mod_eq_of_lt (show c.toBitVec.toNat % 256 < 2 ^ 32 by omega), Nat.mod_eq_of_lt (show (c.toBitVec.toNat / 256) <<< 8 < 2 ^ 32 by rw [Nat.shiftLeft_eq]; omega), Nat.or_comm, ← Nat.shiftLeft_add_eq_or_of_lt (by omega), Nat.shiftLeft_eq]
    omega
  show BitVec.toNat (((((lo8 c &&& 255) <<< (0 : Int32)) ||| ((hi8 c &&& 255) <<< (8 : Int32))).toBitVec.setWidth 16).setWidth 32) = _
  rw [BitVec.toNat_setWidth, BitVec.toNat_setWidth, g]
  omega
end StrChars
namespace StrChars
open Jvm Sem ClassFile Op Lib Jvm.Stand Jvm.Free.XT Jvm.Free.ALB Jvm.Free.JM Jvm.Free
open Jvm.Lib.Cold (StaticIs)
theorem shr1 {n : Nat} (h : 2 * n < 2 ^ 31) : Int32.ofNat (2 * n) >>> ((1 : Int32) &&& 31) = Int32.ofNat n := by
  have e : ((1 : Int32) &&& 31) = 1 := by decide
  rw [e]
  apply Int32.toBitVec_inj.mp
  rw [Int32.toBitVec_shiftRight]
  have e1 : ((1 : Int32).toBitVec.smod 32) = 1#32 := by decide
  have hm : (BitVec.ofNat 32 (2 * n)).toNat = 2 * n := by rw [BitVec.toNat_ofNat, Nat.mod_eq_of_lt (by omega)]
  rw [e1, BitVec.sshiftRight_eq']
  apply BitVec.eq_of_toNat_eq
  show ((BitVec.ofNat 32 (2 * n)).sshiftRight 1).toNat = (BitVec.ofNat 32 n).toNat
  rw [BitVec.toNat_sshiftRight_of_msb_false (by rw [BitVec.msb_eq_false_iff_two_mul_lt, hm]; omega), hm, BitVec.toNat_ofNat, Nat.shiftRight_eq_div_pow]
  omega
/-- the array's cell V codes the n chars f 0 .. f (n - 1) by the coder cd, as the JDK does: coder 1 just where some char is above 255 -/
def Cod (cd : Int32) (n : Nat) (f : Nat → Int32) (V : Cell) : Prop := (cd = 0 ∧ V.slots.size = n ∧ ∀ j, j < n → V.slots[j]? = some (.int (lo8 (f j))) ∧ ¬ 255 < f j) ∨ (cd = 1 ∧ V.slots.size = 2 * n ∧ (∀ j, j < n → V.slots[2 * j]? = some (.int (lo8 (f j))) ∧ V.slots[2 * j + 1]? = some (.int (hi8 (f j)))) ∧ ∃ j, j < n ∧ 255 < f j)
theorem Cod.cd {cd : Int32} {n : Nat} {f : Nat → Int32} {V : Cell} (h : Cod cd n f V) : cd = 0 ∨ cd = 1 := h.imp (fun q => q.1) fun q => q.1
theorem Cod.len {cd : Int32} {n : Nat} {f : Nat → Int32} {V : Cell} (h : Cod cd n f V) (hs : V.slots.size < 2 ^ 31) : Int32.ofNat V.slots.size >>> (cd &&& 31) = Int32.ofNat n := by
  rcases h with ⟨rfl, h, -⟩ | ⟨rfl, h, -⟩
  · rw [shr0, h]
  · rw [h, shr1 (by omega)]
/-- **x is a String of the n chars f 0 .. f (n - 1)**, Latin-1 or UTF-16; its array at t has the cell V -/
def Txt (x t : Addr) (V : Cell) (cd : Int32) (n : Nat) (f : Nat → Int32) (U : State) : Prop := Exact "java/lang/String" x U ∧ Has x "java/lang/String" "value" "[B" (.ref t) U ∧ Has x "java/lang/String" "coder" "B" (.int cd) U ∧ XT.Arr .byte t V U ∧ Cod cd n f V ∧ ∀ j, j < n → ¬ f j < 0 ∧ ¬ 65535 < f j
theorem Txt.mv {x t : Addr} {V : Cell} {cd : Int32} {n : Nat} {f : Nat → Int32} {U U' : State} (h : Txt x t V cd n f U) (hal : U.vm.Alike U'.vm) (hh : U'.heap = U.heap) : Txt x t V cd n f U' := ⟨h.1.mv hal hh, h.2.1.mv hal hh, h.2.2.1.mv hal hh, h.2.2.2.1.mv hal hh, h.2.2.2.2⟩
namespace Cdr
def yN : MethodName := ⟨"java/lang/String", "coder", "()B"⟩
abbrev yB : ByteArray := jdk_42_method_152_code
theorem d0 : decode yB 0 = .ok (.getstatic 38, 3) := by decide +kernel
theorem d3 : decode yB 3 = .ok (.ifCond (.eq) 10, 3) := by decide +kernel
theorem d6 : decode yB 6 = .ok (.aload_n 0, 1) := by decide +kernel
theorem d7 : decode yB 7 = .ok (.getfield 15, 3) := by decide +kernel
theorem d10 : decode yB 10 = .ok (.goto 4, 3) := by decide +kernel
theorem d14 : decode yB 14 = .ok (.ireturn, 1) := by decide +kernel
def site : List Cond := [.fieldLink "java/lang/String" 38 "java/lang/String" "COMPACT_STRINGS" "Z", .fieldLink "java/lang/String" 15 "java/lang/String" "coder" "B"]
def tab : Cond := tabOf yN yB 1 (some .byte) site
def P (x : Addr) (cd z : Int32) (args : Array Value) (s : State) : Prop := args = #[.ref x] ∧ Has x "java/lang/String" "coder" "B" (.int cd) s ∧ (cd = 0 ∨ cd = 1) ∧ StaticIs s "java/lang/String" "COMPACT_STRINGS" "Z" (.int z) ∧ ¬ z = 0
def E (cd : Int32) (r : Option Value) (s u : State) : Prop := XT.PureE (some (.int cd)) r s u
theorem law (l : Launch) (x : Addr) (cd z : Int32) : Law l yN 1 0 0 0 yB 1 (some .byte) site (P x cd z) (E cd) [] 0 0 := by
  refine Law.of_walk (plainFor_of_name (by decide +kernel)) (by decide +kernel) (by decide +kernel) (by decide) (fun _ _ h => by rw [h.1]; rfl) (fun _ U U' hal hh h => ⟨h.1, h.2.1.mv hal hh, h.2.2.1, h.2.2.2.1.there hal hh, h.2.2.2.2⟩) (fun r U U' V V' h1 hal h2 h => XT.PureE.mv r U U' V V' h1 hal h2 h) ?_
  intro p e s m args below meth c s₁ X0 hexec hbytes hml hret hlk hnm hown hh0 W hP
  obtain ⟨rfl, hx, hc, s1, hz⟩ := hP
  have c1 : Steps p.tables e below (s₁.setTop (entryFrame m #[.ref x] 1)) (s₁.setTop (mkF m 0 #[.val (.ref x)] [])) := entry rfl
  obtain ⟨T2, X2, q2, st2⟩ := X0.sget hexec hown (wk W (.fieldLink "java/lang/String" 38 "java/lang/String" "COMPACT_STRINGS" "Z")) s1 (fun _ _ h => by rw [hh0]; exact h) (g := (mkF m 0 #[.val (.ref x)] [])) rfl (hb hbytes d0)
  have hh2 := q2.trans hh0
  have c3 : Steps p.tables e below (s₁.setTop (entryFrame m #[.ref x] 1)) (T2.setTop (mkF m 7 #[.val (.ref x)] [.ref x])) := (c1.trans (st2 _ (Steps.refl _))).trans (by
    refine XS.ifNo X2.here hexec rfl (hb hbytes d3) rfl (i0_eq_f hz) ?_
    refine XS.aloadN X2.here hexec rfl (hb hbytes d6) rfl rfl ?_
    exact Steps.refl _)
  obtain ⟨T4, X4, q4, st4⟩ := X2.hget hexec hown (wk W (.fieldLink "java/lang/String" 15 "java/lang/String" "coder" "B")) (hx.mv X2.warmed.alike hh2) (g := (mkF m 7 #[.val (.ref x)] [.ref x])) rfl (rest := []) rfl (hb hbytes d7)
  have c5 : Steps p.tables e below (s₁.setTop (entryFrame m #[.ref x] 1)) (T4.setTop (mkF m 14 #[.val (.ref x)] [.int cd])) := (c3.trans (st4 _ (Steps.refl _))).trans (by
    refine XS.goto X4.here hexec rfl (pc0 := 10) rfl (hb hbytes d10) (by decide) rfl ?_
    exact Steps.refl _)
  exact ⟨T4, some (.int cd), _, _, _, X4, rfl, rfl, rfl, (fun h => by cases h), ⟨rfl, q4.trans hh2⟩, fun fs hl => c5.trans (X4.ireturnOut hexec hret (by rcases hc with rfl | rfl <;> rfl) (Or.inr (Or.inr (Or.inl rfl))) (hb hbytes d14) hl)⟩
end Cdr
namespace Len
def yN : MethodName := ⟨"java/lang/String", "length", "()I"⟩
abbrev yB : ByteArray := jdk_42_method_54_code
theorem d0 : decode yB 0 = .ok (.aload_n 0, 1) := by decide +kernel
theorem d1 : decode yB 1 = .ok (.getfield 9, 3) := by decide +kernel
theorem d4 : decode yB 4 = .ok (.arraylength, 1) := by decide +kernel
theorem d5 : decode yB 5 = .ok (.aload_n 0, 1) := by decide +kernel
theorem d6 : decode yB 6 = .ok (.invokevirtual 335, 3) := by decide +kernel
theorem d9 : decode yB 9 = .ok (.ishr, 1) := by decide +kernel
theorem d10 : decode yB 10 = .ok (.ireturn, 1) := by decide +kernel
def site : List Cond := [.fieldLink "java/lang/String" 9 "java/lang/String" "value" "[B", Cdr.tab] ++ virtW "java/lang/String" 335 "java/lang/String" Cdr.yN Cdr.yN
def tab : Cond := tabOf yN yB 1 (some .int) site
def P (x t : Addr) (V : Cell) (cd : Int32) (n : Nat) (f : Nat → Int32) (z : Int32) (args : Array Value) (s : State) : Prop := args = #[.ref x] ∧ Txt x t V cd n f s ∧ StaticIs s "java/lang/String" "COMPACT_STRINGS" "Z" (.int z) ∧ ¬ z = 0
def E (n : Nat) (r : Option Value) (s u : State) : Prop := XT.PureE (some (.int (Int32.ofNat n))) r s u
/-- length() of a String of n chars, in either coding -/
theorem law (l : Launch) (x t : Addr) (V : Cell) (cd : Int32) (n : Nat) (f : Nat → Int32) (z : Int32) : Law l yN 1 0 1 13 yB 1 (some .int) site (P x t V cd n f z) (E n) [] 0 0 := by
  refine Law.of_walk (plainFor_of_name (by decide +kernel)) (by decide +kernel) (by decide +kernel) (by decide) (fun _ _ h => by rw [h.1]; rfl) (fun _ U U' hal hh h => ⟨h.1, h.2.1.mv hal hh, h.2.2.1.there hal hh, h.2.2.2⟩) (fun r U U' V V' h1 hal h2 h => XT.PureE.mv r U U' V V' h1 hal h2 h) ?_
  intro p e s m args below meth c s₁ X0 hexec hbytes hml hret hlk hnm hown hh0 W hP
  obtain ⟨rfl, hx, s1, hz⟩ := hP
  have v31 := hx.2.2.2.1.2.2.2
  have c1 : Steps p.tables e below (s₁.setTop (entryFrame m #[.ref x] 1)) (s₁.setTop (mkF m 1 #[.val (.ref x)] [.ref x])) := Steps.trans (entry rfl) (by
    show Steps p.tables e below (s₁.setTop (mkF m 0 #[.val (.ref x)] [])) _
    refine XS.aloadN X0.here hexec rfl (hb hbytes d0) rfl rfl ?_
    exact Steps.refl _)
  obtain ⟨T2, X2, q2, st2⟩ := X0.hget hexec hown (wk W (.fieldLink "java/lang/String" 9 "java/lang/String" "value" "[B")) (hx.mv X0.warmed.alike hh0).2.1 (g := (mkF m 1 #[.val (.ref x)] [.ref x])) rfl (rest := []) rfl (hb hbytes d1)
  have hh2 := q2.trans hh0
  have hx2 := hx.mv X2.warmed.alike hh2
  have c3 : Steps p.tables e below (s₁.setTop (entryFrame m #[.ref x] 1)) (T2.setTop (mkF m 6 #[.val (.ref x)] [.ref x, .int (Int32.ofNat V.slots.size)])) := (c1.trans (st2 _ (Steps.refl _))).trans (by
    refine X2.alen hexec hx2.2.2.2.1 rfl rfl (hb hbytes d4) ?_
    refine XS.aloadN X2.here hexec rfl (hb hbytes d5) rfl rfl ?_
    exact Steps.refl _)
  obtain ⟨v4, T4, X4, E4, g4⟩ := X2.callV hexec (Cdr.law l x cd z) hown (wks W (virtW "java/lang/String" 335 "java/lang/String" Cdr.yN Cdr.yN)) rfl (by decide) (wk W Cdr.tab) (W := 1) (Nat.le_of_ble_eq_true rfl) (Nat.le_of_ble_eq_true rfl) (Nat.le_refl _) (Nat.le_refl _) (hx2.1.fc X2.warmed.alike) hx2.1.is (g := (mkF m 6 #[.val (.ref x)] [.ref x, .int (Int32.ofNat V.slots.size)])) rfl (by rw [hml]; rfl) c3 (argsL := []) (rest := [.int (Int32.ofNat V.slots.size)]) rfl rfl (by show 2 * 0 + (1 + 0) ≤ _; decide) (hb hbytes d6) (⟨rfl, hx2.2.2.1, hx.2.2.2.2.1.cd, s1.there X2.warmed.alike hh2, hz⟩)
  obtain ⟨rfl, q4⟩ := E4
  have c5 : Steps p.tables e below (s₁.setTop (entryFrame m #[.ref x] 1)) (T4.setTop (mkF m 10 #[.val (.ref x)] [.int (Int32.ofNat V.slots.size >>> (cd &&& 31))])) := Steps.trans g4 (by
    refine ishr X4.here hexec rfl (hb hbytes d9) rfl ?_
    exact Steps.refl _)
  rw [hx.2.2.2.2.1.len v31] at c5
  exact ⟨T4, some (.int (Int32.ofNat n)), _, _, _, X4, rfl, rfl, rfl, (fun h => by cases h), ⟨rfl, q4.trans hh2⟩, fun fs hl => c5.trans (X4.ireturnOut hexec hret rfl (Or.inl rfl) (hb hbytes d10) hl)⟩
theorem pays {l : Launch} {R : Room} {p : Program} {e : Env} {below : List Frame} {s : State} {sargs : Array Value} {len W : Nat} (x t : Addr) (V : Cell) (cd : Int32) (n : Nat) (f : Nat → Int32) (z : Int32) (htab : tab.before sargs s = true) (hfr : 2 ≤ R.frames) (hlo : W + 25 ≤ R.locals) :
    Back l R p e below s sargs yN len W (fun A₁ a₁ => A₁.cells + 0 ≤ R.cells ∧ A₁.slots + 0 ≤ R.slots ∧ P x t V cd n f z a₁ A₁.U) (fun A₁ _ v₁ B₁ => E n v₁ A₁.U B₁.U ∧ B₁.locs = A₁.locs ++ [] ∧ B₁.cells = A₁.cells + 0 ∧ B₁.slots = A₁.slots + 0) :=
  (law l x t V cd n f z).pays htab hfr (by omega)
end Len
end StrChars
namespace StrChars.Road
open Jvm Sem ClassFile Op Lib Jvm.Stand Jvm.Free Jvm.Free.XT
open Jvm.Lib.Cold (StaticIs)
theorem consq {a : Array Value} {s : State} {c : Jvm.Cond} {L : List Jvm.Cond} (h0 : c.before a s = true) (h : ∀ w ∈ L, w.before a s = true) : ∀ w ∈ c :: L, w.before a s = true := fun w hw => (List.mem_cons.mp hw).elim (fun e => e ▸ h0) (h w)
/-- the words of String.length(), either coding -/
abbrev wordsLen : List Jvm.Cond := [.code Len.yN Len.yB 1 (some .int), .initialized ST, .fieldLink ST 9 ST "value" "[B", .fieldLink ST 38 ST "COMPACT_STRINGS" "Z", .fieldLink ST 15 ST "coder" "B", .code Cdr.yN Cdr.yB 1 (some .byte), .methodLink ST 335 Cdr.yN, .declares Cdr.yN, .selects ST Cdr.yN Cdr.yN, .instanceMethod Cdr.yN]
theorem tabLen_of {a : Array Value} {s : State} (h : ∀ w ∈ wordsLen, w.before a s = true) : Len.tab.before a s = true := by
  have hc : Cdr.tab.before a s = true := unparts (wk h (.code Cdr.yN Cdr.yB 1 (some .byte))) (wks h (.initialized Cdr.yN.cls :: Cdr.site))
  have q := consq hc h
  exact unparts (wk q (.code Len.yN Len.yB 1 (some .int))) (wks q (.initialized Len.yN.cls :: Len.site))
theorem movedLen {Z s : State} {a0 args : Array Value} (hZ : Z.Warmed39 s.vm) (hw : ∀ d ∈ wordsLen, d.before a0 Z = true) : ∀ d ∈ wordsLen, d.before args s = true := fun d hd => by
  have q := hw d hd
  have t : ∀ d ∈ wordsLen, d = .arrayClass .byte ∨ (d.onTables && d.keepsFace) = true := by decide +kernel
  rcases t d hd with rfl | t
  · exact RoadKit.mvA hZ q
  · exact RoadKit.mv hZ q t
/-- the bytes of the chars cs, low before high -/
def wideBytes : List Int32 → List Value
  | [] => []
  | c :: cs => .int (lo8 c) :: .int (hi8 c) :: wideBytes cs
theorem wide_lo (d : Value) : ∀ (cs : List Int32) (j : Nat), j < cs.length → (wideBytes cs).getD (2 * j) d = .int (lo8 (cs.getD j 0))
  | [], j, h => absurd h (Nat.not_lt_zero j)
  | c :: cs, 0, _ => rfl
  | c :: cs, j + 1, h => by
    have q := wide_lo d cs j (by simpa using h)
    rw [show 2 * (j + 1) = 2 * j + 1 + 1 from by omega]
    simpa [wideBytes] using q
theorem wide_hi (d : Value) : ∀ (cs : List Int32) (j : Nat), j < cs.length → (wideBytes cs).getD (2 * j + 1) d = .int (hi8 (cs.getD j 0))
  | [], j, h => absurd h (Nat.not_lt_zero j)
  | c :: cs, 0, _ => rfl
  | c :: cs, j + 1, h => by
    have q := wide_hi d cs j (by simpa using h)
    rw [show 2 * (j + 1) + 1 = 2 * j + 1 + 1 + 1 from by omega]
    simpa [wideBytes] using q
theorem low_at (d : Value) (cs : List Int32) (j : Nat) (h : j < cs.length) : (cs.map fun c => Value.int (lo8 c)).getD j d = .int (lo8 (cs.getD j 0)) := by
  simp [List.getD_eq_getElem?_getD, h]
/-- an array of N2 bytes vs codes the chars cs by the coder cd -/
def CodA (cs : List Int32) (cd N2 : Int32) (vs : List Value) : Prop := (cd = 0 ∧ N2 = Int32.ofNat cs.length ∧ vs = (cs.map fun c => Value.int (lo8 c)) ∧ ∀ c ∈ cs, ¬ 255 < c) ∨ (cd = 1 ∧ N2 = Int32.ofNat (2 * cs.length) ∧ vs = wideBytes cs ∧ ∃ c ∈ cs, 255 < c)
theorem CodA.cod {cs : List Int32} {cd N2 : Int32} {vs : List Value} {V : Cell} (h : CodA cs cd N2 vs) (hn : 2 * cs.length < 2 ^ 31) (hs : V.slots.size = N2.toNatClampNeg) (hv : RoadKit.Has V vs (.int 0)) : Cod cd cs.length (fun j => cs.getD j 0) V := by
  rcases h with ⟨rfl, rfl, rfl, h⟩ | ⟨rfl, rfl, rfl, c, hc, hw⟩
  · rw [n32 (by omega)] at hs
    exact Or.inl ⟨rfl, hs, fun j hj => ⟨by rw [hv j (by omega), low_at _ _ _ hj], by
      have e : cs.getD j 0 = cs[j] := by simp [List.getD_eq_getElem?_getD, hj]
      show ¬ 255 < cs.getD j 0
      rw [e]; exact h _ (List.getElem_mem _)⟩⟩
  · rw [n32 (by omega)] at hs
    obtain ⟨j, hj, rfl⟩ := List.getElem_of_mem hc
    exact Or.inr ⟨rfl, hs, fun j hj => ⟨by rw [hv _ (by omega), wide_lo _ _ _ hj], by rw [hv _ (by omega), wide_hi _ _ _ hj]⟩, j, hj, by
      have e : cs.getD j 0 = cs[j] := by simp [List.getD_eq_getElem?_getD, hj]
      show 255 < cs.getD j 0
      rw [e]; exact hw⟩
/-- an object of exactly java/lang/String, its two fields found: as the laws ask it -/
theorem strObj {Z U : State} {a0 : Array Value} {kI : Nat} (wi : (Jvm.Cond.instantiable ST kI).before a0 Z = true) (al : Z.vm.Alike U.vm) {x : Addr} {v0 c0 : Value} (E : RoadKit.Exa Z U.heap x ST) (V : RoadKit.Fld Z U.heap x ST "value" "[B" v0) (C : RoadKit.Fld Z U.heap x ST "coder" "B" c0) :
    ∃ (D : Cell) (fV fC : Field), Blank ST x D U ∧ Found ST "value" "[B" fV U ∧ Found ST "coder" "B" fC U ∧ D.slots[fV.slot]? = some v0 ∧ D.slots[fC.slot]? = some c0 ∧ RoadKit.slotOf Z ST "value" "[B" = fV.slot ∧ RoadKit.slotOf Z ST "coder" "B" = fC.slot := by
  obtain ⟨D, cfV, kV, iV, fV, hD, gV, stV, knV, obV, asV, slV⟩ := V
  obtain ⟨D', cfC, kC, iC, fC, hD', gC, stC, -, -, asC, slC⟩ := C
  cases hD.symm.trans hD'
  obtain ⟨D2, kD, e1, e2, e3, e4, e5⟩ := E
  cases hD.symm.trans e1
  obtain ⟨c2, k2, i1, i2, i3, -⟩ := Cond.instantiable_spec wi
  cases e2.symm.trans i1
  cases e3.symm.trans i2
  obtain ⟨kU, u1, u2⟩ := al.2.2 _ _ e3
  exact ⟨D, fV, fC, ⟨hD, ⟨knV, fun q hq => by rw [hq] at obV; cases obV⟩, by rw [al.findClass]; exact e2, kU, u1, by rw [u2]; exact i3, by rw [u2]; exact e5 i3⟩, ⟨SBG.found_only al ⟨cfV, kV, iV, gV⟩, stV⟩, ⟨SBG.found_only al ⟨cfC, kC, iC, gC⟩, stC⟩, slV, slC, by simp [RoadKit.slotOf, gV], by simp [RoadKit.slotOf, gC]⟩
theorem sta_is {Z U : State} (al : Z.vm.Alike U.vm) {C n d : String} {v : Value} (S : RoadKit.Sta Z U.heap C n d v) : StaticIs U C n d v := by
  obtain ⟨cfS, iS, kS, fS, st, cS, t1, t2, t3, t4, t5, t6, t7⟩ := S
  exact StaticIs.there (s := { Z with heap := U.heap }) ⟨cfS, iS, kS, fS, st, cS, t1, t2, t3, t4, t5, (fun q => by rw [q] at t6; cases t6), t7⟩ al rfl
/-- **length() OF SUCH A STRING** -/
theorem lenW {p : Program} {l : Launch} {e : Env} {R : Room} {s : State} {args : Array Value} {below : List Frame} {len W : Nat} {Z : State} {a0 : Array Value} {h : Heap} (hZ : Z.Warmed39 s.vm) (hw : ∀ d ∈ wordsLen, d.before a0 Z = true) {kI : Nat} (wi : (Jvm.Cond.instantiable ST kI).before a0 Z = true)
    {x t : Addr} {kb : ClassId} {cs : List Int32} {cd N2 z : Int32} {vs : List Value} (E : RoadKit.Exa Z h x ST) (V : RoadKit.Fld Z h x ST "value" "[B" (.ref t)) (C : RoadKit.Fld Z h x ST "coder" "B" (.int cd)) (K : RoadKit.Arv Z h t kb .byte N2 vs (.int 0)) (hc : CodA cs cd N2 vs) (hb : ∀ c ∈ cs, ¬ c < 0 ∧ ¬ (65535 : Int32) < c)
    (S : RoadKit.Sta Z h ST "COMPACT_STRINGS" "Z" (.int z)) (hz : ¬ z = 0) (l2 : cs.length ≤ 4000) (hfr : 2 ≤ R.frames) (hlo : W + 25 ≤ R.locals) :
    Back l R p e below s args (⟨"java/lang/String", "length", "()I"⟩ : MethodName) len W (fun P a => a = #[.ref x] ∧ P.U.heap = h ∧ P.cells + 0 ≤ R.cells ∧ P.slots + 0 ≤ R.slots)
      (fun P _ v B => ∃ L, (v = some (.int (Int32.ofNat cs.length)) ∧ L = [] ∧ B.U.heap = h) ∧ B.locs = P.locs ++ L ∧ B.cells = P.cells + 0 ∧ B.slots = P.slots + 0) := by
  obtain ⟨A, K1, K2, K3, K4, K5, K6⟩ := K
  have hcod := hc.cod (by omega) K3 K5
  intro m meth c P g ig mk a X hg hsize hdg hW hn hp'
  obtain ⟨rfl, rfl, r1, r2⟩ := hp'
  have al : Z.vm.Alike P.U.vm := hZ.alike.trans X.warmed.alike
  obtain ⟨D, fV, fC, hB, F1, F2, g1, g2, -, -⟩ := strObj wi al E V C
  have hx : Txt x t A cd cs.length (fun j => cs.getD j 0) P.U := ⟨⟨_, hB.2.2.1, D, hB.1, rfl, by cases q : D.vm <;> first | rfl | exact absurd q (hB.2.1.2 _)⟩, Has.of hB F1 g1, Has.of hB F2 g2, ⟨K1.1, State.isArrayOf_alike al K1.2.1, K1.2.2, by rcases hcod with ⟨-, q, -⟩ | ⟨-, q, -⟩ <;> omega⟩, hcod, fun j hj => by
    have e : cs.getD j 0 = cs[j] := by simp [List.getD_eq_getElem?_getD, hj]
    show ¬ cs.getD j 0 < 0 ∧ ¬ 65535 < cs.getD j 0
    rw [e]; exact hb _ (List.getElem_mem _)⟩
  obtain ⟨v, B, X', ⟨⟨hv, hh⟩, hl, hk, hs⟩, st⟩ := Len.pays x t A cd cs.length (fun j => cs.getD j 0) z (tabLen_of (movedLen hZ hw)) hfr hlo m meth c P g ig mk _ X hg hsize hdg hW hn ⟨r1, r2, rfl, hx, sta_is al S, hz⟩
  exact ⟨v, B, X', ⟨[], ⟨hv, rfl, hh⟩, hl, hk, hs⟩, st⟩
end StrChars.Road
namespace StrChars
open Jvm Sem ClassFile Op Lib Jvm.Stand Jvm.Free.XT Jvm.Free.ALB Jvm.Free.JM Jvm.Free
open Jvm.Lib.Cold (StaticIs)
/-- what place i of a byte[]'s cell holds -/
def yv (A : Cell) (i : Nat) : Int32 := match A.slots[i]? with | some (.int x) => x | _ => 0
theorem yv_get {a : Addr} {A : Cell} {U : State} (h : XT.Arr .byte a A U) (ht : Typed .byte A) {i : Nat} (hi : i < A.slots.size) : A.slots[i]? = some (.int (yv A i)) := by
  have e := Array.getElem?_eq_getElem hi
  have f := ht i _ e
  unfold yv; rw [e]
  generalize A.slots[i] = v at f
  cases v <;> simp [fits] at f ⊢
/-- the two arrays are equal, place for place -/
def EqC (A B : Cell) : Prop := A.slots.size = B.slots.size ∧ ∀ i, i < A.slots.size → yv A i = yv B i
/-- a boolean that says whether p -/
def Says01 (q : Prop) (r : Option Value) (s u : State) : Prop := ∃ v : Int32, r = some (.int v) ∧ u.heap = s.heap ∧ ((v = 1 ∧ q) ∨ (v = 0 ∧ ¬ q))
theorem Says01.mv {q : Prop} : ∀ r (U U' V V' : State), U'.heap = U.heap → V.vm.Alike V'.vm → V'.heap = V.heap → Says01 q r U V → Says01 q r U' V' :=
  fun r U U' V V' h1 _ h2 ⟨v, a, b, c⟩ => ⟨v, a, by rw [h1, h2]; exact b, c⟩
namespace LEq
def yN : MethodName := ⟨"java/lang/StringLatin1", "equals", "([B[B)Z"⟩
abbrev yB : ByteArray := jdk_43_method_13_code
theorem d0 : decode yB 0 = .ok (.aload_n 0, 1) := by decide +kernel
theorem d1 : decode yB 1 = .ok (.arraylength, 1) := by decide +kernel
theorem d2 : decode yB 2 = .ok (.aload_n 1, 1) := by decide +kernel
theorem d3 : decode yB 3 = .ok (.arraylength, 1) := by decide +kernel
theorem d4 : decode yB 4 = .ok (.if_icmp (.ne) 30, 3) := by decide +kernel
theorem d7 : decode yB 7 = .ok (.iconst 0, 1) := by decide +kernel
theorem d8 : decode yB 8 = .ok (.istore_n 2, 1) := by decide +kernel
theorem d9 : decode yB 9 = .ok (.iload_n 2, 1) := by decide +kernel
theorem d10 : decode yB 10 = .ok (.aload_n 0, 1) := by decide +kernel
theorem d11 : decode yB 11 = .ok (.arraylength, 1) := by decide +kernel
theorem d12 : decode yB 12 = .ok (.if_icmp (.ge) 20, 3) := by decide +kernel
theorem d15 : decode yB 15 = .ok (.aload_n 0, 1) := by decide +kernel
theorem d16 : decode yB 16 = .ok (.iload_n 2, 1) := by decide +kernel
theorem d17 : decode yB 17 = .ok (.baload, 1) := by decide +kernel
theorem d18 : decode yB 18 = .ok (.aload_n 1, 1) := by decide +kernel
theorem d19 : decode yB 19 = .ok (.iload_n 2, 1) := by decide +kernel
theorem d20 : decode yB 20 = .ok (.baload, 1) := by decide +kernel
theorem d21 : decode yB 21 = .ok (.if_icmp (.eq) 5, 3) := by decide +kernel
theorem d24 : decode yB 24 = .ok (.iconst 0, 1) := by decide +kernel
theorem d25 : decode yB 25 = .ok (.ireturn, 1) := by decide +kernel
theorem d26 : decode yB 26 = .ok (.iinc 2 1, 3) := by decide +kernel
theorem d29 : decode yB 29 = .ok (.goto (-20), 3) := by decide +kernel
theorem d32 : decode yB 32 = .ok (.iconst 1, 1) := by decide +kernel
theorem d33 : decode yB 33 = .ok (.ireturn, 1) := by decide +kernel
theorem d34 : decode yB 34 = .ok (.iconst 0, 1) := by decide +kernel
theorem d35 : decode yB 35 = .ok (.ireturn, 1) := by decide +kernel
def site : List Cond := []
def tab : Cond := tabOf yN yB 3 (some .boolean) site
def P (a : Addr) (A : Cell) (b : Addr) (B : Cell) (args : Array Value) (s : State) : Prop := args = #[.ref a, .ref b] ∧ XT.Arr .byte a A s ∧ Typed .byte A ∧ XT.Arr .byte b B s ∧ Typed .byte B
/-- whether two byte[] are equal, place for place -/
theorem law (l : Launch) (a : Addr) (A : Cell) (b : Addr) (B : Cell) : Law l yN 2 2 0 0 yB 3 (some .boolean) site (P a A b B) (Says01 (EqC A B)) [] 0 0 := by
  refine Law.of_walk (plainFor_of_name (by decide +kernel)) (by decide +kernel) (by decide +kernel) (by decide) (fun _ _ h => by rw [h.1]; rfl) (fun _ U U' hal hh h => ⟨h.1, h.2.1.mv hal hh, h.2.2.1, h.2.2.2.1.mv hal hh, h.2.2.2.2⟩) (fun r U U' V V' h1 hal h2 h => Says01.mv r U U' V V' h1 hal h2 h) ?_
  intro p e s m args below meth c s₁ X0 hexec hbytes hml hret hlk hnm hown hh0 W hP
  obtain ⟨rfl, hA, tA, hB, tB⟩ := hP
  have a31 := hA.2.2.2
  have b31 := hB.2.2.2
  have hA0 := hA.mv X0.warmed.alike hh0
  have hB0 := hB.mv X0.warmed.alike hh0
  have c1 : Steps p.tables e below (s₁.setTop (entryFrame m #[.ref a, .ref b] 3)) (s₁.setTop (mkF m 0 #[.val (.ref a), .val (.ref b), .unset] [])) := entry rfl
  have c2 : Steps p.tables e below (s₁.setTop (entryFrame m #[.ref a, .ref b] 3)) (s₁.setTop (mkF m 4 #[.val (.ref a), .val (.ref b), .unset] [.int (Int32.ofNat B.slots.size), .int (Int32.ofNat A.slots.size)])) := c1.trans (by
    refine XS.aloadN X0.here hexec rfl (hb hbytes d0) rfl rfl ?_
    refine X0.alen hexec hA0 rfl rfl (hb hbytes d1) ?_
    refine XS.aloadN X0.here hexec rfl (hb hbytes d2) rfl rfl ?_
    refine X0.alen hexec hB0 rfl rfl (hb hbytes d3) ?_
    exact Steps.refl _)
  by_cases hs : A.slots.size = B.slots.size
  · have c3 : Steps p.tables e below (s₁.setTop (entryFrame m #[.ref a, .ref b] 3)) (s₁.setTop (mkF m 9 #[.val (.ref a), .val (.ref b), .val (.int 0)] [])) := c2.trans (by
      refine XS.icmpNo X0.here hexec rfl (hb hbytes d4) rfl (ii_ne_f (by rw [hs])) ?_
      refine iconstV X0.here hexec rfl 0 (hb hbytes d7) (by decide) ?_
      refine XS.istoreN X0.here hexec rfl (hb hbytes d8) rfl rfl ?_
      exact Steps.refl _)
    have loop : ∀ (r i : Nat), i + r = A.slots.size → (∀ j, j < i → yv A j = yv B j) → Steps p.tables e below (s₁.setTop (entryFrame m #[.ref a, .ref b] 3)) (s₁.setTop (mkF m 9 #[.val (.ref a), .val (.ref b), .val (.int (Int32.ofNat i))] [])) → ∃ (pc : Nat) (Ls : Array Slot) (v : Int32), (pc = 25 ∨ pc = 33) ∧ ((v = 1 ∧ EqC A B) ∨ (v = 0 ∧ ¬ EqC A B)) ∧ Steps p.tables e below (s₁.setTop (entryFrame m #[.ref a, .ref b] 3)) (s₁.setTop (mkF m pc Ls [.int v])) := by
      intro r
      induction r with
      | zero =>
        intro i hi he cl
        exact ⟨33, _, 1, Or.inr rfl, Or.inl ⟨rfl, hs, fun j hj => he j (by omega)⟩, cl.trans (by
          refine XS.iloadN X0.here hexec rfl (hb hbytes d9) rfl ?_
          refine XS.aloadN X0.here hexec rfl (hb hbytes d10) rfl rfl ?_
          refine X0.alen hexec hA0 rfl rfl (hb hbytes d11) ?_
          refine XS.icmpYes X0.here hexec rfl (pc0 := 12) rfl (hb hbytes d12) rfl (ii_ge_t (nlt32 (by omega) (by omega))) (by decide) rfl ?_
          refine iconstV X0.here hexec rfl 1 (hb hbytes d32) (by decide) ?_
          exact Steps.refl _)⟩
      | succ r ih =>
        intro i hi he cl
        have c4 : Steps p.tables e below (s₁.setTop (entryFrame m #[.ref a, .ref b] 3)) (s₁.setTop (mkF m 21 #[.val (.ref a), .val (.ref b), .val (.int (Int32.ofNat i))] [.int (yv B i), .int (yv A i)])) := cl.trans (by
          refine XS.iloadN X0.here hexec rfl (hb hbytes d9) rfl ?_
          refine XS.aloadN X0.here hexec rfl (hb hbytes d10) rfl rfl ?_
          refine X0.alen hexec hA0 rfl rfl (hb hbytes d11) ?_
          refine XS.icmpNo X0.here hexec rfl (hb hbytes d12) rfl (ii_ge_f (lt32 (by omega) (by omega))) ?_
          refine XS.aloadN X0.here hexec rfl (hb hbytes d15) rfl rfl ?_
          refine XS.iloadN X0.here hexec rfl (hb hbytes d16) rfl ?_
          refine X0.aget hexec hA0 rfl (yv_get hA tA (i := i) (by omega)) rfl rfl (hb hbytes d17) ?_
          refine XS.aloadN X0.here hexec rfl (hb hbytes d18) rfl rfl ?_
          refine XS.iloadN X0.here hexec rfl (hb hbytes d19) rfl ?_
          refine X0.aget hexec hB0 rfl (yv_get hB tB (i := i) (by omega)) rfl rfl (hb hbytes d20) ?_
          exact Steps.refl _)
        by_cases hv : yv A i = yv B i
        · have c5 : Steps p.tables e below (s₁.setTop (entryFrame m #[.ref a, .ref b] 3)) (s₁.setTop (mkF m 9 #[.val (.ref a), .val (.ref b), .val (.int (Int32.ofNat i + 1))] [])) := c4.trans (by
            refine XS.icmpYes X0.here hexec rfl (pc0 := 21) rfl (hb hbytes d21) rfl (ii_eq_t hv) (by decide) rfl ?_
            refine iincV X0.here hexec rfl 1 (hb hbytes d26) (by decide) rfl rfl ?_
            refine XS.goto X0.here hexec rfl (pc0 := 29) rfl (hb hbytes d29) (by decide) rfl ?_
            exact Steps.refl _)
          rw [succ32] at c5
          exact ih (i + 1) (by omega) (fun j hj => by
            by_cases e : j = i
            · rw [e]; exact hv
            · exact he j (by omega)) c5
        · exact ⟨25, _, 0, Or.inl rfl, Or.inr ⟨rfl, fun q => hv (q.2 i (by omega))⟩, c4.trans (by
            refine XS.icmpNo X0.here hexec rfl (hb hbytes d21) rfl (ii_eq_f hv) ?_
            refine iconstV X0.here hexec rfl 0 (hb hbytes d24) (by decide) ?_
            exact Steps.refl _)⟩
    obtain ⟨pc, Ls, v, hpc, hv, cz⟩ := loop A.slots.size 0 (by omega) (fun j hj => absurd hj (Nat.not_lt_zero j)) c3
    have nv : narrow .boolean (.int v) = .int v := by rcases hv with ⟨rfl, -⟩ | ⟨rfl, -⟩ <;> rfl
    rcases hpc with rfl | rfl
    · exact ⟨s₁, some (.int v), _, _, _, X0, rfl, rfl, rfl, (fun h => by cases h), ⟨v, rfl, hh0, hv⟩, fun fs hl => cz.trans (X0.ireturnOut hexec hret nv (Or.inr (Or.inl rfl)) (hb hbytes d25) hl)⟩
    · exact ⟨s₁, some (.int v), _, _, _, X0, rfl, rfl, rfl, (fun h => by cases h), ⟨v, rfl, hh0, hv⟩, fun fs hl => cz.trans (X0.ireturnOut hexec hret nv (Or.inr (Or.inl rfl)) (hb hbytes d33) hl)⟩
  · have c3 : Steps p.tables e below (s₁.setTop (entryFrame m #[.ref a, .ref b] 3)) (s₁.setTop (mkF m 35 #[.val (.ref a), .val (.ref b), .unset] [.int 0])) := c2.trans (by
      refine XS.icmpYes X0.here hexec rfl (pc0 := 4) rfl (hb hbytes d4) rfl (ii_ne_t (ne32 a31 b31 hs)) (by decide) rfl ?_
      refine iconstV X0.here hexec rfl 0 (hb hbytes d34) (by decide) ?_
      exact Steps.refl _)
    exact ⟨s₁, some (.int 0), _, _, _, X0, rfl, rfl, rfl, (fun h => by cases h), ⟨0, rfl, hh0, Or.inr ⟨rfl, fun q => hs q.1⟩⟩, fun fs hl => c3.trans (X0.ireturnOut hexec hret rfl (Or.inr (Or.inl rfl)) (hb hbytes d35) hl)⟩
end LEq
theorem Cod.ty {cd : Int32} {n : Nat} {f : Nat → Int32} {V : Cell} (h : Cod cd n f V) : Typed .byte V := fun i v hv => by
  have hi : i < V.slots.size := (Array.getElem?_eq_some_iff.mp hv).1
  rcases h with ⟨-, k1, k2⟩ | ⟨-, k1, k2, -⟩
  · rw [(k2 i (by omega)).1] at hv; cases hv; exact fits_lo8 _
  · rcases Nat.mod_two_eq_zero_or_one i with e | e
    · obtain ⟨j, rfl⟩ : ∃ j, i = 2 * j := ⟨i / 2, by omega⟩
      rw [(k2 j (by omega)).1] at hv; cases hv; exact fits_lo8 _
    · obtain ⟨j, rfl⟩ : ∃ j, i = 2 * j + 1 := ⟨i / 2, by omega⟩
      rw [(k2 j (by omega)).2] at hv; cases hv; exact fits_lo8 _
/-- the same text -/
def SameT (n : Nat) (f : Nat → Int32) (k : Nat) (g : Nat → Int32) : Prop := n = k ∧ ∀ j, j < n → f j = g j
theorem lo8_inj {x y : Int32} (h0 : ¬ x < 0) (h1 : ¬ 255 < x) (k0 : ¬ y < 0) (k1 : ¬ 255 < y) (h : lo8 x = lo8 y) : x = y := by
  rw [← lo8_mask h0 h1, ← lo8_mask k0 k1, h]
/-- arrays coded by one coder are equal just where the texts are -/
theorem Cod.eqv {cd : Int32} {n k : Nat} {f g : Nat → Int32} {V V' : Cell} (h : Cod cd n f V) (h' : Cod cd k g V') (hf : ∀ j, j < n → ¬ f j < 0 ∧ ¬ 65535 < f j) (hg : ∀ j, j < k → ¬ g j < 0 ∧ ¬ 65535 < g j) : EqC V V' ↔ SameT n f k g := by
  have yvv : ∀ {W : Cell} {i : Nat} {x : Int32}, W.slots[i]? = some (.int x) → yv W i = x := fun q => by unfold yv; rw [q]
  rcases h with ⟨rfl, k1, k2⟩ | ⟨rfl, k1, k2, -⟩
  · rcases h' with ⟨-, m1, m2⟩ | ⟨e, -⟩
    · constructor
      · rintro ⟨e1, e2⟩
        refine ⟨by omega, fun j hj => ?_⟩
        have q := e2 j (by omega)
        rw [yvv (k2 j hj).1, yvv (m2 j (by omega)).1] at q
        exact lo8_inj (hf j hj).1 (k2 j hj).2 (hg j (by omega)).1 (m2 j (by omega)).2 q
      · rintro ⟨rfl, e2⟩
        refine ⟨by omega, fun j hj => ?_⟩
        rw [yvv (k2 j (by omega)).1, yvv (m2 j (by omega)).1, e2 j (by omega)]
    · exact absurd e (by decide)
  · rcases h' with ⟨e, -⟩ | ⟨-, m1, m2, -⟩
    · exact absurd e (by decide)
    · constructor
      · rintro ⟨e1, e2⟩
        refine ⟨by omega, fun j hj => ?_⟩
        have q1 := e2 (2 * j) (by omega)
        have q2 := e2 (2 * j + 1) (by omega)
        rw [yvv (k2 j hj).1, yvv (m2 j (by omega)).1] at q1
        rw [yvv (k2 j hj).2, yvv (m2 j (by omega)).2] at q2
        rw [← pair_says (hf j hj).1 (hf j hj).2, ← pair_says (hg j (by omega)).1 (hg j (by omega)).2, q1, q2]
      · rintro ⟨rfl, e2⟩
        refine ⟨by omega, fun i hi => ?_⟩
        rcases Nat.mod_two_eq_zero_or_one i with e | e
        · obtain ⟨j, rfl⟩ : ∃ j, i = 2 * j := ⟨i / 2, by omega⟩
          rw [yvv (k2 j (by omega)).1, yvv (m2 j (by omega)).1, e2 j (by omega)]
        · obtain ⟨j, rfl⟩ : ∃ j, i = 2 * j + 1 := ⟨i / 2, by omega⟩
          rw [yvv (k2 j (by omega)).2, yvv (m2 j (by omega)).2, e2 j (by omega)]
/-- two codings differ: so do the texts -/
theorem Cod.dif {cd cd' : Int32} {n k : Nat} {f g : Nat → Int32} {V V' : Cell} (h : Cod cd n f V) (h' : Cod cd' k g V') (hne : ¬ cd = cd') : ¬ SameT n f k g := by
  rintro ⟨rfl, e⟩
  rcases h with ⟨rfl, -, k2⟩ | ⟨rfl, -, -, j, hj, hw⟩
  · rcases h' with ⟨rfl, -⟩ | ⟨-, -, -, j, hj, hw⟩
    · exact hne rfl
    · exact (k2 j hj).2 (by rw [e j hj]; exact hw)
  · rcases h' with ⟨-, -, m2⟩ | ⟨rfl, -⟩
    · exact (m2 j hj).2 (by rw [← e j hj]; exact hw)
    · exact hne rfl
/-- an object of exactly C is an instance of C -/
theorem cinst {p : Program} {l : Launch} {e : Env} {R : Room} {s : State} {m : MethodId} {args : Array Value} {below : List Frame} {meth : Method} {c : Code} {T : State} {locs : List Loc} {cells slots : Nat} (X : Stand p l e R s m args below meth c T locs cells slots) (hexec : p.tables.exec = Jvm.exec) {own C : String} {index : Nat} (hown : s.vm.findClass own = some m.cls) (hlink : (Cond.classLink own index C).before args s = true) {a : Addr} (hE : Exact C a T)
    {g : JFrame} (hg : g.method = m) {rest : List Value} (hstack : g.stack = .ref a :: rest) (hdg : decode c.code g.pc = .ok (.instanceof index, 3)) :
    ∃ T', Stand p l e R s m args below meth c T' locs cells slots ∧ T'.heap = T.heap ∧ ∀ target, Steps p.tables e below (T'.setTop { g with pc := g.pc + 3, stack := .int 1 :: rest }) target → Steps p.tables e below (T.setTop g) target := by
  obtain ⟨cB, h1, D, h2, h3, h4⟩ := hE
  have h1' : s.vm.findClass C = some cB := by rw [← X.warmed.alike.findClass]; exact h1
  obtain ⟨vm', X', st⟩ := X.instanceofYes hexec hown hlink h2 h4 h1' (by rw [h3]; exact Jvm.Free.SB.assignable_self _ _) hg hstack hdg
  exact ⟨_, X', rfl, st⟩
theorem cself {p : Program} {l : Launch} {e : Env} {R : Room} {s : State} {m : MethodId} {args : Array Value} {below : List Frame} {meth : Method} {c : Code} {T : State} {locs : List Loc} {cells slots : Nat} (X : Stand p l e R s m args below meth c T locs cells slots) (hexec : p.tables.exec = Jvm.exec) {own C : String} {index : Nat} (hown : s.vm.findClass own = some m.cls) (hlink : (Cond.classLink own index C).before args s = true) {a : Addr} (hE : Exact C a T)
    {g : JFrame} (hg : g.method = m) {rest : List Value} (hstack : g.stack = .ref a :: rest) (hdg : decode c.code g.pc = .ok (.checkcast index, 3)) :
    ∃ T', Stand p l e R s m args below meth c T' locs cells slots ∧ T'.heap = T.heap ∧ ∀ target, Steps p.tables e below (T'.setTop { g with pc := g.pc + 3, stack := .ref a :: rest }) target → Steps p.tables e below (T.setTop g) target := by
  obtain ⟨cB, h1, D, h2, h3, h4⟩ := hE
  have h1' : s.vm.findClass C = some cB := by rw [← X.warmed.alike.findClass]; exact h1
  obtain ⟨vm', X', st⟩ := X.checkcastYes hexec hown hlink h2 h4 h1' (by rw [h3]; exact Jvm.Free.SB.assignable_self _ _) hg hstack hdg
  exact ⟨_, X', rfl, fun t h => st t (by rw [← hstack] at h; exact h)⟩
namespace SEq
def yN : MethodName := ⟨"java/lang/String", "equals", "(Ljava/lang/Object;)Z"⟩
abbrev yB : ByteArray := jdk_42_method_66_code
theorem d0 : decode yB 0 = .ok (.aload_n 0, 1) := by decide +kernel
theorem d1 : decode yB 1 = .ok (.aload_n 1, 1) := by decide +kernel
theorem d2 : decode yB 2 = .ok (.if_acmp (.ne) 5, 3) := by decide +kernel
theorem d5 : decode yB 5 = .ok (.iconst 1, 1) := by decide +kernel
theorem d6 : decode yB 6 = .ok (.ireturn, 1) := by decide +kernel
theorem d7 : decode yB 7 = .ok (.aload_n 1, 1) := by decide +kernel
theorem d8 : decode yB 8 = .ok (.instanceof 10, 3) := by decide +kernel
theorem d11 : decode yB 11 = .ok (.ifCond (.eq) 43, 3) := by decide +kernel
theorem d14 : decode yB 14 = .ok (.aload_n 1, 1) := by decide +kernel
theorem d15 : decode yB 15 = .ok (.checkcast 10, 3) := by decide +kernel
theorem d18 : decode yB 18 = .ok (.astore_n 2, 1) := by decide +kernel
theorem d19 : decode yB 19 = .ok (.getstatic 38, 3) := by decide +kernel
theorem d22 : decode yB 22 = .ok (.ifCond (.eq) 14, 3) := by decide +kernel
theorem d25 : decode yB 25 = .ok (.aload_n 0, 1) := by decide +kernel
theorem d26 : decode yB 26 = .ok (.getfield 15, 3) := by decide +kernel
theorem d29 : decode yB 29 = .ok (.aload_n 2, 1) := by decide +kernel
theorem d30 : decode yB 30 = .ok (.getfield 15, 3) := by decide +kernel
theorem d33 : decode yB 33 = .ok (.if_icmp (.ne) 21, 3) := by decide +kernel
theorem d36 : decode yB 36 = .ok (.aload_n 0, 1) := by decide +kernel
theorem d37 : decode yB 37 = .ok (.getfield 9, 3) := by decide +kernel
theorem d40 : decode yB 40 = .ok (.aload_n 2, 1) := by decide +kernel
theorem d41 : decode yB 41 = .ok (.getfield 9, 3) := by decide +kernel
theorem d44 : decode yB 44 = .ok (.invokestatic 541, 3) := by decide +kernel
theorem d47 : decode yB 47 = .ok (.ifCond (.eq) 7, 3) := by decide +kernel
theorem d50 : decode yB 50 = .ok (.iconst 1, 1) := by decide +kernel
theorem d51 : decode yB 51 = .ok (.goto 4, 3) := by decide +kernel
theorem d54 : decode yB 54 = .ok (.iconst 0, 1) := by decide +kernel
theorem d55 : decode yB 55 = .ok (.ireturn, 1) := by decide +kernel
def site : List Cond := [.classLink "java/lang/String" 10 "java/lang/String", .fieldLink "java/lang/String" 38 "java/lang/String" "COMPACT_STRINGS" "Z", .fieldLink "java/lang/String" 15 "java/lang/String" "coder" "B", .fieldLink "java/lang/String" 9 "java/lang/String" "value" "[B", LEq.tab] ++ staticW "java/lang/String" 541 LEq.yN
def tab : Cond := tabOf yN yB 3 (some .boolean) site
def P (x t : Addr) (V : Cell) (cd : Int32) (n : Nat) (f : Nat → Int32) (y t' : Addr) (V' : Cell) (cd' : Int32) (k : Nat) (g : Nat → Int32) (z : Int32) (args : Array Value) (s : State) : Prop := args = #[.ref x, .ref y] ∧ Txt x t V cd n f s ∧ Txt y t' V' cd' k g s ∧ StaticIs s "java/lang/String" "COMPACT_STRINGS" "Z" (.int z) ∧ ¬ z = 0
/-- equals(Object) of two Strings: whether the texts are the same -/
theorem law (l : Launch) (x t : Addr) (V : Cell) (cd : Int32) (n : Nat) (f : Nat → Int32) (y t' : Addr) (V' : Cell) (cd' : Int32) (k : Nat) (g : Nat → Int32) (z : Int32) : Law l yN 2 1 1 14 yB 3 (some .boolean) site (P x t V cd n f y t' V' cd' k g z) (Says01 (SameT n f k g)) [] 0 0 := by
  refine Law.of_walk (plainFor_of_name (by decide +kernel)) (by decide +kernel) (by decide +kernel) (by decide) (fun _ _ h => by rw [h.1]; rfl) (fun _ U U' hal hh h => ⟨h.1, h.2.1.mv hal hh, h.2.2.1.mv hal hh, h.2.2.2.1.there hal hh, h.2.2.2.2⟩) (fun r U U' V V' h1 hal h2 h => Says01.mv r U U' V V' h1 hal h2 h) ?_
  intro p e s m args below meth c s₁ X0 hexec hbytes hml hret hlk hnm hown hh0 W hP
  obtain ⟨rfl, hx, hy, s1, hz⟩ := hP
  have c1 : Steps p.tables e below (s₁.setTop (entryFrame m #[.ref x, .ref y] 3)) (s₁.setTop (mkF m 2 #[.val (.ref x), .val (.ref y), .unset] [.ref y, .ref x])) := Steps.trans (entry rfl) (by
    show Steps p.tables e below (s₁.setTop (mkF m 0 #[.val (.ref x), .val (.ref y), .unset] [])) _
    refine XS.aloadN X0.here hexec rfl (hb hbytes d0) rfl rfl ?_
    refine XS.aloadN X0.here hexec rfl (hb hbytes d1) rfl rfl ?_
    exact Steps.refl _)
  by_cases hxy : x = y
  · have c2 : Steps p.tables e below (s₁.setTop (entryFrame m #[.ref x, .ref y] 3)) (s₁.setTop (mkF m 6 #[.val (.ref x), .val (.ref y), .unset] [.int 1])) := c1.trans (by
      refine acmpNo X0.here hexec rfl (hb hbytes d2) rfl rfl rfl (by simp [acmp, hxy]) ?_
      refine iconstV X0.here hexec rfl 1 (hb hbytes d5) (by decide) ?_
      exact Steps.refl _)
    subst hxy
    have ec : cd = cd' := by
      obtain ⟨D, fd, a1, a2, a3⟩ := hx.2.2.1
      obtain ⟨D', fd', b1, b2, b3⟩ := hy.2.2.1
      cases a1.symm.trans b1
      obtain ⟨q1, q2, q3, q4⟩ := a2.1
      obtain ⟨r1, r2, r3, r4⟩ := b2.1
      cases q4.symm.trans r4
      cases a3.symm.trans b3; rfl
    have et : t = t' := by
      obtain ⟨D, fd, a1, a2, a3⟩ := hx.2.1
      obtain ⟨D', fd', b1, b2, b3⟩ := hy.2.1
      cases a1.symm.trans b1
      obtain ⟨q1, q2, q3, q4⟩ := a2.1
      obtain ⟨r1, r2, r3, r4⟩ := b2.1
      cases q4.symm.trans r4
      cases a3.symm.trans b3; rfl
    subst ec et
    have ev : V = V' := by cases hx.2.2.2.1.1.symm.trans hy.2.2.2.1.1; rfl
    subst ev
    have hs : SameT n f k g := (Cod.eqv hx.2.2.2.2.1 hy.2.2.2.2.1 hx.2.2.2.2.2 hy.2.2.2.2.2).mp ⟨rfl, fun _ _ => rfl⟩
    exact ⟨s₁, some (.int 1), _, _, _, X0, rfl, rfl, rfl, (fun h => by cases h), ⟨1, rfl, hh0, Or.inl ⟨rfl, hs⟩⟩, fun fs hl => c2.trans (X0.ireturnOut hexec hret rfl (Or.inr (Or.inl rfl)) (hb hbytes d6) hl)⟩
  · have c2 : Steps p.tables e below (s₁.setTop (entryFrame m #[.ref x, .ref y] 3)) (s₁.setTop (mkF m 8 #[.val (.ref x), .val (.ref y), .unset] [.ref y])) := c1.trans (by
      refine acmpYes X0.here hexec rfl (pc0 := 2) rfl (hb hbytes d2) rfl rfl rfl (by simp [acmp, hxy]) (by decide) rfl ?_
      refine XS.aloadN X0.here hexec rfl (hb hbytes d7) rfl rfl ?_
      exact Steps.refl _)
    obtain ⟨T3, X3, q3, st3⟩ := cinst X0 hexec hown (wk W (.classLink "java/lang/String" 10 "java/lang/String")) (hy.mv X0.warmed.alike hh0).1 (g := (mkF m 8 #[.val (.ref x), .val (.ref y), .unset] [.ref y])) rfl (rest := []) rfl (hb hbytes d8)
    have hh3 := q3.trans hh0
    have c4 : Steps p.tables e below (s₁.setTop (entryFrame m #[.ref x, .ref y] 3)) (T3.setTop (mkF m 15 #[.val (.ref x), .val (.ref y), .unset] [.ref y])) := (c2.trans (st3 _ (Steps.refl _))).trans (by
      refine XS.ifNo X3.here hexec rfl (hb hbytes d11) rfl (i0_eq_f (by decide)) ?_
      refine XS.aloadN X3.here hexec rfl (hb hbytes d14) rfl rfl ?_
      exact Steps.refl _)
    obtain ⟨T5, X5, q5, st5⟩ := cself X3 hexec hown (wk W (.classLink "java/lang/String" 10 "java/lang/String")) (hy.mv X3.warmed.alike hh3).1 (g := (mkF m 15 #[.val (.ref x), .val (.ref y), .unset] [.ref y])) rfl (rest := []) rfl (hb hbytes d15)
    have hh5 := q5.trans hh3
    have c6 : Steps p.tables e below (s₁.setTop (entryFrame m #[.ref x, .ref y] 3)) (T5.setTop (mkF m 19 #[.val (.ref x), .val (.ref y), .val (.ref y)] [])) := (c4.trans (st5 _ (Steps.refl _))).trans (by
      refine XS.astoreN X5.here hexec rfl (hb hbytes d18) rfl rfl rfl ?_
      exact Steps.refl _)
    obtain ⟨T7, X7, q7, st7⟩ := X5.sget hexec hown (wk W (.fieldLink "java/lang/String" 38 "java/lang/String" "COMPACT_STRINGS" "Z")) s1 (fun _ _ h => by rw [hh5]; exact h) (g := (mkF m 19 #[.val (.ref x), .val (.ref y), .val (.ref y)] [])) rfl (hb hbytes d19)
    have hh7 := q7.trans hh5
    have c8 : Steps p.tables e below (s₁.setTop (entryFrame m #[.ref x, .ref y] 3)) (T7.setTop (mkF m 26 #[.val (.ref x), .val (.ref y), .val (.ref y)] [.ref x])) := (c6.trans (st7 _ (Steps.refl _))).trans (by
      refine XS.ifNo X7.here hexec rfl (hb hbytes d22) rfl (i0_eq_f hz) ?_
      refine XS.aloadN X7.here hexec rfl (hb hbytes d25) rfl rfl ?_
      exact Steps.refl _)
    obtain ⟨T9, X9, q9, st9⟩ := X7.hget hexec hown (wk W (.fieldLink "java/lang/String" 15 "java/lang/String" "coder" "B")) (hx.mv X7.warmed.alike hh7).2.2.1 (g := (mkF m 26 #[.val (.ref x), .val (.ref y), .val (.ref y)] [.ref x])) rfl (rest := []) rfl (hb hbytes d26)
    have hh9 := q9.trans hh7
    have c10 : Steps p.tables e below (s₁.setTop (entryFrame m #[.ref x, .ref y] 3)) (T9.setTop (mkF m 30 #[.val (.ref x), .val (.ref y), .val (.ref y)] [.ref y, .int cd])) := (c8.trans (st9 _ (Steps.refl _))).trans (by
      refine XS.aloadN X9.here hexec rfl (hb hbytes d29) rfl rfl ?_
      exact Steps.refl _)
    obtain ⟨T11, X11, q11, st11⟩ := X9.hget hexec hown (wk W (.fieldLink "java/lang/String" 15 "java/lang/String" "coder" "B")) (hy.mv X9.warmed.alike hh9).2.2.1 (g := (mkF m 30 #[.val (.ref x), .val (.ref y), .val (.ref y)] [.ref y, .int cd])) rfl (rest := [.int cd]) rfl (hb hbytes d30)
    have hh11 := q11.trans hh9
    have c12 : Steps p.tables e below (s₁.setTop (entryFrame m #[.ref x, .ref y] 3)) (T11.setTop (mkF m 33 #[.val (.ref x), .val (.ref y), .val (.ref y)] [.int cd', .int cd])) := c10.trans (st11 _ (Steps.refl _))
    by_cases hcd : cd = cd'
    · subst hcd
      have c13 : Steps p.tables e below (s₁.setTop (entryFrame m #[.ref x, .ref y] 3)) (T11.setTop (mkF m 37 #[.val (.ref x), .val (.ref y), .val (.ref y)] [.ref x])) := c12.trans (by
        refine XS.icmpNo X11.here hexec rfl (hb hbytes d33) rfl (ii_ne_f rfl) ?_
        refine XS.aloadN X11.here hexec rfl (hb hbytes d36) rfl rfl ?_
        exact Steps.refl _)
      obtain ⟨T14, X14, q14, st14⟩ := X11.hget hexec hown (wk W (.fieldLink "java/lang/String" 9 "java/lang/String" "value" "[B")) (hx.mv X11.warmed.alike hh11).2.1 (g := (mkF m 37 #[.val (.ref x), .val (.ref y), .val (.ref y)] [.ref x])) rfl (rest := []) rfl (hb hbytes d37)
      have hh14 := q14.trans hh11
      have c15 : Steps p.tables e below (s₁.setTop (entryFrame m #[.ref x, .ref y] 3)) (T14.setTop (mkF m 41 #[.val (.ref x), .val (.ref y), .val (.ref y)] [.ref y, .ref t])) := (c13.trans (st14 _ (Steps.refl _))).trans (by
        refine XS.aloadN X14.here hexec rfl (hb hbytes d40) rfl rfl ?_
        exact Steps.refl _)
      obtain ⟨T16, X16, q16, st16⟩ := X14.hget hexec hown (wk W (.fieldLink "java/lang/String" 9 "java/lang/String" "value" "[B")) (hy.mv X14.warmed.alike hh14).2.1 (g := (mkF m 41 #[.val (.ref x), .val (.ref y), .val (.ref y)] [.ref y, .ref t])) rfl (rest := [.ref t]) rfl (hb hbytes d41)
      have hh16 := q16.trans hh14
      have c17 : Steps p.tables e below (s₁.setTop (entryFrame m #[.ref x, .ref y] 3)) (T16.setTop (mkF m 44 #[.val (.ref x), .val (.ref y), .val (.ref y)] [.ref t', .ref t])) := c15.trans (st16 _ (Steps.refl _))
      obtain ⟨v18, T18, X18, E18, g18⟩ := X16.callS hexec (LEq.law l t V t' V') hown (wks W (staticW "java/lang/String" 541 LEq.yN)) (wk W LEq.tab) (W := 0) (Nat.le_of_ble_eq_true rfl) (Nat.le_of_ble_eq_true rfl) (Nat.le_refl _) (Nat.le_refl _) (g := (mkF m 44 #[.val (.ref x), .val (.ref y), .val (.ref y)] [.ref t', .ref t])) rfl (by rw [hml]; rfl) c17 (argsL := [.ref t, .ref t']) (rest := []) rfl rfl (by show 2 * 0 + 0 ≤ _; decide) (hb hbytes d44) (⟨rfl, hx.2.2.2.1.mv X16.warmed.alike hh16, hx.2.2.2.2.1.ty, hy.2.2.2.1.mv X16.warmed.alike hh16, hy.2.2.2.2.1.ty⟩)
      obtain ⟨v, rfl, q18, hv⟩ := E18
      have iff := Cod.eqv hx.2.2.2.2.1 hy.2.2.2.2.1 hx.2.2.2.2.2 hy.2.2.2.2.2
      rcases hv with ⟨rfl, he⟩ | ⟨rfl, he⟩
      · have c19 : Steps p.tables e below (s₁.setTop (entryFrame m #[.ref x, .ref y] 3)) (T18.setTop (mkF m 55 #[.val (.ref x), .val (.ref y), .val (.ref y)] [.int 1])) := Steps.trans g18 (by
          refine XS.ifNo X18.here hexec rfl (hb hbytes d47) rfl (i0_eq_f (by decide)) ?_
          refine iconstV X18.here hexec rfl 1 (hb hbytes d50) (by decide) ?_
          refine XS.goto X18.here hexec rfl (pc0 := 51) rfl (hb hbytes d51) (by decide) rfl ?_
          exact Steps.refl _)
        exact ⟨T18, some (.int 1), _, _, _, X18, rfl, rfl, rfl, (fun h => by cases h), ⟨1, rfl, q18.trans hh16, Or.inl ⟨rfl, iff.mp he⟩⟩, fun fs hl => c19.trans (X18.ireturnOut hexec hret rfl (Or.inr (Or.inl rfl)) (hb hbytes d55) hl)⟩
      · have c19 : Steps p.tables e below (s₁.setTop (entryFrame m #[.ref x, .ref y] 3)) (T18.setTop (mkF m 55 #[.val (.ref x), .val (.ref y), .val (.ref y)] [.int 0])) := Steps.trans g18 (by
          refine XS.ifYes X18.here hexec rfl (pc0 := 47) rfl (hb hbytes d47) rfl (i0_eq_t rfl) (by decide) rfl ?_
          refine iconstV X18.here hexec rfl 0 (hb hbytes d54) (by decide) ?_
          exact Steps.refl _)
        exact ⟨T18, some (.int 0), _, _, _, X18, rfl, rfl, rfl, (fun h => by cases h), ⟨0, rfl, q18.trans hh16, Or.inr ⟨rfl, fun q => he (iff.mpr q)⟩⟩, fun fs hl => c19.trans (X18.ireturnOut hexec hret rfl (Or.inr (Or.inl rfl)) (hb hbytes d55) hl)⟩
    · have c13 : Steps p.tables e below (s₁.setTop (entryFrame m #[.ref x, .ref y] 3)) (T11.setTop (mkF m 55 #[.val (.ref x), .val (.ref y), .val (.ref y)] [.int 0])) := c12.trans (by
        refine XS.icmpYes X11.here hexec rfl (pc0 := 33) rfl (hb hbytes d33) rfl (ii_ne_t hcd) (by decide) rfl ?_
        refine iconstV X11.here hexec rfl 0 (hb hbytes d54) (by decide) ?_
        exact Steps.refl _)
      exact ⟨T11, some (.int 0), _, _, _, X11, rfl, rfl, rfl, (fun h => by cases h), ⟨0, rfl, hh11, Or.inr ⟨rfl, Cod.dif hx.2.2.2.2.1 hy.2.2.2.2.1 hcd⟩⟩, fun fs hl => c13.trans (X11.ireturnOut hexec hret rfl (Or.inr (Or.inl rfl)) (hb hbytes d55) hl)⟩
theorem pays {l : Launch} {R : Room} {p : Program} {e : Env} {below : List Frame} {s : State} {sargs : Array Value} {len W : Nat} (x t : Addr) (V : Cell) (cd : Int32) (n : Nat) (f : Nat → Int32) (y t' : Addr) (V' : Cell) (cd' : Int32) (k : Nat) (g : Nat → Int32) (z : Int32) (htab : tab.before sargs s = true) (hfr : 2 ≤ R.frames) (hlo : W + 28 ≤ R.locals) :
    Back l R p e below s sargs yN len W (fun A₁ a₁ => A₁.cells + 0 ≤ R.cells ∧ A₁.slots + 0 ≤ R.slots ∧ P x t V cd n f y t' V' cd' k g z a₁ A₁.U) (fun A₁ _ v₁ B₁ => Says01 (SameT n f k g) v₁ A₁.U B₁.U ∧ B₁.locs = A₁.locs ++ [] ∧ B₁.cells = A₁.cells + 0 ∧ B₁.slots = A₁.slots + 0) :=
  (law l x t V cd n f y t' V' cd' k g z).pays htab hfr (by omega)
end SEq
end StrChars
namespace StrChars.Road
open Jvm Sem ClassFile Op Lib Jvm.Stand Jvm.Free Jvm.Free.XT
open Jvm.Lib.Cold (StaticIs)
/-- the words of String.equals(Object) -/
abbrev wordsEq : List Jvm.Cond := [.code SEq.yN SEq.yB 3 (some .boolean), .initialized ST, .classLink ST 10 ST, .fieldLink ST 38 ST "COMPACT_STRINGS" "Z", .fieldLink ST 15 ST "coder" "B", .fieldLink ST 9 ST "value" "[B", .methodLink ST 541 LEq.yN, .static LEq.yN, .code LEq.yN LEq.yB 3 (some .boolean), .initialized "java/lang/StringLatin1"]
theorem tabEq_of {a : Array Value} {s : State} (h : ∀ w ∈ wordsEq, w.before a s = true) : SEq.tab.before a s = true := by
  have hl : LEq.tab.before a s = true := unparts (wk h (.code LEq.yN LEq.yB 3 (some .boolean))) (wks h (.initialized LEq.yN.cls :: LEq.site))
  have q := consq hl h
  exact unparts (wk q (.code SEq.yN SEq.yB 3 (some .boolean))) (wks q (.initialized SEq.yN.cls :: SEq.site))
theorem movedEq {Z s : State} {a0 args : Array Value} (hZ : Z.Warmed39 s.vm) (hw : ∀ d ∈ wordsEq, d.before a0 Z = true) : ∀ d ∈ wordsEq, d.before args s = true := fun d hd => by
  have t : ∀ d ∈ wordsEq, (d.onTables && d.keepsFace) = true := by decide +kernel
  exact RoadKit.mv hZ (hw d hd) (t d hd)
/-- the road's facts of a String, as the laws ask it -/
theorem txt_of {Z U : State} {a0 : Array Value} {kI : Nat} (wi : (Jvm.Cond.instantiable ST kI).before a0 Z = true) (al : Z.vm.Alike U.vm) {x t : Addr} {kb : ClassId} {cs : List Int32} {cd N2 : Int32} {vs : List Value} (E : RoadKit.Exa Z U.heap x ST) (V : RoadKit.Fld Z U.heap x ST "value" "[B" (.ref t)) (C : RoadKit.Fld Z U.heap x ST "coder" "B" (.int cd)) (K : RoadKit.Arv Z U.heap t kb .byte N2 vs (.int 0)) (hc : CodA cs cd N2 vs) (hb : ∀ c ∈ cs, ¬ c < 0 ∧ ¬ (65535 : Int32) < c) (l2 : cs.length ≤ 4000) :
    ∃ A, Txt x t A cd cs.length (fun j => cs.getD j 0) U := by
  obtain ⟨A, K1, K2, K3, K4, K5, K6⟩ := K
  have hcod := hc.cod (by omega) K3 K5
  obtain ⟨D, fV, fC, hB, F1, F2, g1, g2, -, -⟩ := strObj wi al E V C
  exact ⟨A, ⟨_, hB.2.2.1, D, hB.1, rfl, by cases q : D.vm <;> first | rfl | exact absurd q (hB.2.1.2 _)⟩, Has.of hB F1 g1, Has.of hB F2 g2, ⟨K1.1, State.isArrayOf_alike al K1.2.1, K1.2.2, by rcases hcod with ⟨-, q, -⟩ | ⟨-, q, -⟩ <;> omega⟩, hcod, fun j hj => by
    have e : cs.getD j 0 = cs[j] := by simp [List.getD_eq_getElem?_getD, hj]
    show ¬ cs.getD j 0 < 0 ∧ ¬ 65535 < cs.getD j 0
    rw [e]; exact hb _ (List.getElem_mem _)⟩
theorem same_list (cs ds : List Int32) : SameT cs.length (fun j => cs.getD j 0) ds.length (fun j => ds.getD j 0) ↔ cs = ds := by
  constructor
  · rintro ⟨e, q⟩
    refine List.ext_getElem e fun j h1 h2 => ?_
    have := q j h1
    simpa [List.getD_eq_getElem?_getD, h1, h2] using this
  · rintro rfl
    exact ⟨rfl, fun _ _ => rfl⟩
/-- **equals(Object) OF TWO SUCH STRINGS**: 1 just where the chars are the same -/
theorem eqW {p : Program} {l : Launch} {e : Env} {R : Room} {s : State} {args : Array Value} {below : List Frame} {len W : Nat} {Z : State} {a0 : Array Value} {h : Heap} (hZ : Z.Warmed39 s.vm) (hw : ∀ d ∈ wordsEq, d.before a0 Z = true) {kI : Nat} (wi : (Jvm.Cond.instantiable ST kI).before a0 Z = true)
    {x t : Addr} {kb : ClassId} {cs : List Int32} {cd N2 : Int32} {vs : List Value} (E : RoadKit.Exa Z h x ST) (V : RoadKit.Fld Z h x ST "value" "[B" (.ref t)) (C : RoadKit.Fld Z h x ST "coder" "B" (.int cd)) (K : RoadKit.Arv Z h t kb .byte N2 vs (.int 0)) (hc : CodA cs cd N2 vs) (hb : ∀ c ∈ cs, ¬ c < 0 ∧ ¬ (65535 : Int32) < c) (l2 : cs.length ≤ 4000)
    {y t' : Addr} {kb' : ClassId} {ds : List Int32} {cd' N2' : Int32} {vs' : List Value} (E' : RoadKit.Exa Z h y ST) (V' : RoadKit.Fld Z h y ST "value" "[B" (.ref t')) (C' : RoadKit.Fld Z h y ST "coder" "B" (.int cd')) (K' : RoadKit.Arv Z h t' kb' .byte N2' vs' (.int 0)) (hc' : CodA ds cd' N2' vs') (hb' : ∀ c ∈ ds, ¬ c < 0 ∧ ¬ (65535 : Int32) < c) (l2' : ds.length ≤ 4000)
    {z : Int32} (S : RoadKit.Sta Z h ST "COMPACT_STRINGS" "Z" (.int z)) (hz : ¬ z = 0) (hfr : 2 ≤ R.frames) (hlo : W + 28 ≤ R.locals) :
    Back l R p e below s args (⟨"java/lang/String", "equals", "(Ljava/lang/Object;)Z"⟩ : MethodName) len W (fun P a => a = #[.ref x, .ref y] ∧ P.U.heap = h ∧ P.cells + 0 ≤ R.cells ∧ P.slots + 0 ≤ R.slots)
      (fun P _ v B => ∃ L, (((v = some (.int 1) ∧ cs = ds) ∨ (v = some (.int 0) ∧ ¬ cs = ds)) ∧ L = [] ∧ B.U.heap = h) ∧ B.locs = P.locs ++ L ∧ B.cells = P.cells + 0 ∧ B.slots = P.slots + 0) := by
  intro m meth c P g ig mk a X hg hsize hdg hW hn hp'
  obtain ⟨rfl, rfl, r1, r2⟩ := hp'
  have al : Z.vm.Alike P.U.vm := hZ.alike.trans X.warmed.alike
  obtain ⟨A, hx⟩ := txt_of wi al E V C K hc hb l2
  obtain ⟨A', hy⟩ := txt_of wi al E' V' C' K' hc' hb' l2'
  obtain ⟨v, B, X', ⟨⟨w, hv, hh, hq⟩, hl, hk, hs⟩, st⟩ := SEq.pays x t A cd cs.length (fun j => cs.getD j 0) y t' A' cd' ds.length (fun j => ds.getD j 0) z (tabEq_of (movedEq hZ hw)) hfr hlo m meth c P g ig mk _ X hg hsize hdg hW hn ⟨r1, r2, rfl, hx, hy, sta_is al S, hz⟩
  refine ⟨v, B, X', ⟨[], ⟨?_, rfl, hh⟩, hl, hk, hs⟩, st⟩
  rcases hq with ⟨rfl, q⟩ | ⟨rfl, q⟩
  · exact Or.inl ⟨hv, (same_list cs ds).mp q⟩
  · exact Or.inr ⟨hv, fun e => q ((same_list cs ds).mpr e)⟩
end StrChars.Road
namespace StrChars.Road
open Jvm Sem ClassFile Op Lib Jvm.Stand Jvm.Free Jvm.Free.XT
open Jvm.Lib.Cold (StaticIs)
/-- what backV says of its String, as the contracts of this text ask it: cs's low bytes, coder 0 -/
theorem codOf {cs : List Int32} {n : Nat} (hn : cs.length = n) (hb : ∀ c ∈ cs, ¬ 255 < c) : CodA cs 0 (Int32.ofNat n) ((cs.map lo8).map Value.int) := Or.inl ⟨rfl, by rw [hn], by simp [List.map_map, Function.comp_def], hb⟩
end StrChars.Road
end Jvm.Pilot.@@N@@
namespace Jvm.Pilot.@@N@@
open Jvm Jvm.ClassFile Sem Op Lib Jvm.Free Jvm.Stand Jvm.LawKit Jvm.RoadKit Jvm.OwnKit Bundle Jvm.Pilot.@@N@@.Jvm.D
def Ev (Z : State) (a0 : Array Value) : Prop := (∀ d ∈ tables_1, d.before a0 Z = true) ∧ (∃ z : Int32, Sta Z Z.heap "java/lang/String" "COMPACT_STRINGS" "Z" (.int z) ∧ ¬ z = 0) ∧ (∃ fm : Value, Sta Z Z.heap "jdk/internal/util/Preconditions" "SIOOBE_FORMATTER" "Ljava/util/function/BiFunction;" fm ∧ fm.isRef = true)
theorem tw0 {Z : State} {a0 : Array Value} (hw : ∀ d ∈ tables_1, d.before a0 Z = true) : (Jvm.Cond.arrayClass Jvm.ClassFile.FieldType.char).before a0 Z = true := hw _ (List.mem_of_getElem? (i := 0) rfl)
theorem tw1 {Z : State} {a0 : Array Value} (hw : ∀ d ∈ tables_1, d.before a0 Z = true) : (Jvm.Cond.classLink "org/grantpath/ComparisonOfPinLaw" (7 : Nat) "java/lang/String").before a0 Z = true := hw _ (List.mem_of_getElem? (i := 1) rfl)
theorem tw2 {Z : State} {a0 : Array Value} (hw : ∀ d ∈ tables_1, d.before a0 Z = true) : (Jvm.Cond.instantiable "java/lang/String" (4 : Nat)).before a0 Z = true := hw _ (List.mem_of_getElem? (i := 2) rfl)
theorem tw3 {Z : State} {a0 : Array Value} (hw : ∀ d ∈ tables_1, d.before a0 Z = true) : (Jvm.Cond.initialized "java/lang/String").before a0 Z = true := hw _ (List.mem_of_getElem? (i := 3) rfl)
theorem tw4 {Z : State} {a0 : Array Value} (hw : ∀ d ∈ tables_1, d.before a0 Z = true) : (Jvm.Cond.methodLink "org/grantpath/ComparisonOfPinLaw" (9 : Nat) ({ cls := "java/lang/String", name := "<init>", desc := "([C)V" } : Jvm.MethodName)).before a0 Z = true := hw _ (List.mem_of_getElem? (i := 4) rfl)
theorem tw5 {Z : State} {a0 : Array Value} (hw : ∀ d ∈ tables_1, d.before a0 Z = true) : (Jvm.Cond.instanceMethod ({ cls := "java/lang/String", name := "<init>", desc := "([C)V" } : Jvm.MethodName)).before a0 Z = true := hw _ (List.mem_of_getElem? (i := 5) rfl)
theorem tw6 {Z : State} {a0 : Array Value} (hw : ∀ d ∈ tables_1, d.before a0 Z = true) : (Jvm.Cond.code ({ cls := "java/lang/String", name := "<init>", desc := "([C)V" } : Jvm.MethodName) jdk_42_method_3_code (2 : Nat) (Option.none : Option Jvm.ClassFile.FieldType)).before a0 Z = true := hw _ (List.mem_of_getElem? (i := 6) rfl)
theorem tw11 {Z : State} {a0 : Array Value} (hw : ∀ d ∈ tables_1, d.before a0 Z = true) : (Jvm.Cond.methodLink "java/lang/String" (1 : Nat) ({ cls := "java/lang/Object", name := "<init>", desc := "()V" } : Jvm.MethodName)).before a0 Z = true := hw _ (List.mem_of_getElem? (i := 11) rfl)
theorem tw12 {Z : State} {a0 : Array Value} (hw : ∀ d ∈ tables_1, d.before a0 Z = true) : (Jvm.Cond.instanceMethod ({ cls := "java/lang/Object", name := "<init>", desc := "()V" } : Jvm.MethodName)).before a0 Z = true := hw _ (List.mem_of_getElem? (i := 12) rfl)
theorem tw13 {Z : State} {a0 : Array Value} (hw : ∀ d ∈ tables_1, d.before a0 Z = true) : (Jvm.Cond.code ({ cls := "java/lang/Object", name := "<init>", desc := "()V" } : Jvm.MethodName) object_method_1_code (1 : Nat) (Option.none : Option Jvm.ClassFile.FieldType)).before a0 Z = true := hw _ (List.mem_of_getElem? (i := 13) rfl)
theorem tw14 {Z : State} {a0 : Array Value} (hw : ∀ d ∈ tables_1, d.before a0 Z = true) : (Jvm.Cond.fieldLink "java/lang/String" (38 : Nat) "java/lang/String" "COMPACT_STRINGS" "Z").before a0 Z = true := hw _ (List.mem_of_getElem? (i := 14) rfl)
theorem tw19 {Z : State} {a0 : Array Value} (hw : ∀ d ∈ tables_1, d.before a0 Z = true) : (Jvm.Cond.arrayClass Jvm.ClassFile.FieldType.byte).before a0 Z = true := hw _ (List.mem_of_getElem? (i := 19) rfl)
theorem tw26 {Z : State} {a0 : Array Value} (hw : ∀ d ∈ tables_1, d.before a0 Z = true) : (Jvm.Cond.fieldLink "java/lang/String" (15 : Nat) "java/lang/String" "coder" "B").before a0 Z = true := hw _ (List.mem_of_getElem? (i := 26) rfl)
theorem tw27 {Z : State} {a0 : Array Value} (hw : ∀ d ∈ tables_1, d.before a0 Z = true) : (Jvm.Cond.laysFinal "java/lang/String" "java/lang/String" "coder" "B").before a0 Z = true := hw _ (List.mem_of_getElem? (i := 27) rfl)
theorem tw28 {Z : State} {a0 : Array Value} (hw : ∀ d ∈ tables_1, d.before a0 Z = true) : (Jvm.Cond.fieldLink "java/lang/String" (9 : Nat) "java/lang/String" "value" "[B").before a0 Z = true := hw _ (List.mem_of_getElem? (i := 28) rfl)
theorem tw29 {Z : State} {a0 : Array Value} (hw : ∀ d ∈ tables_1, d.before a0 Z = true) : (Jvm.Cond.laysFinal "java/lang/String" "java/lang/String" "value" "[B").before a0 Z = true := hw _ (List.mem_of_getElem? (i := 29) rfl)
theorem tw30 {Z : State} {a0 : Array Value} (hw : ∀ d ∈ tables_1, d.before a0 Z = true) : (Jvm.Cond.methodLink "org/grantpath/ComparisonOfPinLaw" (12 : Nat) ({ cls := "org/grantpath/ComparisonOfPinLaw", name := "head", desc := "([CCCCC)V" } : Jvm.MethodName)).before a0 Z = true := hw _ (List.mem_of_getElem? (i := 30) rfl)
theorem tw31 {Z : State} {a0 : Array Value} (hw : ∀ d ∈ tables_1, d.before a0 Z = true) : (Jvm.Cond.static ({ cls := "org/grantpath/ComparisonOfPinLaw", name := "head", desc := "([CCCCC)V" } : Jvm.MethodName)).before a0 Z = true := hw _ (List.mem_of_getElem? (i := 31) rfl)
theorem tw32 {Z : State} {a0 : Array Value} (hw : ∀ d ∈ tables_1, d.before a0 Z = true) : (Jvm.Cond.initialized "org/grantpath/ComparisonOfPinLaw").before a0 Z = true := hw _ (List.mem_of_getElem? (i := 32) rfl)
theorem tw33 {Z : State} {a0 : Array Value} (hw : ∀ d ∈ tables_1, d.before a0 Z = true) : (Jvm.Cond.code ({ cls := "org/grantpath/ComparisonOfPinLaw", name := "head", desc := "([CCCCC)V" } : Jvm.MethodName) method_2_code (5 : Nat) (Option.none : Option Jvm.ClassFile.FieldType)).before a0 Z = true := hw _ (List.mem_of_getElem? (i := 33) rfl)
theorem tw34 {Z : State} {a0 : Array Value} (hw : ∀ d ∈ tables_1, d.before a0 Z = true) : (Jvm.Cond.classLink "org/grantpath/ComparisonOfPinLaw" (18 : Nat) "org/grantpath/TableSchema$Comparison").before a0 Z = true := hw _ (List.mem_of_getElem? (i := 34) rfl)
theorem tw35 {Z : State} {a0 : Array Value} (hw : ∀ d ∈ tables_1, d.before a0 Z = true) : (Jvm.Cond.instantiable "org/grantpath/TableSchema$Comparison" (2 : Nat)).before a0 Z = true := hw _ (List.mem_of_getElem? (i := 35) rfl)
theorem tw36 {Z : State} {a0 : Array Value} (hw : ∀ d ∈ tables_1, d.before a0 Z = true) : (Jvm.Cond.initialized "org/grantpath/TableSchema$Comparison").before a0 Z = true := hw _ (List.mem_of_getElem? (i := 36) rfl)
theorem tw37 {Z : State} {a0 : Array Value} (hw : ∀ d ∈ tables_1, d.before a0 Z = true) : (Jvm.Cond.methodLink "org/grantpath/ComparisonOfPinLaw" (20 : Nat) ({ cls := "org/grantpath/TableSchema$Comparison", name := "<init>", desc := "(Ljava/lang/String;Ljava/lang/String;)V" } : Jvm.MethodName)).before a0 Z = true := hw _ (List.mem_of_getElem? (i := 37) rfl)
theorem tw38 {Z : State} {a0 : Array Value} (hw : ∀ d ∈ tables_1, d.before a0 Z = true) : (Jvm.Cond.instanceMethod ({ cls := "org/grantpath/TableSchema$Comparison", name := "<init>", desc := "(Ljava/lang/String;Ljava/lang/String;)V" } : Jvm.MethodName)).before a0 Z = true := hw _ (List.mem_of_getElem? (i := 38) rfl)
theorem tw39 {Z : State} {a0 : Array Value} (hw : ∀ d ∈ tables_1, d.before a0 Z = true) : (Jvm.Cond.code ({ cls := "org/grantpath/TableSchema$Comparison", name := "<init>", desc := "(Ljava/lang/String;Ljava/lang/String;)V" } : Jvm.MethodName) prog_35_method_1_code (3 : Nat) (Option.none : Option Jvm.ClassFile.FieldType)).before a0 Z = true := hw _ (List.mem_of_getElem? (i := 39) rfl)
theorem tw40 {Z : State} {a0 : Array Value} (hw : ∀ d ∈ tables_1, d.before a0 Z = true) : (Jvm.Cond.methodLink "org/grantpath/TableSchema$Comparison" (1 : Nat) ({ cls := "java/lang/Record", name := "<init>", desc := "()V" } : Jvm.MethodName)).before a0 Z = true := hw _ (List.mem_of_getElem? (i := 40) rfl)
theorem tw41 {Z : State} {a0 : Array Value} (hw : ∀ d ∈ tables_1, d.before a0 Z = true) : (Jvm.Cond.instanceMethod ({ cls := "java/lang/Record", name := "<init>", desc := "()V" } : Jvm.MethodName)).before a0 Z = true := hw _ (List.mem_of_getElem? (i := 41) rfl)
theorem tw43 {Z : State} {a0 : Array Value} (hw : ∀ d ∈ tables_1, d.before a0 Z = true) : (Jvm.Cond.initialized "java/lang/Record").before a0 Z = true := hw _ (List.mem_of_getElem? (i := 43) rfl)
theorem tw44 {Z : State} {a0 : Array Value} (hw : ∀ d ∈ tables_1, d.before a0 Z = true) : (Jvm.Cond.code ({ cls := "java/lang/Record", name := "<init>", desc := "()V" } : Jvm.MethodName) jdk_30_method_1_code (1 : Nat) (Option.none : Option Jvm.ClassFile.FieldType)).before a0 Z = true := hw _ (List.mem_of_getElem? (i := 44) rfl)
theorem tw45 {Z : State} {a0 : Array Value} (hw : ∀ d ∈ tables_1, d.before a0 Z = true) : (Jvm.Cond.methodLink "java/lang/Record" (1 : Nat) ({ cls := "java/lang/Object", name := "<init>", desc := "()V" } : Jvm.MethodName)).before a0 Z = true := hw _ (List.mem_of_getElem? (i := 45) rfl)
theorem tw46 {Z : State} {a0 : Array Value} (hw : ∀ d ∈ tables_1, d.before a0 Z = true) : (Jvm.Cond.fieldLink "org/grantpath/TableSchema$Comparison" (7 : Nat) "org/grantpath/TableSchema$Comparison" "type" "Ljava/lang/String;").before a0 Z = true := hw _ (List.mem_of_getElem? (i := 46) rfl)
theorem tw47 {Z : State} {a0 : Array Value} (hw : ∀ d ∈ tables_1, d.before a0 Z = true) : (Jvm.Cond.laysFinal "org/grantpath/TableSchema$Comparison" "org/grantpath/TableSchema$Comparison" "type" "Ljava/lang/String;").before a0 Z = true := hw _ (List.mem_of_getElem? (i := 47) rfl)
theorem tw48 {Z : State} {a0 : Array Value} (hw : ∀ d ∈ tables_1, d.before a0 Z = true) : (Jvm.Cond.fieldLink "org/grantpath/TableSchema$Comparison" (13 : Nat) "org/grantpath/TableSchema$Comparison" "collation" "Ljava/lang/String;").before a0 Z = true := hw _ (List.mem_of_getElem? (i := 48) rfl)
theorem tw49 {Z : State} {a0 : Array Value} (hw : ∀ d ∈ tables_1, d.before a0 Z = true) : (Jvm.Cond.laysFinal "org/grantpath/TableSchema$Comparison" "org/grantpath/TableSchema$Comparison" "collation" "Ljava/lang/String;").before a0 Z = true := hw _ (List.mem_of_getElem? (i := 49) rfl)
theorem tw50 {Z : State} {a0 : Array Value} (hw : ∀ d ∈ tables_1, d.before a0 Z = true) : (Jvm.Cond.methodLink "org/grantpath/ComparisonOfPinLaw" (23 : Nat) ({ cls := "org/grantpath/TableSchema$Comparison", name := "of", desc := "(Ljava/lang/String;)Ljava/lang/String;" } : Jvm.MethodName)).before a0 Z = true := hw _ (List.mem_of_getElem? (i := 50) rfl)
theorem tw51 {Z : State} {a0 : Array Value} (hw : ∀ d ∈ tables_1, d.before a0 Z = true) : (Jvm.Cond.declares ({ cls := "org/grantpath/TableSchema$Comparison", name := "of", desc := "(Ljava/lang/String;)Ljava/lang/String;" } : Jvm.MethodName)).before a0 Z = true := hw _ (List.mem_of_getElem? (i := 51) rfl)
theorem tw52 {Z : State} {a0 : Array Value} (hw : ∀ d ∈ tables_1, d.before a0 Z = true) : (Jvm.Cond.instanceMethod ({ cls := "org/grantpath/TableSchema$Comparison", name := "of", desc := "(Ljava/lang/String;)Ljava/lang/String;" } : Jvm.MethodName)).before a0 Z = true := hw _ (List.mem_of_getElem? (i := 52) rfl)
theorem tw53 {Z : State} {a0 : Array Value} (hw : ∀ d ∈ tables_1, d.before a0 Z = true) : (Jvm.Cond.selects "org/grantpath/TableSchema$Comparison" ({ cls := "org/grantpath/TableSchema$Comparison", name := "of", desc := "(Ljava/lang/String;)Ljava/lang/String;" } : Jvm.MethodName) ({ cls := "org/grantpath/TableSchema$Comparison", name := "of", desc := "(Ljava/lang/String;)Ljava/lang/String;" } : Jvm.MethodName)).before a0 Z = true := hw _ (List.mem_of_getElem? (i := 53) rfl)
theorem tw54 {Z : State} {a0 : Array Value} (hw : ∀ d ∈ tables_1, d.before a0 Z = true) : (Jvm.Cond.code ({ cls := "org/grantpath/TableSchema$Comparison", name := "of", desc := "(Ljava/lang/String;)Ljava/lang/String;" } : Jvm.MethodName) prog_35_method_2_code (3 : Nat) (Option.some (Jvm.ClassFile.FieldType.object "java/lang/String"))).before a0 Z = true := hw _ (List.mem_of_getElem? (i := 54) rfl)
theorem tw55 {Z : State} {a0 : Array Value} (hw : ∀ d ∈ tables_1, d.before a0 Z = true) : (Jvm.Cond.classLink "org/grantpath/TableSchema$Comparison" (16 : Nat) "java/lang/StringBuilder").before a0 Z = true := hw _ (List.mem_of_getElem? (i := 55) rfl)
theorem tw56 {Z : State} {a0 : Array Value} (hw : ∀ d ∈ tables_1, d.before a0 Z = true) : (Jvm.Cond.instantiable "java/lang/StringBuilder" (4 : Nat)).before a0 Z = true := hw _ (List.mem_of_getElem? (i := 56) rfl)
theorem tw57 {Z : State} {a0 : Array Value} (hw : ∀ d ∈ tables_1, d.before a0 Z = true) : (Jvm.Cond.initialized "java/lang/StringBuilder").before a0 Z = true := hw _ (List.mem_of_getElem? (i := 57) rfl)
theorem tw58 {Z : State} {a0 : Array Value} (hw : ∀ d ∈ tables_1, d.before a0 Z = true) : (Jvm.Cond.methodLink "org/grantpath/TableSchema$Comparison" (18 : Nat) ({ cls := "java/lang/StringBuilder", name := "<init>", desc := "()V" } : Jvm.MethodName)).before a0 Z = true := hw _ (List.mem_of_getElem? (i := 58) rfl)
theorem tw59 {Z : State} {a0 : Array Value} (hw : ∀ d ∈ tables_1, d.before a0 Z = true) : (Jvm.Cond.instanceMethod ({ cls := "java/lang/StringBuilder", name := "<init>", desc := "()V" } : Jvm.MethodName)).before a0 Z = true := hw _ (List.mem_of_getElem? (i := 59) rfl)
theorem tw60 {Z : State} {a0 : Array Value} (hw : ∀ d ∈ tables_1, d.before a0 Z = true) : (Jvm.Cond.code ({ cls := "java/lang/StringBuilder", name := "<init>", desc := "()V" } : Jvm.MethodName) jdk_67_method_1_code (1 : Nat) (Option.none : Option Jvm.ClassFile.FieldType)).before a0 Z = true := hw _ (List.mem_of_getElem? (i := 60) rfl)
theorem tw61 {Z : State} {a0 : Array Value} (hw : ∀ d ∈ tables_1, d.before a0 Z = true) : (Jvm.Cond.methodLink "java/lang/StringBuilder" (1 : Nat) ({ cls := "java/lang/AbstractStringBuilder", name := "<init>", desc := "(I)V" } : Jvm.MethodName)).before a0 Z = true := hw _ (List.mem_of_getElem? (i := 61) rfl)
theorem tw62 {Z : State} {a0 : Array Value} (hw : ∀ d ∈ tables_1, d.before a0 Z = true) : (Jvm.Cond.instanceMethod ({ cls := "java/lang/AbstractStringBuilder", name := "<init>", desc := "(I)V" } : Jvm.MethodName)).before a0 Z = true := hw _ (List.mem_of_getElem? (i := 62) rfl)
theorem tw65 {Z : State} {a0 : Array Value} (hw : ∀ d ∈ tables_1, d.before a0 Z = true) : (Jvm.Cond.initialized "java/lang/AbstractStringBuilder").before a0 Z = true := hw _ (List.mem_of_getElem? (i := 65) rfl)
theorem tw66 {Z : State} {a0 : Array Value} (hw : ∀ d ∈ tables_1, d.before a0 Z = true) : (Jvm.Cond.code ({ cls := "java/lang/AbstractStringBuilder", name := "<init>", desc := "(I)V" } : Jvm.MethodName) jdk_68_method_2_code (2 : Nat) (Option.none : Option Jvm.ClassFile.FieldType)).before a0 Z = true := hw _ (List.mem_of_getElem? (i := 66) rfl)
theorem tw67 {Z : State} {a0 : Array Value} (hw : ∀ d ∈ tables_1, d.before a0 Z = true) : (Jvm.Cond.methodLink "java/lang/AbstractStringBuilder" (3 : Nat) ({ cls := "java/lang/Object", name := "<init>", desc := "()V" } : Jvm.MethodName)).before a0 Z = true := hw _ (List.mem_of_getElem? (i := 67) rfl)
theorem tw68 {Z : State} {a0 : Array Value} (hw : ∀ d ∈ tables_1, d.before a0 Z = true) : (Jvm.Cond.fieldLink "java/lang/AbstractStringBuilder" (18 : Nat) "java/lang/String" "COMPACT_STRINGS" "Z").before a0 Z = true := hw _ (List.mem_of_getElem? (i := 68) rfl)
theorem tw69 {Z : State} {a0 : Array Value} (hw : ∀ d ∈ tables_1, d.before a0 Z = true) : (Jvm.Cond.fieldLink "java/lang/AbstractStringBuilder" (15 : Nat) "java/lang/AbstractStringBuilder" "value" "[B").before a0 Z = true := hw _ (List.mem_of_getElem? (i := 69) rfl)
theorem tw70 {Z : State} {a0 : Array Value} (hw : ∀ d ∈ tables_1, d.before a0 Z = true) : (Jvm.Cond.lays "java/lang/StringBuilder" "java/lang/AbstractStringBuilder" "value" "[B").before a0 Z = true := hw _ (List.mem_of_getElem? (i := 70) rfl)
theorem tw71 {Z : State} {a0 : Array Value} (hw : ∀ d ∈ tables_1, d.before a0 Z = true) : (Jvm.Cond.fieldLink "java/lang/AbstractStringBuilder" (22 : Nat) "java/lang/AbstractStringBuilder" "coder" "B").before a0 Z = true := hw _ (List.mem_of_getElem? (i := 71) rfl)
theorem tw72 {Z : State} {a0 : Array Value} (hw : ∀ d ∈ tables_1, d.before a0 Z = true) : (Jvm.Cond.lays "java/lang/StringBuilder" "java/lang/AbstractStringBuilder" "coder" "B").before a0 Z = true := hw _ (List.mem_of_getElem? (i := 72) rfl)
theorem tw73 {Z : State} {a0 : Array Value} (hw : ∀ d ∈ tables_1, d.before a0 Z = true) : (Jvm.Cond.stringLink "org/grantpath/TableSchema$Comparison" (19 : Nat) "CAST(").before a0 Z = true := hw _ (List.mem_of_getElem? (i := 73) rfl)
theorem tw76 {Z : State} {a0 : Array Value} (hw : ∀ d ∈ tables_1, d.before a0 Z = true) : (Jvm.Cond.methodLink "org/grantpath/TableSchema$Comparison" (21 : Nat) ({ cls := "java/lang/StringBuilder", name := "append", desc := "(Ljava/lang/String;)Ljava/lang/StringBuilder;" } : Jvm.MethodName)).before a0 Z = true := hw _ (List.mem_of_getElem? (i := 76) rfl)
theorem tw77 {Z : State} {a0 : Array Value} (hw : ∀ d ∈ tables_1, d.before a0 Z = true) : (Jvm.Cond.declares ({ cls := "java/lang/StringBuilder", name := "append", desc := "(Ljava/lang/String;)Ljava/lang/StringBuilder;" } : Jvm.MethodName)).before a0 Z = true := hw _ (List.mem_of_getElem? (i := 77) rfl)
theorem tw78 {Z : State} {a0 : Array Value} (hw : ∀ d ∈ tables_1, d.before a0 Z = true) : (Jvm.Cond.instanceMethod ({ cls := "java/lang/StringBuilder", name := "append", desc := "(Ljava/lang/String;)Ljava/lang/StringBuilder;" } : Jvm.MethodName)).before a0 Z = true := hw _ (List.mem_of_getElem? (i := 78) rfl)
theorem tw79 {Z : State} {a0 : Array Value} (hw : ∀ d ∈ tables_1, d.before a0 Z = true) : (Jvm.Cond.selects "java/lang/StringBuilder" ({ cls := "java/lang/StringBuilder", name := "append", desc := "(Ljava/lang/String;)Ljava/lang/StringBuilder;" } : Jvm.MethodName) ({ cls := "java/lang/StringBuilder", name := "append", desc := "(Ljava/lang/String;)Ljava/lang/StringBuilder;" } : Jvm.MethodName)).before a0 Z = true := hw _ (List.mem_of_getElem? (i := 79) rfl)
theorem tw80 {Z : State} {a0 : Array Value} (hw : ∀ d ∈ tables_1, d.before a0 Z = true) : (Jvm.Cond.code ({ cls := "java/lang/StringBuilder", name := "append", desc := "(Ljava/lang/String;)Ljava/lang/StringBuilder;" } : Jvm.MethodName) jdk_67_method_7_code (2 : Nat) (Option.some (Jvm.ClassFile.FieldType.object "java/lang/StringBuilder"))).before a0 Z = true := hw _ (List.mem_of_getElem? (i := 80) rfl)
theorem tw81 {Z : State} {a0 : Array Value} (hw : ∀ d ∈ tables_1, d.before a0 Z = true) : (Jvm.Cond.methodLink "java/lang/StringBuilder" (29 : Nat) ({ cls := "java/lang/AbstractStringBuilder", name := "append", desc := "(Ljava/lang/String;)Ljava/lang/AbstractStringBuilder;" } : Jvm.MethodName)).before a0 Z = true := hw _ (List.mem_of_getElem? (i := 81) rfl)
theorem tw82 {Z : State} {a0 : Array Value} (hw : ∀ d ∈ tables_1, d.before a0 Z = true) : (Jvm.Cond.instanceMethod ({ cls := "java/lang/AbstractStringBuilder", name := "append", desc := "(Ljava/lang/String;)Ljava/lang/AbstractStringBuilder;" } : Jvm.MethodName)).before a0 Z = true := hw _ (List.mem_of_getElem? (i := 82) rfl)
theorem tw83 {Z : State} {a0 : Array Value} (hw : ∀ d ∈ tables_1, d.before a0 Z = true) : (Jvm.Cond.superclass "java/lang/StringBuilder" "java/lang/AbstractStringBuilder").before a0 Z = true := hw _ (List.mem_of_getElem? (i := 83) rfl)
theorem tw84 {Z : State} {a0 : Array Value} (hw : ∀ d ∈ tables_1, d.before a0 Z = true) : (Jvm.Cond.declares ({ cls := "java/lang/AbstractStringBuilder", name := "append", desc := "(Ljava/lang/String;)Ljava/lang/AbstractStringBuilder;" } : Jvm.MethodName)).before a0 Z = true := hw _ (List.mem_of_getElem? (i := 84) rfl)
theorem tw85 {Z : State} {a0 : Array Value} (hw : ∀ d ∈ tables_1, d.before a0 Z = true) : (Jvm.Cond.code ({ cls := "java/lang/AbstractStringBuilder", name := "append", desc := "(Ljava/lang/String;)Ljava/lang/AbstractStringBuilder;" } : Jvm.MethodName) jdk_68_method_22_code (3 : Nat) (Option.some (Jvm.ClassFile.FieldType.object "java/lang/AbstractStringBuilder"))).before a0 Z = true := hw _ (List.mem_of_getElem? (i := 85) rfl)
theorem tw86 {Z : State} {a0 : Array Value} (hw : ∀ d ∈ tables_1, d.before a0 Z = true) : (Jvm.Cond.methodLink "java/lang/AbstractStringBuilder" (32 : Nat) ({ cls := "java/lang/String", name := "length", desc := "()I" } : Jvm.MethodName)).before a0 Z = true := hw _ (List.mem_of_getElem? (i := 86) rfl)
theorem tw87 {Z : State} {a0 : Array Value} (hw : ∀ d ∈ tables_1, d.before a0 Z = true) : (Jvm.Cond.declares ({ cls := "java/lang/String", name := "length", desc := "()I" } : Jvm.MethodName)).before a0 Z = true := hw _ (List.mem_of_getElem? (i := 87) rfl)
theorem tw88 {Z : State} {a0 : Array Value} (hw : ∀ d ∈ tables_1, d.before a0 Z = true) : (Jvm.Cond.instanceMethod ({ cls := "java/lang/String", name := "length", desc := "()I" } : Jvm.MethodName)).before a0 Z = true := hw _ (List.mem_of_getElem? (i := 88) rfl)
theorem tw89 {Z : State} {a0 : Array Value} (hw : ∀ d ∈ tables_1, d.before a0 Z = true) : (Jvm.Cond.selects "java/lang/String" ({ cls := "java/lang/String", name := "length", desc := "()I" } : Jvm.MethodName) ({ cls := "java/lang/String", name := "length", desc := "()I" } : Jvm.MethodName)).before a0 Z = true := hw _ (List.mem_of_getElem? (i := 89) rfl)
theorem tw91 {Z : State} {a0 : Array Value} (hw : ∀ d ∈ tables_1, d.before a0 Z = true) : (Jvm.Cond.methodLink "java/lang/String" (335 : Nat) ({ cls := "java/lang/String", name := "coder", desc := "()B" } : Jvm.MethodName)).before a0 Z = true := hw _ (List.mem_of_getElem? (i := 91) rfl)
theorem tw92 {Z : State} {a0 : Array Value} (hw : ∀ d ∈ tables_1, d.before a0 Z = true) : (Jvm.Cond.declares ({ cls := "java/lang/String", name := "coder", desc := "()B" } : Jvm.MethodName)).before a0 Z = true := hw _ (List.mem_of_getElem? (i := 92) rfl)
theorem tw93 {Z : State} {a0 : Array Value} (hw : ∀ d ∈ tables_1, d.before a0 Z = true) : (Jvm.Cond.instanceMethod ({ cls := "java/lang/String", name := "coder", desc := "()B" } : Jvm.MethodName)).before a0 Z = true := hw _ (List.mem_of_getElem? (i := 93) rfl)
theorem tw94 {Z : State} {a0 : Array Value} (hw : ∀ d ∈ tables_1, d.before a0 Z = true) : (Jvm.Cond.selects "java/lang/String" ({ cls := "java/lang/String", name := "coder", desc := "()B" } : Jvm.MethodName) ({ cls := "java/lang/String", name := "coder", desc := "()B" } : Jvm.MethodName)).before a0 Z = true := hw _ (List.mem_of_getElem? (i := 94) rfl)
theorem tw95 {Z : State} {a0 : Array Value} (hw : ∀ d ∈ tables_1, d.before a0 Z = true) : (Jvm.Cond.code ({ cls := "java/lang/String", name := "coder", desc := "()B" } : Jvm.MethodName) jdk_42_method_152_code (1 : Nat) (Option.some Jvm.ClassFile.FieldType.byte)).before a0 Z = true := hw _ (List.mem_of_getElem? (i := 95) rfl)
theorem tw96 {Z : State} {a0 : Array Value} (hw : ∀ d ∈ tables_1, d.before a0 Z = true) : (Jvm.Cond.fieldLink "java/lang/AbstractStringBuilder" (79 : Nat) "java/lang/AbstractStringBuilder" "count" "I").before a0 Z = true := hw _ (List.mem_of_getElem? (i := 96) rfl)
theorem tw97 {Z : State} {a0 : Array Value} (hw : ∀ d ∈ tables_1, d.before a0 Z = true) : (Jvm.Cond.lays "java/lang/StringBuilder" "java/lang/AbstractStringBuilder" "count" "I").before a0 Z = true := hw _ (List.mem_of_getElem? (i := 97) rfl)
theorem tw98 {Z : State} {a0 : Array Value} (hw : ∀ d ∈ tables_1, d.before a0 Z = true) : (Jvm.Cond.methodLink "java/lang/AbstractStringBuilder" (100 : Nat) ({ cls := "java/lang/AbstractStringBuilder", name := "ensureCapacityInternal", desc := "(I)V" } : Jvm.MethodName)).before a0 Z = true := hw _ (List.mem_of_getElem? (i := 98) rfl)
theorem tw99 {Z : State} {a0 : Array Value} (hw : ∀ d ∈ tables_1, d.before a0 Z = true) : (Jvm.Cond.instanceMethod ({ cls := "java/lang/AbstractStringBuilder", name := "ensureCapacityInternal", desc := "(I)V" } : Jvm.MethodName)).before a0 Z = true := hw _ (List.mem_of_getElem? (i := 99) rfl)
theorem tw101 {Z : State} {a0 : Array Value} (hw : ∀ d ∈ tables_1, d.before a0 Z = true) : (Jvm.Cond.selects "java/lang/StringBuilder" ({ cls := "java/lang/AbstractStringBuilder", name := "ensureCapacityInternal", desc := "(I)V" } : Jvm.MethodName) ({ cls := "java/lang/AbstractStringBuilder", name := "ensureCapacityInternal", desc := "(I)V" } : Jvm.MethodName)).before a0 Z = true := hw _ (List.mem_of_getElem? (i := 101) rfl)
theorem tw102 {Z : State} {a0 : Array Value} (hw : ∀ d ∈ tables_1, d.before a0 Z = true) : (Jvm.Cond.code ({ cls := "java/lang/AbstractStringBuilder", name := "ensureCapacityInternal", desc := "(I)V" } : Jvm.MethodName) jdk_68_method_9_code (3 : Nat) (Option.none : Option Jvm.ClassFile.FieldType)).before a0 Z = true := hw _ (List.mem_of_getElem? (i := 102) rfl)
theorem tw103 {Z : State} {a0 : Array Value} (hw : ∀ d ∈ tables_1, d.before a0 Z = true) : (Jvm.Cond.methodLink "java/lang/AbstractStringBuilder" (208 : Nat) ({ cls := "java/lang/AbstractStringBuilder", name := "putStringAt", desc := "(ILjava/lang/String;)V" } : Jvm.MethodName)).before a0 Z = true := hw _ (List.mem_of_getElem? (i := 103) rfl)
theorem tw104 {Z : State} {a0 : Array Value} (hw : ∀ d ∈ tables_1, d.before a0 Z = true) : (Jvm.Cond.instanceMethod ({ cls := "java/lang/AbstractStringBuilder", name := "putStringAt", desc := "(ILjava/lang/String;)V" } : Jvm.MethodName)).before a0 Z = true := hw _ (List.mem_of_getElem? (i := 104) rfl)
theorem tw106 {Z : State} {a0 : Array Value} (hw : ∀ d ∈ tables_1, d.before a0 Z = true) : (Jvm.Cond.selects "java/lang/StringBuilder" ({ cls := "java/lang/AbstractStringBuilder", name := "putStringAt", desc := "(ILjava/lang/String;)V" } : Jvm.MethodName) ({ cls := "java/lang/AbstractStringBuilder", name := "putStringAt", desc := "(ILjava/lang/String;)V" } : Jvm.MethodName)).before a0 Z = true := hw _ (List.mem_of_getElem? (i := 106) rfl)
theorem tw107 {Z : State} {a0 : Array Value} (hw : ∀ d ∈ tables_1, d.before a0 Z = true) : (Jvm.Cond.code ({ cls := "java/lang/AbstractStringBuilder", name := "putStringAt", desc := "(ILjava/lang/String;)V" } : Jvm.MethodName) jdk_68_method_73_code (3 : Nat) (Option.none : Option Jvm.ClassFile.FieldType)).before a0 Z = true := hw _ (List.mem_of_getElem? (i := 107) rfl)
theorem tw108 {Z : State} {a0 : Array Value} (hw : ∀ d ∈ tables_1, d.before a0 Z = true) : (Jvm.Cond.methodLink "java/lang/AbstractStringBuilder" (397 : Nat) ({ cls := "java/lang/AbstractStringBuilder", name := "inflateIfNeededFor", desc := "(Ljava/lang/String;)V" } : Jvm.MethodName)).before a0 Z = true := hw _ (List.mem_of_getElem? (i := 108) rfl)
theorem tw109 {Z : State} {a0 : Array Value} (hw : ∀ d ∈ tables_1, d.before a0 Z = true) : (Jvm.Cond.instanceMethod ({ cls := "java/lang/AbstractStringBuilder", name := "inflateIfNeededFor", desc := "(Ljava/lang/String;)V" } : Jvm.MethodName)).before a0 Z = true := hw _ (List.mem_of_getElem? (i := 109) rfl)
theorem tw111 {Z : State} {a0 : Array Value} (hw : ∀ d ∈ tables_1, d.before a0 Z = true) : (Jvm.Cond.selects "java/lang/StringBuilder" ({ cls := "java/lang/AbstractStringBuilder", name := "inflateIfNeededFor", desc := "(Ljava/lang/String;)V" } : Jvm.MethodName) ({ cls := "java/lang/AbstractStringBuilder", name := "inflateIfNeededFor", desc := "(Ljava/lang/String;)V" } : Jvm.MethodName)).before a0 Z = true := hw _ (List.mem_of_getElem? (i := 111) rfl)
theorem tw112 {Z : State} {a0 : Array Value} (hw : ∀ d ∈ tables_1, d.before a0 Z = true) : (Jvm.Cond.code ({ cls := "java/lang/AbstractStringBuilder", name := "inflateIfNeededFor", desc := "(Ljava/lang/String;)V" } : Jvm.MethodName) jdk_68_method_71_code (2 : Nat) (Option.none : Option Jvm.ClassFile.FieldType)).before a0 Z = true := hw _ (List.mem_of_getElem? (i := 112) rfl)
theorem tw113 {Z : State} {a0 : Array Value} (hw : ∀ d ∈ tables_1, d.before a0 Z = true) : (Jvm.Cond.methodLink "java/lang/AbstractStringBuilder" (40 : Nat) ({ cls := "java/lang/String", name := "coder", desc := "()B" } : Jvm.MethodName)).before a0 Z = true := hw _ (List.mem_of_getElem? (i := 113) rfl)
theorem tw114 {Z : State} {a0 : Array Value} (hw : ∀ d ∈ tables_1, d.before a0 Z = true) : (Jvm.Cond.methodLink "java/lang/AbstractStringBuilder" (399 : Nat) ({ cls := "java/lang/String", name := "getBytes", desc := "([BIB)V" } : Jvm.MethodName)).before a0 Z = true := hw _ (List.mem_of_getElem? (i := 114) rfl)
theorem tw115 {Z : State} {a0 : Array Value} (hw : ∀ d ∈ tables_1, d.before a0 Z = true) : (Jvm.Cond.declares ({ cls := "java/lang/String", name := "getBytes", desc := "([BIB)V" } : Jvm.MethodName)).before a0 Z = true := hw _ (List.mem_of_getElem? (i := 115) rfl)
theorem tw116 {Z : State} {a0 : Array Value} (hw : ∀ d ∈ tables_1, d.before a0 Z = true) : (Jvm.Cond.instanceMethod ({ cls := "java/lang/String", name := "getBytes", desc := "([BIB)V" } : Jvm.MethodName)).before a0 Z = true := hw _ (List.mem_of_getElem? (i := 116) rfl)
theorem tw117 {Z : State} {a0 : Array Value} (hw : ∀ d ∈ tables_1, d.before a0 Z = true) : (Jvm.Cond.selects "java/lang/String" ({ cls := "java/lang/String", name := "getBytes", desc := "([BIB)V" } : Jvm.MethodName) ({ cls := "java/lang/String", name := "getBytes", desc := "([BIB)V" } : Jvm.MethodName)).before a0 Z = true := hw _ (List.mem_of_getElem? (i := 117) rfl)
theorem tw118 {Z : State} {a0 : Array Value} (hw : ∀ d ∈ tables_1, d.before a0 Z = true) : (Jvm.Cond.code ({ cls := "java/lang/String", name := "getBytes", desc := "([BIB)V" } : Jvm.MethodName) jdk_42_method_147_code (4 : Nat) (Option.none : Option Jvm.ClassFile.FieldType)).before a0 Z = true := hw _ (List.mem_of_getElem? (i := 118) rfl)
theorem tw119 {Z : State} {a0 : Array Value} (hw : ∀ d ∈ tables_1, d.before a0 Z = true) : (Jvm.Cond.methodLink "java/lang/String" (212 : Nat) ({ cls := "java/lang/System", name := "arraycopy", desc := "(Ljava/lang/Object;ILjava/lang/Object;II)V" } : Jvm.MethodName)).before a0 Z = true := hw _ (List.mem_of_getElem? (i := 119) rfl)
theorem tw120 {Z : State} {a0 : Array Value} (hw : ∀ d ∈ tables_1, d.before a0 Z = true) : (Jvm.Cond.static ({ cls := "java/lang/System", name := "arraycopy", desc := "(Ljava/lang/Object;ILjava/lang/Object;II)V" } : Jvm.MethodName)).before a0 Z = true := hw _ (List.mem_of_getElem? (i := 120) rfl)
theorem tw121 {Z : State} {a0 : Array Value} (hw : ∀ d ∈ tables_1, d.before a0 Z = true) : (Jvm.Cond.initialized "java/lang/System").before a0 Z = true := hw _ (List.mem_of_getElem? (i := 121) rfl)
theorem tw122 {Z : State} {a0 : Array Value} (hw : ∀ d ∈ tables_1, d.before a0 Z = true) : (Jvm.Cond.native ({ cls := "java/lang/System", name := "arraycopy", desc := "(Ljava/lang/Object;ILjava/lang/Object;II)V" } : Jvm.MethodName)).before a0 Z = true := hw _ (List.mem_of_getElem? (i := 122) rfl)
theorem tw123 {Z : State} {a0 : Array Value} (hw : ∀ d ∈ tables_1, d.before a0 Z = true) : (Jvm.Cond.stringLink "org/grantpath/TableSchema$Comparison" (25 : Nat) " AS ").before a0 Z = true := hw _ (List.mem_of_getElem? (i := 123) rfl)
theorem tw124 {Z : State} {a0 : Array Value} (hw : ∀ d ∈ tables_1, d.before a0 Z = true) : (Jvm.Cond.stringLink "org/grantpath/TableSchema$Comparison" (27 : Nat) ")").before a0 Z = true := hw _ (List.mem_of_getElem? (i := 124) rfl)
theorem tw125 {Z : State} {a0 : Array Value} (hw : ∀ d ∈ tables_1, d.before a0 Z = true) : (Jvm.Cond.methodLink "org/grantpath/TableSchema$Comparison" (29 : Nat) ({ cls := "java/lang/StringBuilder", name := "toString", desc := "()Ljava/lang/String;" } : Jvm.MethodName)).before a0 Z = true := hw _ (List.mem_of_getElem? (i := 125) rfl)
theorem tw126 {Z : State} {a0 : Array Value} (hw : ∀ d ∈ tables_1, d.before a0 Z = true) : (Jvm.Cond.declares ({ cls := "java/lang/StringBuilder", name := "toString", desc := "()Ljava/lang/String;" } : Jvm.MethodName)).before a0 Z = true := hw _ (List.mem_of_getElem? (i := 126) rfl)
theorem tw127 {Z : State} {a0 : Array Value} (hw : ∀ d ∈ tables_1, d.before a0 Z = true) : (Jvm.Cond.instanceMethod ({ cls := "java/lang/StringBuilder", name := "toString", desc := "()Ljava/lang/String;" } : Jvm.MethodName)).before a0 Z = true := hw _ (List.mem_of_getElem? (i := 127) rfl)
theorem tw128 {Z : State} {a0 : Array Value} (hw : ∀ d ∈ tables_1, d.before a0 Z = true) : (Jvm.Cond.selects "java/lang/StringBuilder" ({ cls := "java/lang/StringBuilder", name := "toString", desc := "()Ljava/lang/String;" } : Jvm.MethodName) ({ cls := "java/lang/StringBuilder", name := "toString", desc := "()Ljava/lang/String;" } : Jvm.MethodName)).before a0 Z = true := hw _ (List.mem_of_getElem? (i := 128) rfl)
theorem tw129 {Z : State} {a0 : Array Value} (hw : ∀ d ∈ tables_1, d.before a0 Z = true) : (Jvm.Cond.code ({ cls := "java/lang/StringBuilder", name := "toString", desc := "()Ljava/lang/String;" } : Jvm.MethodName) jdk_67_method_42_code (1 : Nat) (Option.some (Jvm.ClassFile.FieldType.object "java/lang/String"))).before a0 Z = true := hw _ (List.mem_of_getElem? (i := 129) rfl)
theorem tw130 {Z : State} {a0 : Array Value} (hw : ∀ d ∈ tables_1, d.before a0 Z = true) : (Jvm.Cond.classLink "java/lang/StringBuilder" (18 : Nat) "java/lang/String").before a0 Z = true := hw _ (List.mem_of_getElem? (i := 130) rfl)
theorem tw131 {Z : State} {a0 : Array Value} (hw : ∀ d ∈ tables_1, d.before a0 Z = true) : (Jvm.Cond.methodLink "java/lang/StringBuilder" (137 : Nat) ({ cls := "java/lang/String", name := "<init>", desc := "(Ljava/lang/StringBuilder;)V" } : Jvm.MethodName)).before a0 Z = true := hw _ (List.mem_of_getElem? (i := 131) rfl)
theorem tw132 {Z : State} {a0 : Array Value} (hw : ∀ d ∈ tables_1, d.before a0 Z = true) : (Jvm.Cond.instanceMethod ({ cls := "java/lang/String", name := "<init>", desc := "(Ljava/lang/StringBuilder;)V" } : Jvm.MethodName)).before a0 Z = true := hw _ (List.mem_of_getElem? (i := 132) rfl)
theorem tw133 {Z : State} {a0 : Array Value} (hw : ∀ d ∈ tables_1, d.before a0 Z = true) : (Jvm.Cond.code ({ cls := "java/lang/String", name := "<init>", desc := "(Ljava/lang/StringBuilder;)V" } : Jvm.MethodName) jdk_42_method_53_code (2 : Nat) (Option.none : Option Jvm.ClassFile.FieldType)).before a0 Z = true := hw _ (List.mem_of_getElem? (i := 133) rfl)
theorem tw134 {Z : State} {a0 : Array Value} (hw : ∀ d ∈ tables_1, d.before a0 Z = true) : (Jvm.Cond.methodLink "java/lang/String" (489 : Nat) ({ cls := "java/lang/String", name := "<init>", desc := "(Ljava/lang/AbstractStringBuilder;Ljava/lang/Void;)V" } : Jvm.MethodName)).before a0 Z = true := hw _ (List.mem_of_getElem? (i := 134) rfl)
theorem tw135 {Z : State} {a0 : Array Value} (hw : ∀ d ∈ tables_1, d.before a0 Z = true) : (Jvm.Cond.instanceMethod ({ cls := "java/lang/String", name := "<init>", desc := "(Ljava/lang/AbstractStringBuilder;Ljava/lang/Void;)V" } : Jvm.MethodName)).before a0 Z = true := hw _ (List.mem_of_getElem? (i := 135) rfl)
theorem tw136 {Z : State} {a0 : Array Value} (hw : ∀ d ∈ tables_1, d.before a0 Z = true) : (Jvm.Cond.code ({ cls := "java/lang/String", name := "<init>", desc := "(Ljava/lang/AbstractStringBuilder;Ljava/lang/Void;)V" } : Jvm.MethodName) jdk_42_method_150_code (5 : Nat) (Option.none : Option Jvm.ClassFile.FieldType)).before a0 Z = true := hw _ (List.mem_of_getElem? (i := 136) rfl)
theorem tw137 {Z : State} {a0 : Array Value} (hw : ∀ d ∈ tables_1, d.before a0 Z = true) : (Jvm.Cond.methodLink "java/lang/String" (552 : Nat) ({ cls := "java/lang/AbstractStringBuilder", name := "getValue", desc := "()[B" } : Jvm.MethodName)).before a0 Z = true := hw _ (List.mem_of_getElem? (i := 137) rfl)
theorem tw138 {Z : State} {a0 : Array Value} (hw : ∀ d ∈ tables_1, d.before a0 Z = true) : (Jvm.Cond.declares ({ cls := "java/lang/AbstractStringBuilder", name := "getValue", desc := "()[B" } : Jvm.MethodName)).before a0 Z = true := hw _ (List.mem_of_getElem? (i := 138) rfl)
theorem tw139 {Z : State} {a0 : Array Value} (hw : ∀ d ∈ tables_1, d.before a0 Z = true) : (Jvm.Cond.instanceMethod ({ cls := "java/lang/AbstractStringBuilder", name := "getValue", desc := "()[B" } : Jvm.MethodName)).before a0 Z = true := hw _ (List.mem_of_getElem? (i := 139) rfl)
theorem tw140 {Z : State} {a0 : Array Value} (hw : ∀ d ∈ tables_1, d.before a0 Z = true) : (Jvm.Cond.selects "java/lang/StringBuilder" ({ cls := "java/lang/AbstractStringBuilder", name := "getValue", desc := "()[B" } : Jvm.MethodName) ({ cls := "java/lang/AbstractStringBuilder", name := "getValue", desc := "()[B" } : Jvm.MethodName)).before a0 Z = true := hw _ (List.mem_of_getElem? (i := 140) rfl)
theorem tw141 {Z : State} {a0 : Array Value} (hw : ∀ d ∈ tables_1, d.before a0 Z = true) : (Jvm.Cond.code ({ cls := "java/lang/AbstractStringBuilder", name := "getValue", desc := "()[B" } : Jvm.MethodName) jdk_68_method_64_code (1 : Nat) (Option.some (Jvm.ClassFile.FieldType.array Jvm.ClassFile.FieldType.byte))).before a0 Z = true := hw _ (List.mem_of_getElem? (i := 141) rfl)
theorem tw142 {Z : State} {a0 : Array Value} (hw : ∀ d ∈ tables_1, d.before a0 Z = true) : (Jvm.Cond.methodLink "java/lang/String" (549 : Nat) ({ cls := "java/lang/AbstractStringBuilder", name := "length", desc := "()I" } : Jvm.MethodName)).before a0 Z = true := hw _ (List.mem_of_getElem? (i := 142) rfl)
theorem tw143 {Z : State} {a0 : Array Value} (hw : ∀ d ∈ tables_1, d.before a0 Z = true) : (Jvm.Cond.declares ({ cls := "java/lang/AbstractStringBuilder", name := "length", desc := "()I" } : Jvm.MethodName)).before a0 Z = true := hw _ (List.mem_of_getElem? (i := 143) rfl)
theorem tw144 {Z : State} {a0 : Array Value} (hw : ∀ d ∈ tables_1, d.before a0 Z = true) : (Jvm.Cond.instanceMethod ({ cls := "java/lang/AbstractStringBuilder", name := "length", desc := "()I" } : Jvm.MethodName)).before a0 Z = true := hw _ (List.mem_of_getElem? (i := 144) rfl)
theorem tw145 {Z : State} {a0 : Array Value} (hw : ∀ d ∈ tables_1, d.before a0 Z = true) : (Jvm.Cond.selects "java/lang/StringBuilder" ({ cls := "java/lang/AbstractStringBuilder", name := "length", desc := "()I" } : Jvm.MethodName) ({ cls := "java/lang/StringBuilder", name := "length", desc := "()I" } : Jvm.MethodName)).before a0 Z = true := hw _ (List.mem_of_getElem? (i := 145) rfl)
theorem tw146 {Z : State} {a0 : Array Value} (hw : ∀ d ∈ tables_1, d.before a0 Z = true) : (Jvm.Cond.instanceMethod ({ cls := "java/lang/StringBuilder", name := "length", desc := "()I" } : Jvm.MethodName)).before a0 Z = true := hw _ (List.mem_of_getElem? (i := 146) rfl)
theorem tw147 {Z : State} {a0 : Array Value} (hw : ∀ d ∈ tables_1, d.before a0 Z = true) : (Jvm.Cond.code ({ cls := "java/lang/StringBuilder", name := "length", desc := "()I" } : Jvm.MethodName) jdk_67_method_93_code (1 : Nat) (Option.some Jvm.ClassFile.FieldType.int)).before a0 Z = true := hw _ (List.mem_of_getElem? (i := 147) rfl)
theorem tw148 {Z : State} {a0 : Array Value} (hw : ∀ d ∈ tables_1, d.before a0 Z = true) : (Jvm.Cond.methodLink "java/lang/StringBuilder" (343 : Nat) ({ cls := "java/lang/AbstractStringBuilder", name := "length", desc := "()I" } : Jvm.MethodName)).before a0 Z = true := hw _ (List.mem_of_getElem? (i := 148) rfl)
theorem tw149 {Z : State} {a0 : Array Value} (hw : ∀ d ∈ tables_1, d.before a0 Z = true) : (Jvm.Cond.code ({ cls := "java/lang/AbstractStringBuilder", name := "length", desc := "()I" } : Jvm.MethodName) jdk_68_method_6_code (1 : Nat) (Option.some Jvm.ClassFile.FieldType.int)).before a0 Z = true := hw _ (List.mem_of_getElem? (i := 149) rfl)
theorem tw150 {Z : State} {a0 : Array Value} (hw : ∀ d ∈ tables_1, d.before a0 Z = true) : (Jvm.Cond.methodLink "java/lang/String" (1047 : Nat) ({ cls := "java/lang/AbstractStringBuilder", name := "isLatin1", desc := "()Z" } : Jvm.MethodName)).before a0 Z = true := hw _ (List.mem_of_getElem? (i := 150) rfl)
theorem tw151 {Z : State} {a0 : Array Value} (hw : ∀ d ∈ tables_1, d.before a0 Z = true) : (Jvm.Cond.declares ({ cls := "java/lang/AbstractStringBuilder", name := "isLatin1", desc := "()Z" } : Jvm.MethodName)).before a0 Z = true := hw _ (List.mem_of_getElem? (i := 151) rfl)
theorem tw152 {Z : State} {a0 : Array Value} (hw : ∀ d ∈ tables_1, d.before a0 Z = true) : (Jvm.Cond.instanceMethod ({ cls := "java/lang/AbstractStringBuilder", name := "isLatin1", desc := "()Z" } : Jvm.MethodName)).before a0 Z = true := hw _ (List.mem_of_getElem? (i := 152) rfl)
theorem tw153 {Z : State} {a0 : Array Value} (hw : ∀ d ∈ tables_1, d.before a0 Z = true) : (Jvm.Cond.selects "java/lang/StringBuilder" ({ cls := "java/lang/AbstractStringBuilder", name := "isLatin1", desc := "()Z" } : Jvm.MethodName) ({ cls := "java/lang/AbstractStringBuilder", name := "isLatin1", desc := "()Z" } : Jvm.MethodName)).before a0 Z = true := hw _ (List.mem_of_getElem? (i := 153) rfl)
theorem tw154 {Z : State} {a0 : Array Value} (hw : ∀ d ∈ tables_1, d.before a0 Z = true) : (Jvm.Cond.code ({ cls := "java/lang/AbstractStringBuilder", name := "isLatin1", desc := "()Z" } : Jvm.MethodName) jdk_68_method_68_code (1 : Nat) (Option.some Jvm.ClassFile.FieldType.boolean)).before a0 Z = true := hw _ (List.mem_of_getElem? (i := 154) rfl)
theorem tw155 {Z : State} {a0 : Array Value} (hw : ∀ d ∈ tables_1, d.before a0 Z = true) : (Jvm.Cond.methodLink "java/lang/String" (54 : Nat) ({ cls := "java/util/Arrays", name := "copyOfRange", desc := "([BII)[B" } : Jvm.MethodName)).before a0 Z = true := hw _ (List.mem_of_getElem? (i := 155) rfl)
theorem tw156 {Z : State} {a0 : Array Value} (hw : ∀ d ∈ tables_1, d.before a0 Z = true) : (Jvm.Cond.static ({ cls := "java/util/Arrays", name := "copyOfRange", desc := "([BII)[B" } : Jvm.MethodName)).before a0 Z = true := hw _ (List.mem_of_getElem? (i := 156) rfl)
theorem tw157 {Z : State} {a0 : Array Value} (hw : ∀ d ∈ tables_1, d.before a0 Z = true) : (Jvm.Cond.initialized "java/util/Arrays").before a0 Z = true := hw _ (List.mem_of_getElem? (i := 157) rfl)
theorem tw158 {Z : State} {a0 : Array Value} (hw : ∀ d ∈ tables_1, d.before a0 Z = true) : (Jvm.Cond.code ({ cls := "java/util/Arrays", name := "copyOfRange", desc := "([BII)[B" } : Jvm.MethodName) jdk_65_method_132_code (3 : Nat) (Option.some (Jvm.ClassFile.FieldType.array Jvm.ClassFile.FieldType.byte))).before a0 Z = true := hw _ (List.mem_of_getElem? (i := 158) rfl)
theorem tw159 {Z : State} {a0 : Array Value} (hw : ∀ d ∈ tables_1, d.before a0 Z = true) : (Jvm.Cond.methodLink "java/util/Arrays" (339 : Nat) ({ cls := "java/util/Arrays", name := "copyOfRangeByte", desc := "([BII)[B" } : Jvm.MethodName)).before a0 Z = true := hw _ (List.mem_of_getElem? (i := 159) rfl)
theorem tw160 {Z : State} {a0 : Array Value} (hw : ∀ d ∈ tables_1, d.before a0 Z = true) : (Jvm.Cond.static ({ cls := "java/util/Arrays", name := "copyOfRangeByte", desc := "([BII)[B" } : Jvm.MethodName)).before a0 Z = true := hw _ (List.mem_of_getElem? (i := 160) rfl)
theorem tw161 {Z : State} {a0 : Array Value} (hw : ∀ d ∈ tables_1, d.before a0 Z = true) : (Jvm.Cond.code ({ cls := "java/util/Arrays", name := "copyOfRangeByte", desc := "([BII)[B" } : Jvm.MethodName) jdk_65_method_133_code (5 : Nat) (Option.some (Jvm.ClassFile.FieldType.array Jvm.ClassFile.FieldType.byte))).before a0 Z = true := hw _ (List.mem_of_getElem? (i := 161) rfl)
theorem tw162 {Z : State} {a0 : Array Value} (hw : ∀ d ∈ tables_1, d.before a0 Z = true) : (Jvm.Cond.methodLink "java/util/Arrays" (343 : Nat) ({ cls := "java/util/Arrays", name := "checkLength", desc := "(II)V" } : Jvm.MethodName)).before a0 Z = true := hw _ (List.mem_of_getElem? (i := 162) rfl)
theorem tw163 {Z : State} {a0 : Array Value} (hw : ∀ d ∈ tables_1, d.before a0 Z = true) : (Jvm.Cond.static ({ cls := "java/util/Arrays", name := "checkLength", desc := "(II)V" } : Jvm.MethodName)).before a0 Z = true := hw _ (List.mem_of_getElem? (i := 163) rfl)
theorem tw164 {Z : State} {a0 : Array Value} (hw : ∀ d ∈ tables_1, d.before a0 Z = true) : (Jvm.Cond.code ({ cls := "java/util/Arrays", name := "checkLength", desc := "(II)V" } : Jvm.MethodName) jdk_65_method_131_code (2 : Nat) (Option.none : Option Jvm.ClassFile.FieldType)).before a0 Z = true := hw _ (List.mem_of_getElem? (i := 164) rfl)
theorem tw165 {Z : State} {a0 : Array Value} (hw : ∀ d ∈ tables_1, d.before a0 Z = true) : (Jvm.Cond.methodLink "java/util/Arrays" (304 : Nat) ({ cls := "java/lang/Math", name := "min", desc := "(II)I" } : Jvm.MethodName)).before a0 Z = true := hw _ (List.mem_of_getElem? (i := 165) rfl)
theorem tw166 {Z : State} {a0 : Array Value} (hw : ∀ d ∈ tables_1, d.before a0 Z = true) : (Jvm.Cond.static ({ cls := "java/lang/Math", name := "min", desc := "(II)I" } : Jvm.MethodName)).before a0 Z = true := hw _ (List.mem_of_getElem? (i := 166) rfl)
theorem tw167 {Z : State} {a0 : Array Value} (hw : ∀ d ∈ tables_1, d.before a0 Z = true) : (Jvm.Cond.initialized "java/lang/Math").before a0 Z = true := hw _ (List.mem_of_getElem? (i := 167) rfl)
theorem tw168 {Z : State} {a0 : Array Value} (hw : ∀ d ∈ tables_1, d.before a0 Z = true) : (Jvm.Cond.code ({ cls := "java/lang/Math", name := "min", desc := "(II)I" } : Jvm.MethodName) jdk_29_method_69_code (2 : Nat) (Option.some Jvm.ClassFile.FieldType.int)).before a0 Z = true := hw _ (List.mem_of_getElem? (i := 168) rfl)
theorem tw169 {Z : State} {a0 : Array Value} (hw : ∀ d ∈ tables_1, d.before a0 Z = true) : (Jvm.Cond.methodLink "java/util/Arrays" (150 : Nat) ({ cls := "java/lang/System", name := "arraycopy", desc := "(Ljava/lang/Object;ILjava/lang/Object;II)V" } : Jvm.MethodName)).before a0 Z = true := hw _ (List.mem_of_getElem? (i := 169) rfl)
theorem tw170 {Z : State} {a0 : Array Value} (hw : ∀ d ∈ tables_1, d.before a0 Z = true) : (Jvm.Cond.stringLink "org/grantpath/TableSchema$Comparison" (33 : Nat) " COLLATE ").before a0 Z = true := hw _ (List.mem_of_getElem? (i := 170) rfl)
theorem tw171 {Z : State} {a0 : Array Value} (hw : ∀ d ∈ tables_1, d.before a0 Z = true) : (Jvm.Cond.methodLink "java/lang/AbstractStringBuilder" (104 : Nat) ({ cls := "java/lang/AbstractStringBuilder", name := "newCapacity", desc := "(I)I" } : Jvm.MethodName)).before a0 Z = true := hw _ (List.mem_of_getElem? (i := 171) rfl)
theorem tw172 {Z : State} {a0 : Array Value} (hw : ∀ d ∈ tables_1, d.before a0 Z = true) : (Jvm.Cond.instanceMethod ({ cls := "java/lang/AbstractStringBuilder", name := "newCapacity", desc := "(I)I" } : Jvm.MethodName)).before a0 Z = true := hw _ (List.mem_of_getElem? (i := 172) rfl)
theorem tw174 {Z : State} {a0 : Array Value} (hw : ∀ d ∈ tables_1, d.before a0 Z = true) : (Jvm.Cond.selects "java/lang/StringBuilder" ({ cls := "java/lang/AbstractStringBuilder", name := "newCapacity", desc := "(I)I" } : Jvm.MethodName) ({ cls := "java/lang/AbstractStringBuilder", name := "newCapacity", desc := "(I)I" } : Jvm.MethodName)).before a0 Z = true := hw _ (List.mem_of_getElem? (i := 174) rfl)
theorem tw175 {Z : State} {a0 : Array Value} (hw : ∀ d ∈ tables_1, d.before a0 Z = true) : (Jvm.Cond.code ({ cls := "java/lang/AbstractStringBuilder", name := "newCapacity", desc := "(I)I" } : Jvm.MethodName) jdk_68_method_10_code (6 : Nat) (Option.some Jvm.ClassFile.FieldType.int)).before a0 Z = true := hw _ (List.mem_of_getElem? (i := 175) rfl)
theorem tw176 {Z : State} {a0 : Array Value} (hw : ∀ d ∈ tables_1, d.before a0 Z = true) : (Jvm.Cond.methodLink "java/lang/AbstractStringBuilder" (114 : Nat) ({ cls := "jdk/internal/util/ArraysSupport", name := "newLength", desc := "(III)I" } : Jvm.MethodName)).before a0 Z = true := hw _ (List.mem_of_getElem? (i := 176) rfl)
theorem tw177 {Z : State} {a0 : Array Value} (hw : ∀ d ∈ tables_1, d.before a0 Z = true) : (Jvm.Cond.static ({ cls := "jdk/internal/util/ArraysSupport", name := "newLength", desc := "(III)I" } : Jvm.MethodName)).before a0 Z = true := hw _ (List.mem_of_getElem? (i := 177) rfl)
theorem tw178 {Z : State} {a0 : Array Value} (hw : ∀ d ∈ tables_1, d.before a0 Z = true) : (Jvm.Cond.initialized "jdk/internal/util/ArraysSupport").before a0 Z = true := hw _ (List.mem_of_getElem? (i := 178) rfl)
theorem tw179 {Z : State} {a0 : Array Value} (hw : ∀ d ∈ tables_1, d.before a0 Z = true) : (Jvm.Cond.code ({ cls := "jdk/internal/util/ArraysSupport", name := "newLength", desc := "(III)I" } : Jvm.MethodName) jdk_48_method_27_code (4 : Nat) (Option.some Jvm.ClassFile.FieldType.int)).before a0 Z = true := hw _ (List.mem_of_getElem? (i := 179) rfl)
theorem tw180 {Z : State} {a0 : Array Value} (hw : ∀ d ∈ tables_1, d.before a0 Z = true) : (Jvm.Cond.methodLink "jdk/internal/util/ArraysSupport" (194 : Nat) ({ cls := "java/lang/Math", name := "max", desc := "(II)I" } : Jvm.MethodName)).before a0 Z = true := hw _ (List.mem_of_getElem? (i := 180) rfl)
theorem tw181 {Z : State} {a0 : Array Value} (hw : ∀ d ∈ tables_1, d.before a0 Z = true) : (Jvm.Cond.static ({ cls := "java/lang/Math", name := "max", desc := "(II)I" } : Jvm.MethodName)).before a0 Z = true := hw _ (List.mem_of_getElem? (i := 181) rfl)
theorem tw182 {Z : State} {a0 : Array Value} (hw : ∀ d ∈ tables_1, d.before a0 Z = true) : (Jvm.Cond.code ({ cls := "java/lang/Math", name := "max", desc := "(II)I" } : Jvm.MethodName) jdk_29_method_65_code (2 : Nat) (Option.some Jvm.ClassFile.FieldType.int)).before a0 Z = true := hw _ (List.mem_of_getElem? (i := 182) rfl)
theorem tw183 {Z : State} {a0 : Array Value} (hw : ∀ d ∈ tables_1, d.before a0 Z = true) : (Jvm.Cond.constant "jdk/internal/util/ArraysSupport" (200 : Nat) (2147483639 : Int32)).before a0 Z = true := hw _ (List.mem_of_getElem? (i := 183) rfl)
theorem tw184 {Z : State} {a0 : Array Value} (hw : ∀ d ∈ tables_1, d.before a0 Z = true) : (Jvm.Cond.constant "java/lang/AbstractStringBuilder" (39 : Nat) (2147483647 : Int32)).before a0 Z = true := hw _ (List.mem_of_getElem? (i := 184) rfl)
theorem tw185 {Z : State} {a0 : Array Value} (hw : ∀ d ∈ tables_1, d.before a0 Z = true) : (Jvm.Cond.methodLink "java/lang/AbstractStringBuilder" (108 : Nat) ({ cls := "java/util/Arrays", name := "copyOf", desc := "([BI)[B" } : Jvm.MethodName)).before a0 Z = true := hw _ (List.mem_of_getElem? (i := 185) rfl)
theorem tw186 {Z : State} {a0 : Array Value} (hw : ∀ d ∈ tables_1, d.before a0 Z = true) : (Jvm.Cond.static ({ cls := "java/util/Arrays", name := "copyOf", desc := "([BI)[B" } : Jvm.MethodName)).before a0 Z = true := hw _ (List.mem_of_getElem? (i := 186) rfl)
theorem tw187 {Z : State} {a0 : Array Value} (hw : ∀ d ∈ tables_1, d.before a0 Z = true) : (Jvm.Cond.code ({ cls := "java/util/Arrays", name := "copyOf", desc := "([BI)[B" } : Jvm.MethodName) jdk_65_method_121_code (3 : Nat) (Option.some (Jvm.ClassFile.FieldType.array Jvm.ClassFile.FieldType.byte))).before a0 Z = true := hw _ (List.mem_of_getElem? (i := 187) rfl)
theorem tw188 {Z : State} {a0 : Array Value} (hw : ∀ d ∈ tables_1, d.before a0 Z = true) : (Jvm.Cond.methodLink "org/grantpath/ComparisonOfPinLaw" (27 : Nat) ({ cls := "java/lang/String", name := "equals", desc := "(Ljava/lang/Object;)Z" } : Jvm.MethodName)).before a0 Z = true := hw _ (List.mem_of_getElem? (i := 188) rfl)
theorem tw189 {Z : State} {a0 : Array Value} (hw : ∀ d ∈ tables_1, d.before a0 Z = true) : (Jvm.Cond.declares ({ cls := "java/lang/String", name := "equals", desc := "(Ljava/lang/Object;)Z" } : Jvm.MethodName)).before a0 Z = true := hw _ (List.mem_of_getElem? (i := 189) rfl)
theorem tw190 {Z : State} {a0 : Array Value} (hw : ∀ d ∈ tables_1, d.before a0 Z = true) : (Jvm.Cond.instanceMethod ({ cls := "java/lang/String", name := "equals", desc := "(Ljava/lang/Object;)Z" } : Jvm.MethodName)).before a0 Z = true := hw _ (List.mem_of_getElem? (i := 190) rfl)
theorem tw191 {Z : State} {a0 : Array Value} (hw : ∀ d ∈ tables_1, d.before a0 Z = true) : (Jvm.Cond.selects "java/lang/String" ({ cls := "java/lang/String", name := "equals", desc := "(Ljava/lang/Object;)Z" } : Jvm.MethodName) ({ cls := "java/lang/String", name := "equals", desc := "(Ljava/lang/Object;)Z" } : Jvm.MethodName)).before a0 Z = true := hw _ (List.mem_of_getElem? (i := 191) rfl)
theorem d0_0 : decode jdk_42_method_152_code 0 = .ok (.getstatic 38, 3) := by decide +kernel
theorem d0_3 : decode jdk_42_method_152_code 3 = .ok (.ifCond .eq 10, 3) := by decide +kernel
theorem d0_6 : decode jdk_42_method_152_code 6 = .ok (.aload_n 0, 1) := by decide +kernel
theorem d0_7 : decode jdk_42_method_152_code 7 = .ok (.getfield 15, 3) := by decide +kernel
theorem d0_10 : decode jdk_42_method_152_code 10 = .ok (.goto 4, 3) := by decide +kernel
theorem d0_14 : decode jdk_42_method_152_code 14 = .ok (.ireturn, 1) := by decide +kernel
theorem pn_0 : plainName "java/lang/String" = true := by first | (simp [plainName, overriddenIn]; done) | decide +kernel
theorem d1_0 : decode jdk_68_method_6_code 0 = .ok (.aload_n 0, 1) := by decide +kernel
theorem d1_1 : decode jdk_68_method_6_code 1 = .ok (.getfield 79, 3) := by decide +kernel
theorem d1_4 : decode jdk_68_method_6_code 4 = .ok (.ireturn, 1) := by decide +kernel
theorem pn_1 : plainName "java/lang/AbstractStringBuilder" = true := by first | (simp [plainName, overriddenIn]; done) | decide +kernel
theorem d2_0 : decode jdk_67_method_93_code 0 = .ok (.aload_n 0, 1) := by decide +kernel
theorem pd_0 : parseMethodDescriptor "()I" = some ⟨[], some .int⟩ := by decide +kernel
theorem d2_1 : decode jdk_67_method_93_code 1 = .ok (.invokespecial 343, 3) := by decide +kernel
theorem d2_4 : decode jdk_67_method_93_code 4 = .ok (.ireturn, 1) := by decide +kernel
theorem pn_2 : plainName "java/lang/StringBuilder" = true := by first | (simp [plainName, overriddenIn]; done) | decide +kernel
theorem d3_0 : decode jdk_68_method_64_code 0 = .ok (.aload_n 0, 1) := by decide +kernel
theorem d3_1 : decode jdk_68_method_64_code 1 = .ok (.getfield 15, 3) := by decide +kernel
theorem d3_4 : decode jdk_68_method_64_code 4 = .ok (.areturn, 1) := by decide +kernel
theorem d4_0 : decode jdk_68_method_68_code 0 = .ok (.getstatic 18, 3) := by decide +kernel
theorem d4_3 : decode jdk_68_method_68_code 3 = .ok (.ifCond .eq 14, 3) := by decide +kernel
theorem d4_6 : decode jdk_68_method_68_code 6 = .ok (.aload_n 0, 1) := by decide +kernel
theorem d4_7 : decode jdk_68_method_68_code 7 = .ok (.getfield 22, 3) := by decide +kernel
theorem d4_10 : decode jdk_68_method_68_code 10 = .ok (.ifCond .ne 7, 3) := by decide +kernel
theorem d4_13 : decode jdk_68_method_68_code 13 = .ok (.iconst 1, 1) := by decide +kernel
theorem d4_14 : decode jdk_68_method_68_code 14 = .ok (.goto 4, 3) := by decide +kernel
theorem d4_18 : decode jdk_68_method_68_code 18 = .ok (.ireturn, 1) := by decide +kernel
theorem d5_0 : decode jdk_68_method_71_code 0 = .ok (.getstatic 18, 3) := by decide +kernel
theorem d5_3 : decode jdk_68_method_71_code 3 = .ok (.ifCond .eq 18, 3) := by decide +kernel
theorem d5_6 : decode jdk_68_method_71_code 6 = .ok (.aload_n 0, 1) := by decide +kernel
theorem d5_7 : decode jdk_68_method_71_code 7 = .ok (.getfield 22, 3) := by decide +kernel
theorem d5_10 : decode jdk_68_method_71_code 10 = .ok (.aload_n 1, 1) := by decide +kernel
theorem pd_1 : parseMethodDescriptor "()B" = some ⟨[], some .byte⟩ := by decide +kernel
theorem d5_11 : decode jdk_68_method_71_code 11 = .ok (.invokevirtual 40, 3) := by decide +kernel
theorem d5_14 : decode jdk_68_method_71_code 14 = .ok (.if_icmp .eq 7, 3) := by decide +kernel
theorem d5_21 : decode jdk_68_method_71_code 21 = .ok (.return_, 1) := by decide +kernel
theorem d6_0 : decode jdk_42_method_147_code 0 = .ok (.aload_n 0, 1) := by decide +kernel
theorem d6_1 : decode jdk_42_method_147_code 1 = .ok (.invokevirtual 335, 3) := by decide +kernel
theorem d6_4 : decode jdk_42_method_147_code 4 = .ok (.iload_n 3, 1) := by decide +kernel
theorem d6_5 : decode jdk_42_method_147_code 5 = .ok (.if_icmp .ne 23, 3) := by decide +kernel
theorem d6_8 : decode jdk_42_method_147_code 8 = .ok (.aload_n 0, 1) := by decide +kernel
theorem d6_9 : decode jdk_42_method_147_code 9 = .ok (.getfield 9, 3) := by decide +kernel
theorem d6_12 : decode jdk_42_method_147_code 12 = .ok (.iconst 0, 1) := by decide +kernel
theorem d6_13 : decode jdk_42_method_147_code 13 = .ok (.aload_n 1, 1) := by decide +kernel
theorem d6_14 : decode jdk_42_method_147_code 14 = .ok (.iload_n 2, 1) := by decide +kernel
theorem d6_15 : decode jdk_42_method_147_code 15 = .ok (.iload_n 3, 1) := by decide +kernel
theorem d6_16 : decode jdk_42_method_147_code 16 = .ok (.ishl, 1) := by decide +kernel
theorem d6_17 : decode jdk_42_method_147_code 17 = .ok (.aload_n 0, 1) := by decide +kernel
theorem d6_18 : decode jdk_42_method_147_code 18 = .ok (.getfield 9, 3) := by decide +kernel
theorem d6_21 : decode jdk_42_method_147_code 21 = .ok (.arraylength, 1) := by decide +kernel
theorem d6_22 : decode jdk_42_method_147_code 22 = .ok (.invokestatic 212, 3) := by decide +kernel
theorem d6_25 : decode jdk_42_method_147_code 25 = .ok (.goto 18, 3) := by decide +kernel
theorem d6_43 : decode jdk_42_method_147_code 43 = .ok (.return_, 1) := by decide +kernel
theorem d7_0 : decode jdk_68_method_73_code 0 = .ok (.aload_n 0, 1) := by decide +kernel
theorem d7_1 : decode jdk_68_method_73_code 1 = .ok (.aload_n 2, 1) := by decide +kernel
theorem pd_2 : parseMethodDescriptor "(Ljava/lang/String;)V" = some ⟨[(.object "java/lang/String")], none⟩ := by decide +kernel
theorem d7_2 : decode jdk_68_method_73_code 2 = .ok (.invokevirtual 397, 3) := by decide +kernel
theorem d7_5 : decode jdk_68_method_73_code 5 = .ok (.aload_n 2, 1) := by decide +kernel
theorem d7_6 : decode jdk_68_method_73_code 6 = .ok (.aload_n 0, 1) := by decide +kernel
theorem d7_7 : decode jdk_68_method_73_code 7 = .ok (.getfield 15, 3) := by decide +kernel
theorem d7_10 : decode jdk_68_method_73_code 10 = .ok (.iload_n 1, 1) := by decide +kernel
theorem d7_11 : decode jdk_68_method_73_code 11 = .ok (.aload_n 0, 1) := by decide +kernel
theorem d7_12 : decode jdk_68_method_73_code 12 = .ok (.getfield 22, 3) := by decide +kernel
theorem pd_3 : parseMethodDescriptor "([BIB)V" = some ⟨[(.array .byte), .int, .byte], none⟩ := by decide +kernel
theorem d7_15 : decode jdk_68_method_73_code 15 = .ok (.invokevirtual 399, 3) := by decide +kernel
theorem d7_18 : decode jdk_68_method_73_code 18 = .ok (.return_, 1) := by decide +kernel
theorem d8_0 : decode jdk_29_method_65_code 0 = .ok (.iload_n 0, 1) := by decide +kernel
theorem d8_1 : decode jdk_29_method_65_code 1 = .ok (.iload_n 1, 1) := by decide +kernel
theorem d8_2 : decode jdk_29_method_65_code 2 = .ok (.if_icmp .lt 7, 3) := by decide +kernel
theorem d8_9 : decode jdk_29_method_65_code 9 = .ok (.iload_n 1, 1) := by decide +kernel
theorem d8_10 : decode jdk_29_method_65_code 10 = .ok (.ireturn, 1) := by decide +kernel
theorem d8_5 : decode jdk_29_method_65_code 5 = .ok (.iload_n 0, 1) := by decide +kernel
theorem d8_6 : decode jdk_29_method_65_code 6 = .ok (.goto 4, 3) := by decide +kernel
theorem d9_0 : decode jdk_29_method_69_code 0 = .ok (.iload_n 0, 1) := by decide +kernel
theorem d9_1 : decode jdk_29_method_69_code 1 = .ok (.iload_n 1, 1) := by decide +kernel
theorem d9_2 : decode jdk_29_method_69_code 2 = .ok (.if_icmp .gt 7, 3) := by decide +kernel
theorem d9_9 : decode jdk_29_method_69_code 9 = .ok (.iload_n 1, 1) := by decide +kernel
theorem d9_10 : decode jdk_29_method_69_code 10 = .ok (.ireturn, 1) := by decide +kernel
theorem d9_5 : decode jdk_29_method_69_code 5 = .ok (.iload_n 0, 1) := by decide +kernel
theorem d9_6 : decode jdk_29_method_69_code 6 = .ok (.goto 4, 3) := by decide +kernel
theorem d10_0 : decode jdk_48_method_27_code 0 = .ok (.iload_n 0, 1) := by decide +kernel
theorem d10_1 : decode jdk_48_method_27_code 1 = .ok (.iload_n 1, 1) := by decide +kernel
theorem d10_2 : decode jdk_48_method_27_code 2 = .ok (.iload_n 2, 1) := by decide +kernel
theorem pd_4 : parseMethodDescriptor "(II)I" = some ⟨[.int, .int], some .int⟩ := by decide +kernel
theorem d10_3 : decode jdk_48_method_27_code 3 = .ok (.invokestatic 194, 3) := by decide +kernel
theorem d10_6 : decode jdk_48_method_27_code 6 = .ok (.iadd, 1) := by decide +kernel
theorem d10_7 : decode jdk_48_method_27_code 7 = .ok (.istore_n 3, 1) := by decide +kernel
theorem d10_8 : decode jdk_48_method_27_code 8 = .ok (.iconst 0, 1) := by decide +kernel
theorem d10_9 : decode jdk_48_method_27_code 9 = .ok (.iload_n 3, 1) := by decide +kernel
theorem d10_10 : decode jdk_48_method_27_code 10 = .ok (.if_icmp .ge 11, 3) := by decide +kernel
theorem d10_13 : decode jdk_48_method_27_code 13 = .ok (.iload_n 3, 1) := by decide +kernel
theorem d10_14 : decode jdk_48_method_27_code 14 = .ok (.ldc 200, 2) := by decide +kernel
theorem d10_16 : decode jdk_48_method_27_code 16 = .ok (.if_icmp .gt 5, 3) := by decide +kernel
theorem d10_19 : decode jdk_48_method_27_code 19 = .ok (.iload_n 3, 1) := by decide +kernel
theorem d10_20 : decode jdk_48_method_27_code 20 = .ok (.ireturn, 1) := by decide +kernel
theorem pn_3 : plainName "jdk/internal/util/ArraysSupport" = true := by first | (simp [plainName, overriddenIn]; done) | decide +kernel
theorem d11_0 : decode jdk_68_method_10_code 0 = .ok (.aload_n 0, 1) := by decide +kernel
theorem d11_1 : decode jdk_68_method_10_code 1 = .ok (.getfield 15, 3) := by decide +kernel
theorem d11_4 : decode jdk_68_method_10_code 4 = .ok (.arraylength, 1) := by decide +kernel
theorem d11_5 : decode jdk_68_method_10_code 5 = .ok (.istore_n 2, 1) := by decide +kernel
theorem d11_6 : decode jdk_68_method_10_code 6 = .ok (.iload_n 1, 1) := by decide +kernel
theorem d11_7 : decode jdk_68_method_10_code 7 = .ok (.aload_n 0, 1) := by decide +kernel
theorem d11_8 : decode jdk_68_method_10_code 8 = .ok (.getfield 22, 3) := by decide +kernel
theorem d11_11 : decode jdk_68_method_10_code 11 = .ok (.ishl, 1) := by decide +kernel
theorem d11_12 : decode jdk_68_method_10_code 12 = .ok (.istore_n 3, 1) := by decide +kernel
theorem d11_13 : decode jdk_68_method_10_code 13 = .ok (.iload_n 3, 1) := by decide +kernel
theorem d11_14 : decode jdk_68_method_10_code 14 = .ok (.iload_n 2, 1) := by decide +kernel
theorem d11_15 : decode jdk_68_method_10_code 15 = .ok (.isub, 1) := by decide +kernel
theorem d11_16 : decode jdk_68_method_10_code 16 = .ok (.istore 4, 2) := by decide +kernel
theorem d11_18 : decode jdk_68_method_10_code 18 = .ok (.iload_n 2, 1) := by decide +kernel
theorem d11_19 : decode jdk_68_method_10_code 19 = .ok (.iload 4, 2) := by decide +kernel
theorem d11_21 : decode jdk_68_method_10_code 21 = .ok (.iload_n 2, 1) := by decide +kernel
theorem d11_22 : decode jdk_68_method_10_code 22 = .ok (.iconst 2, 1) := by decide +kernel
theorem d11_23 : decode jdk_68_method_10_code 23 = .ok (.aload_n 0, 1) := by decide +kernel
theorem d11_24 : decode jdk_68_method_10_code 24 = .ok (.getfield 22, 3) := by decide +kernel
theorem d11_27 : decode jdk_68_method_10_code 27 = .ok (.ishl, 1) := by decide +kernel
theorem d11_28 : decode jdk_68_method_10_code 28 = .ok (.iadd, 1) := by decide +kernel
theorem pd_5 : parseMethodDescriptor "(III)I" = some ⟨[.int, .int, .int], some .int⟩ := by decide +kernel
theorem d11_29 : decode jdk_68_method_10_code 29 = .ok (.invokestatic 114, 3) := by decide +kernel
theorem d11_32 : decode jdk_68_method_10_code 32 = .ok (.istore 5, 2) := by decide +kernel
theorem d11_34 : decode jdk_68_method_10_code 34 = .ok (.iload 5, 2) := by decide +kernel
theorem d11_36 : decode jdk_68_method_10_code 36 = .ok (.ldc 39, 2) := by decide +kernel
theorem d11_38 : decode jdk_68_method_10_code 38 = .ok (.if_icmp .ne 13, 3) := by decide +kernel
theorem d11_51 : decode jdk_68_method_10_code 51 = .ok (.iload 5, 2) := by decide +kernel
theorem d11_53 : decode jdk_68_method_10_code 53 = .ok (.aload_n 0, 1) := by decide +kernel
theorem d11_54 : decode jdk_68_method_10_code 54 = .ok (.getfield 22, 3) := by decide +kernel
theorem d11_57 : decode jdk_68_method_10_code 57 = .ok (.ishr, 1) := by decide +kernel
theorem d11_58 : decode jdk_68_method_10_code 58 = .ok (.ireturn, 1) := by decide +kernel
theorem d12_0 : decode jdk_65_method_121_code 0 = .ok (.iload_n 1, 1) := by decide +kernel
theorem d12_1 : decode jdk_65_method_121_code 1 = .ok (.aload_n 0, 1) := by decide +kernel
theorem d12_2 : decode jdk_65_method_121_code 2 = .ok (.arraylength, 1) := by decide +kernel
theorem d12_3 : decode jdk_65_method_121_code 3 = .ok (.if_icmp .ne 11, 3) := by decide +kernel
theorem d12_14 : decode jdk_65_method_121_code 14 = .ok (.iload_n 1, 1) := by decide +kernel
theorem d12_15 : decode jdk_65_method_121_code 15 = .ok (.newarray .byte, 2) := by decide +kernel
theorem d12_17 : decode jdk_65_method_121_code 17 = .ok (.astore_n 2, 1) := by decide +kernel
theorem d12_18 : decode jdk_65_method_121_code 18 = .ok (.aload_n 0, 1) := by decide +kernel
theorem d12_19 : decode jdk_65_method_121_code 19 = .ok (.iconst 0, 1) := by decide +kernel
theorem d12_20 : decode jdk_65_method_121_code 20 = .ok (.aload_n 2, 1) := by decide +kernel
theorem d12_21 : decode jdk_65_method_121_code 21 = .ok (.iconst 0, 1) := by decide +kernel
theorem d12_22 : decode jdk_65_method_121_code 22 = .ok (.aload_n 0, 1) := by decide +kernel
theorem d12_23 : decode jdk_65_method_121_code 23 = .ok (.arraylength, 1) := by decide +kernel
theorem d12_24 : decode jdk_65_method_121_code 24 = .ok (.iload_n 1, 1) := by decide +kernel
theorem d12_25 : decode jdk_65_method_121_code 25 = .ok (.invokestatic 304, 3) := by decide +kernel
theorem d12_28 : decode jdk_65_method_121_code 28 = .ok (.invokestatic 150, 3) := by decide +kernel
theorem d12_31 : decode jdk_65_method_121_code 31 = .ok (.aload_n 2, 1) := by decide +kernel
theorem d12_32 : decode jdk_65_method_121_code 32 = .ok (.areturn, 1) := by decide +kernel
theorem pn_4 : plainName "java/util/Arrays" = true := by first | (simp [plainName, overriddenIn]; done) | decide +kernel
theorem d13_0 : decode jdk_68_method_9_code 0 = .ok (.aload_n 0, 1) := by decide +kernel
theorem d13_1 : decode jdk_68_method_9_code 1 = .ok (.getfield 15, 3) := by decide +kernel
theorem d13_4 : decode jdk_68_method_9_code 4 = .ok (.arraylength, 1) := by decide +kernel
theorem d13_5 : decode jdk_68_method_9_code 5 = .ok (.aload_n 0, 1) := by decide +kernel
theorem d13_6 : decode jdk_68_method_9_code 6 = .ok (.getfield 22, 3) := by decide +kernel
theorem d13_9 : decode jdk_68_method_9_code 9 = .ok (.ishr, 1) := by decide +kernel
theorem d13_10 : decode jdk_68_method_9_code 10 = .ok (.istore_n 2, 1) := by decide +kernel
theorem d13_11 : decode jdk_68_method_9_code 11 = .ok (.iload_n 1, 1) := by decide +kernel
theorem d13_12 : decode jdk_68_method_9_code 12 = .ok (.iload_n 2, 1) := by decide +kernel
theorem d13_13 : decode jdk_68_method_9_code 13 = .ok (.isub, 1) := by decide +kernel
theorem d13_14 : decode jdk_68_method_9_code 14 = .ok (.ifCond .le 24, 3) := by decide +kernel
theorem d13_38 : decode jdk_68_method_9_code 38 = .ok (.return_, 1) := by decide +kernel
theorem d13_17 : decode jdk_68_method_9_code 17 = .ok (.aload_n 0, 1) := by decide +kernel
theorem d13_18 : decode jdk_68_method_9_code 18 = .ok (.aload_n 0, 1) := by decide +kernel
theorem d13_19 : decode jdk_68_method_9_code 19 = .ok (.getfield 15, 3) := by decide +kernel
theorem d13_22 : decode jdk_68_method_9_code 22 = .ok (.aload_n 0, 1) := by decide +kernel
theorem d13_23 : decode jdk_68_method_9_code 23 = .ok (.iload_n 1, 1) := by decide +kernel
theorem pd_6 : parseMethodDescriptor "(I)I" = some ⟨[.int], some .int⟩ := by decide +kernel
theorem d13_24 : decode jdk_68_method_9_code 24 = .ok (.invokevirtual 104, 3) := by decide +kernel
theorem d13_27 : decode jdk_68_method_9_code 27 = .ok (.aload_n 0, 1) := by decide +kernel
theorem d13_28 : decode jdk_68_method_9_code 28 = .ok (.getfield 22, 3) := by decide +kernel
theorem d13_31 : decode jdk_68_method_9_code 31 = .ok (.ishl, 1) := by decide +kernel
theorem pd_7 : parseMethodDescriptor "([BI)[B" = some ⟨[(.array .byte), .int], some (.array .byte)⟩ := by decide +kernel
theorem d13_32 : decode jdk_68_method_9_code 32 = .ok (.invokestatic 108, 3) := by decide +kernel
theorem d13_35 : decode jdk_68_method_9_code 35 = .ok (.putfield 15, 3) := by decide +kernel
theorem d14_0 : decode jdk_68_method_22_code 0 = .ok (.aload_n 1, 1) := by decide +kernel
theorem d14_1 : decode jdk_68_method_22_code 1 = .ok (.ifnonnull 8, 3) := by decide +kernel
theorem d14_9 : decode jdk_68_method_22_code 9 = .ok (.aload_n 1, 1) := by decide +kernel
theorem d14_10 : decode jdk_68_method_22_code 10 = .ok (.invokevirtual 32, 3) := by decide +kernel
theorem d14_13 : decode jdk_68_method_22_code 13 = .ok (.istore_n 2, 1) := by decide +kernel
theorem d14_14 : decode jdk_68_method_22_code 14 = .ok (.aload_n 0, 1) := by decide +kernel
theorem d14_15 : decode jdk_68_method_22_code 15 = .ok (.aload_n 0, 1) := by decide +kernel
theorem d14_16 : decode jdk_68_method_22_code 16 = .ok (.getfield 79, 3) := by decide +kernel
theorem d14_19 : decode jdk_68_method_22_code 19 = .ok (.iload_n 2, 1) := by decide +kernel
theorem d14_20 : decode jdk_68_method_22_code 20 = .ok (.iadd, 1) := by decide +kernel
theorem pd_8 : parseMethodDescriptor "(I)V" = some ⟨[.int], none⟩ := by decide +kernel
theorem d14_21 : decode jdk_68_method_22_code 21 = .ok (.invokevirtual 100, 3) := by decide +kernel
theorem d14_24 : decode jdk_68_method_22_code 24 = .ok (.aload_n 0, 1) := by decide +kernel
theorem d14_25 : decode jdk_68_method_22_code 25 = .ok (.aload_n 0, 1) := by decide +kernel
theorem d14_26 : decode jdk_68_method_22_code 26 = .ok (.getfield 79, 3) := by decide +kernel
theorem d14_29 : decode jdk_68_method_22_code 29 = .ok (.aload_n 1, 1) := by decide +kernel
theorem pd_9 : parseMethodDescriptor "(ILjava/lang/String;)V" = some ⟨[.int, (.object "java/lang/String")], none⟩ := by decide +kernel
theorem d14_30 : decode jdk_68_method_22_code 30 = .ok (.invokevirtual 208, 3) := by decide +kernel
theorem d14_33 : decode jdk_68_method_22_code 33 = .ok (.aload_n 0, 1) := by decide +kernel
theorem d14_34 : decode jdk_68_method_22_code 34 = .ok (.dup, 1) := by decide +kernel
theorem d14_35 : decode jdk_68_method_22_code 35 = .ok (.getfield 79, 3) := by decide +kernel
theorem d14_38 : decode jdk_68_method_22_code 38 = .ok (.iload_n 2, 1) := by decide +kernel
theorem d14_39 : decode jdk_68_method_22_code 39 = .ok (.iadd, 1) := by decide +kernel
theorem d14_40 : decode jdk_68_method_22_code 40 = .ok (.putfield 79, 3) := by decide +kernel
theorem d14_43 : decode jdk_68_method_22_code 43 = .ok (.aload_n 0, 1) := by decide +kernel
theorem d14_44 : decode jdk_68_method_22_code 44 = .ok (.areturn, 1) := by decide +kernel
theorem d15_0 : decode jdk_67_method_7_code 0 = .ok (.aload_n 0, 1) := by decide +kernel
theorem d15_1 : decode jdk_67_method_7_code 1 = .ok (.aload_n 1, 1) := by decide +kernel
theorem pd_10 : parseMethodDescriptor "(Ljava/lang/String;)Ljava/lang/AbstractStringBuilder;" = some ⟨[(.object "java/lang/String")], some (.object "java/lang/AbstractStringBuilder")⟩ := by decide +kernel
theorem d15_2 : decode jdk_67_method_7_code 2 = .ok (.invokespecial 29, 3) := by decide +kernel
theorem d15_5 : decode jdk_67_method_7_code 5 = .ok (.pop, 1) := by decide +kernel
theorem d15_6 : decode jdk_67_method_7_code 6 = .ok (.aload_n 0, 1) := by decide +kernel
theorem d15_7 : decode jdk_67_method_7_code 7 = .ok (.areturn, 1) := by decide +kernel
theorem d16_0 : decode jdk_68_method_2_code 0 = .ok (.aload_n 0, 1) := by decide +kernel
theorem d16_1 : decode jdk_68_method_2_code 1 = .ok (.invokespecial 3, 3) := by decide +kernel
theorem d16_4 : decode jdk_68_method_2_code 4 = .ok (.getstatic 18, 3) := by decide +kernel
theorem d16_7 : decode jdk_68_method_2_code 7 = .ok (.ifCond .eq 18, 3) := by decide +kernel
theorem d16_10 : decode jdk_68_method_2_code 10 = .ok (.aload_n 0, 1) := by decide +kernel
theorem d16_11 : decode jdk_68_method_2_code 11 = .ok (.iload_n 1, 1) := by decide +kernel
theorem d16_12 : decode jdk_68_method_2_code 12 = .ok (.newarray .byte, 2) := by decide +kernel
theorem d16_14 : decode jdk_68_method_2_code 14 = .ok (.putfield 15, 3) := by decide +kernel
theorem d16_17 : decode jdk_68_method_2_code 17 = .ok (.aload_n 0, 1) := by decide +kernel
theorem d16_18 : decode jdk_68_method_2_code 18 = .ok (.iconst 0, 1) := by decide +kernel
theorem d16_19 : decode jdk_68_method_2_code 19 = .ok (.putfield 22, 3) := by decide +kernel
theorem d16_22 : decode jdk_68_method_2_code 22 = .ok (.goto 16, 3) := by decide +kernel
theorem d16_38 : decode jdk_68_method_2_code 38 = .ok (.return_, 1) := by decide +kernel
theorem d17_0 : decode jdk_67_method_1_code 0 = .ok (.aload_n 0, 1) := by decide +kernel
theorem d17_1 : decode jdk_67_method_1_code 1 = .ok (.bipush 16, 2) := by decide +kernel
theorem d17_3 : decode jdk_67_method_1_code 3 = .ok (.invokespecial 1, 3) := by decide +kernel
theorem d17_6 : decode jdk_67_method_1_code 6 = .ok (.return_, 1) := by decide +kernel
theorem d18_0 : decode jdk_65_method_131_code 0 = .ok (.iload_n 1, 1) := by decide +kernel
theorem d18_1 : decode jdk_65_method_131_code 1 = .ok (.iload_n 0, 1) := by decide +kernel
theorem d18_2 : decode jdk_65_method_131_code 2 = .ok (.if_icmp .ge 35, 3) := by decide +kernel
theorem d18_37 : decode jdk_65_method_131_code 37 = .ok (.return_, 1) := by decide +kernel
theorem d19_0 : decode jdk_65_method_133_code 0 = .ok (.iload_n 1, 1) := by decide +kernel
theorem d19_1 : decode jdk_65_method_133_code 1 = .ok (.iload_n 2, 1) := by decide +kernel
theorem pd_11 : parseMethodDescriptor "(II)V" = some ⟨[.int, .int], none⟩ := by decide +kernel
theorem d19_2 : decode jdk_65_method_133_code 2 = .ok (.invokestatic 343, 3) := by decide +kernel
theorem d19_5 : decode jdk_65_method_133_code 5 = .ok (.iload_n 2, 1) := by decide +kernel
theorem d19_6 : decode jdk_65_method_133_code 6 = .ok (.iload_n 1, 1) := by decide +kernel
theorem d19_7 : decode jdk_65_method_133_code 7 = .ok (.isub, 1) := by decide +kernel
theorem d19_8 : decode jdk_65_method_133_code 8 = .ok (.istore_n 3, 1) := by decide +kernel
theorem d19_9 : decode jdk_65_method_133_code 9 = .ok (.iload_n 3, 1) := by decide +kernel
theorem d19_10 : decode jdk_65_method_133_code 10 = .ok (.newarray .byte, 2) := by decide +kernel
theorem d19_12 : decode jdk_65_method_133_code 12 = .ok (.astore 4, 2) := by decide +kernel
theorem d19_14 : decode jdk_65_method_133_code 14 = .ok (.aload_n 0, 1) := by decide +kernel
theorem d19_15 : decode jdk_65_method_133_code 15 = .ok (.iload_n 1, 1) := by decide +kernel
theorem d19_16 : decode jdk_65_method_133_code 16 = .ok (.aload 4, 2) := by decide +kernel
theorem d19_18 : decode jdk_65_method_133_code 18 = .ok (.iconst 0, 1) := by decide +kernel
theorem d19_19 : decode jdk_65_method_133_code 19 = .ok (.aload_n 0, 1) := by decide +kernel
theorem d19_20 : decode jdk_65_method_133_code 20 = .ok (.arraylength, 1) := by decide +kernel
theorem d19_21 : decode jdk_65_method_133_code 21 = .ok (.iload_n 1, 1) := by decide +kernel
theorem d19_22 : decode jdk_65_method_133_code 22 = .ok (.isub, 1) := by decide +kernel
theorem d19_23 : decode jdk_65_method_133_code 23 = .ok (.iload_n 3, 1) := by decide +kernel
theorem d19_24 : decode jdk_65_method_133_code 24 = .ok (.invokestatic 304, 3) := by decide +kernel
theorem d19_27 : decode jdk_65_method_133_code 27 = .ok (.invokestatic 150, 3) := by decide +kernel
theorem d19_30 : decode jdk_65_method_133_code 30 = .ok (.aload 4, 2) := by decide +kernel
theorem d19_32 : decode jdk_65_method_133_code 32 = .ok (.areturn, 1) := by decide +kernel
theorem d20_0 : decode jdk_65_method_132_code 0 = .ok (.iload_n 1, 1) := by decide +kernel
theorem d20_1 : decode jdk_65_method_132_code 1 = .ok (.ifCond .ne 9, 3) := by decide +kernel
theorem d20_4 : decode jdk_65_method_132_code 4 = .ok (.iload_n 2, 1) := by decide +kernel
theorem d20_5 : decode jdk_65_method_132_code 5 = .ok (.aload_n 0, 1) := by decide +kernel
theorem d20_6 : decode jdk_65_method_132_code 6 = .ok (.arraylength, 1) := by decide +kernel
theorem d20_7 : decode jdk_65_method_132_code 7 = .ok (.if_icmp .eq 10, 3) := by decide +kernel
theorem d20_10 : decode jdk_65_method_132_code 10 = .ok (.aload_n 0, 1) := by decide +kernel
theorem d20_11 : decode jdk_65_method_132_code 11 = .ok (.iload_n 1, 1) := by decide +kernel
theorem d20_12 : decode jdk_65_method_132_code 12 = .ok (.iload_n 2, 1) := by decide +kernel
theorem pd_12 : parseMethodDescriptor "([BII)[B" = some ⟨[(.array .byte), .int, .int], some (.array .byte)⟩ := by decide +kernel
theorem d20_13 : decode jdk_65_method_132_code 13 = .ok (.invokestatic 339, 3) := by decide +kernel
theorem d20_16 : decode jdk_65_method_132_code 16 = .ok (.areturn, 1) := by decide +kernel
theorem d21_0 : decode jdk_42_method_150_code 0 = .ok (.aload_n 0, 1) := by decide +kernel
theorem d21_1 : decode jdk_42_method_150_code 1 = .ok (.invokespecial 1, 3) := by decide +kernel
theorem d21_4 : decode jdk_42_method_150_code 4 = .ok (.aload_n 1, 1) := by decide +kernel
theorem pd_13 : parseMethodDescriptor "()[B" = some ⟨[], some (.array .byte)⟩ := by decide +kernel
theorem d21_5 : decode jdk_42_method_150_code 5 = .ok (.invokevirtual 552, 3) := by decide +kernel
theorem d21_8 : decode jdk_42_method_150_code 8 = .ok (.astore_n 3, 1) := by decide +kernel
theorem d21_9 : decode jdk_42_method_150_code 9 = .ok (.aload_n 1, 1) := by decide +kernel
theorem d21_10 : decode jdk_42_method_150_code 10 = .ok (.invokevirtual 549, 3) := by decide +kernel
theorem d21_13 : decode jdk_42_method_150_code 13 = .ok (.istore 4, 2) := by decide +kernel
theorem d21_15 : decode jdk_42_method_150_code 15 = .ok (.aload_n 1, 1) := by decide +kernel
theorem pd_14 : parseMethodDescriptor "()Z" = some ⟨[], some .boolean⟩ := by decide +kernel
theorem d21_16 : decode jdk_42_method_150_code 16 = .ok (.invokevirtual 1047, 3) := by decide +kernel
theorem d21_19 : decode jdk_42_method_150_code 19 = .ok (.ifCond .eq 22, 3) := by decide +kernel
theorem d21_22 : decode jdk_42_method_150_code 22 = .ok (.aload_n 0, 1) := by decide +kernel
theorem d21_23 : decode jdk_42_method_150_code 23 = .ok (.iconst 0, 1) := by decide +kernel
theorem d21_24 : decode jdk_42_method_150_code 24 = .ok (.putfield 15, 3) := by decide +kernel
theorem d21_27 : decode jdk_42_method_150_code 27 = .ok (.aload_n 0, 1) := by decide +kernel
theorem d21_28 : decode jdk_42_method_150_code 28 = .ok (.aload_n 3, 1) := by decide +kernel
theorem d21_29 : decode jdk_42_method_150_code 29 = .ok (.iconst 0, 1) := by decide +kernel
theorem d21_30 : decode jdk_42_method_150_code 30 = .ok (.iload 4, 2) := by decide +kernel
theorem d21_32 : decode jdk_42_method_150_code 32 = .ok (.invokestatic 54, 3) := by decide +kernel
theorem d21_35 : decode jdk_42_method_150_code 35 = .ok (.putfield 9, 3) := by decide +kernel
theorem d21_38 : decode jdk_42_method_150_code 38 = .ok (.goto 59, 3) := by decide +kernel
theorem d21_97 : decode jdk_42_method_150_code 97 = .ok (.return_, 1) := by decide +kernel
theorem d22_0 : decode jdk_42_method_53_code 0 = .ok (.aload_n 0, 1) := by decide +kernel
theorem d22_1 : decode jdk_42_method_53_code 1 = .ok (.aload_n 1, 1) := by decide +kernel
theorem d22_2 : decode jdk_42_method_53_code 2 = .ok (.aconst_null, 1) := by decide +kernel
theorem pd_15 : parseMethodDescriptor "(Ljava/lang/AbstractStringBuilder;Ljava/lang/Void;)V" = some ⟨[(.object "java/lang/AbstractStringBuilder"), (.object "java/lang/Void")], none⟩ := by decide +kernel
theorem d22_3 : decode jdk_42_method_53_code 3 = .ok (.invokespecial 489, 3) := by decide +kernel
theorem d22_6 : decode jdk_42_method_53_code 6 = .ok (.return_, 1) := by decide +kernel
theorem d23_0 : decode jdk_67_method_42_code 0 = .ok (.new 18, 3) := by decide +kernel
theorem d23_3 : decode jdk_67_method_42_code 3 = .ok (.dup, 1) := by decide +kernel
theorem d23_4 : decode jdk_67_method_42_code 4 = .ok (.aload_n 0, 1) := by decide +kernel
theorem pd_16 : parseMethodDescriptor "(Ljava/lang/StringBuilder;)V" = some ⟨[(.object "java/lang/StringBuilder")], none⟩ := by decide +kernel
theorem d23_5 : decode jdk_67_method_42_code 5 = .ok (.invokespecial 137, 3) := by decide +kernel
theorem d23_8 : decode jdk_67_method_42_code 8 = .ok (.areturn, 1) := by decide +kernel
theorem d24_0 : decode jdk_30_method_1_code 0 = .ok (.aload_n 0, 1) := by decide +kernel
theorem d24_1 : decode jdk_30_method_1_code 1 = .ok (.invokespecial 1, 3) := by decide +kernel
theorem d24_4 : decode jdk_30_method_1_code 4 = .ok (.return_, 1) := by decide +kernel
theorem pn_5 : plainName "java/lang/Record" = true := by first | (simp [plainName, overriddenIn]; done) | decide +kernel
theorem d25_0 : decode prog_35_method_1_code 0 = .ok (.aload_n 0, 1) := by decide +kernel
theorem pd_17 : parseMethodDescriptor "()V" = some ⟨[], none⟩ := by decide +kernel
theorem d25_1 : decode prog_35_method_1_code 1 = .ok (.invokespecial 1, 3) := by decide +kernel
theorem d25_4 : decode prog_35_method_1_code 4 = .ok (.aload_n 0, 1) := by decide +kernel
theorem d25_5 : decode prog_35_method_1_code 5 = .ok (.aload_n 1, 1) := by decide +kernel
theorem d25_6 : decode prog_35_method_1_code 6 = .ok (.putfield 7, 3) := by decide +kernel
theorem d25_9 : decode prog_35_method_1_code 9 = .ok (.aload_n 0, 1) := by decide +kernel
theorem d25_10 : decode prog_35_method_1_code 10 = .ok (.aload_n 2, 1) := by decide +kernel
theorem d25_11 : decode prog_35_method_1_code 11 = .ok (.putfield 13, 3) := by decide +kernel
theorem d25_14 : decode prog_35_method_1_code 14 = .ok (.return_, 1) := by decide +kernel
theorem pn_6 : plainName "org/grantpath/TableSchema$Comparison" = true := by first | (simp [plainName, overriddenIn]; done) | decide +kernel
theorem d26_0 : decode prog_35_method_2_code 0 = .ok (.new 16, 3) := by decide +kernel
theorem d26_3 : decode prog_35_method_2_code 3 = .ok (.dup, 1) := by decide +kernel
theorem d26_4 : decode prog_35_method_2_code 4 = .ok (.invokespecial 18, 3) := by decide +kernel
theorem d26_7 : decode prog_35_method_2_code 7 = .ok (.ldc 19, 2) := by decide +kernel
theorem pd_18 : parseMethodDescriptor "(Ljava/lang/String;)Ljava/lang/StringBuilder;" = some ⟨[(.object "java/lang/String")], some (.object "java/lang/StringBuilder")⟩ := by decide +kernel
theorem d26_9 : decode prog_35_method_2_code 9 = .ok (.invokevirtual 21, 3) := by decide +kernel
theorem d26_12 : decode prog_35_method_2_code 12 = .ok (.aload_n 1, 1) := by decide +kernel
theorem d26_13 : decode prog_35_method_2_code 13 = .ok (.invokevirtual 21, 3) := by decide +kernel
theorem d26_16 : decode prog_35_method_2_code 16 = .ok (.ldc 25, 2) := by decide +kernel
theorem d26_18 : decode prog_35_method_2_code 18 = .ok (.invokevirtual 21, 3) := by decide +kernel
theorem d26_21 : decode prog_35_method_2_code 21 = .ok (.aload_n 0, 1) := by decide +kernel
theorem d26_22 : decode prog_35_method_2_code 22 = .ok (.getfield 7, 3) := by decide +kernel
theorem d26_25 : decode prog_35_method_2_code 25 = .ok (.invokevirtual 21, 3) := by decide +kernel
theorem d26_28 : decode prog_35_method_2_code 28 = .ok (.ldc 27, 2) := by decide +kernel
theorem d26_30 : decode prog_35_method_2_code 30 = .ok (.invokevirtual 21, 3) := by decide +kernel
theorem pd_19 : parseMethodDescriptor "()Ljava/lang/String;" = some ⟨[], some (.object "java/lang/String")⟩ := by decide +kernel
theorem d26_33 : decode prog_35_method_2_code 33 = .ok (.invokevirtual 29, 3) := by decide +kernel
theorem d26_36 : decode prog_35_method_2_code 36 = .ok (.astore_n 2, 1) := by decide +kernel
theorem d26_37 : decode prog_35_method_2_code 37 = .ok (.aload_n 0, 1) := by decide +kernel
theorem d26_38 : decode prog_35_method_2_code 38 = .ok (.getfield 13, 3) := by decide +kernel
theorem d26_41 : decode prog_35_method_2_code 41 = .ok (.ifnonnull 7, 3) := by decide +kernel
theorem d26_44 : decode prog_35_method_2_code 44 = .ok (.aload_n 2, 1) := by decide +kernel
theorem d26_45 : decode prog_35_method_2_code 45 = .ok (.goto 29, 3) := by decide +kernel
theorem d26_74 : decode prog_35_method_2_code 74 = .ok (.areturn, 1) := by decide +kernel
theorem d26_48 : decode prog_35_method_2_code 48 = .ok (.new 16, 3) := by decide +kernel
theorem d26_51 : decode prog_35_method_2_code 51 = .ok (.dup, 1) := by decide +kernel
theorem d26_52 : decode prog_35_method_2_code 52 = .ok (.invokespecial 18, 3) := by decide +kernel
theorem d26_55 : decode prog_35_method_2_code 55 = .ok (.aload_n 2, 1) := by decide +kernel
theorem d26_56 : decode prog_35_method_2_code 56 = .ok (.invokevirtual 21, 3) := by decide +kernel
theorem d26_59 : decode prog_35_method_2_code 59 = .ok (.ldc 33, 2) := by decide +kernel
theorem d26_61 : decode prog_35_method_2_code 61 = .ok (.invokevirtual 21, 3) := by decide +kernel
theorem d26_64 : decode prog_35_method_2_code 64 = .ok (.aload_n 0, 1) := by decide +kernel
theorem d26_65 : decode prog_35_method_2_code 65 = .ok (.getfield 13, 3) := by decide +kernel
theorem d26_68 : decode prog_35_method_2_code 68 = .ok (.invokevirtual 21, 3) := by decide +kernel
theorem d26_71 : decode prog_35_method_2_code 71 = .ok (.invokevirtual 29, 3) := by decide +kernel
theorem d27_0 : decode method_2_code 0 = .ok (.aload_n 0, 1) := by decide +kernel
theorem d27_1 : decode method_2_code 1 = .ok (.iconst 0, 1) := by decide +kernel
theorem d27_2 : decode method_2_code 2 = .ok (.bipush 67, 2) := by decide +kernel
theorem d27_4 : decode method_2_code 4 = .ok (.castore, 1) := by decide +kernel
theorem d27_5 : decode method_2_code 5 = .ok (.aload_n 0, 1) := by decide +kernel
theorem d27_6 : decode method_2_code 6 = .ok (.iconst 1, 1) := by decide +kernel
theorem d27_7 : decode method_2_code 7 = .ok (.bipush 65, 2) := by decide +kernel
theorem d27_9 : decode method_2_code 9 = .ok (.castore, 1) := by decide +kernel
theorem d27_10 : decode method_2_code 10 = .ok (.aload_n 0, 1) := by decide +kernel
theorem d27_11 : decode method_2_code 11 = .ok (.iconst 2, 1) := by decide +kernel
theorem d27_12 : decode method_2_code 12 = .ok (.bipush 83, 2) := by decide +kernel
theorem d27_14 : decode method_2_code 14 = .ok (.castore, 1) := by decide +kernel
theorem d27_15 : decode method_2_code 15 = .ok (.aload_n 0, 1) := by decide +kernel
theorem d27_16 : decode method_2_code 16 = .ok (.iconst 3, 1) := by decide +kernel
theorem d27_17 : decode method_2_code 17 = .ok (.bipush 84, 2) := by decide +kernel
theorem d27_19 : decode method_2_code 19 = .ok (.castore, 1) := by decide +kernel
theorem d27_20 : decode method_2_code 20 = .ok (.aload_n 0, 1) := by decide +kernel
theorem d27_21 : decode method_2_code 21 = .ok (.iconst 4, 1) := by decide +kernel
theorem d27_22 : decode method_2_code 22 = .ok (.bipush 40, 2) := by decide +kernel
theorem d27_24 : decode method_2_code 24 = .ok (.castore, 1) := by decide +kernel
theorem d27_25 : decode method_2_code 25 = .ok (.aload_n 0, 1) := by decide +kernel
theorem d27_26 : decode method_2_code 26 = .ok (.iconst 5, 1) := by decide +kernel
theorem d27_27 : decode method_2_code 27 = .ok (.iload_n 1, 1) := by decide +kernel
theorem d27_28 : decode method_2_code 28 = .ok (.castore, 1) := by decide +kernel
theorem d27_29 : decode method_2_code 29 = .ok (.aload_n 0, 1) := by decide +kernel
theorem d27_30 : decode method_2_code 30 = .ok (.bipush 6, 2) := by decide +kernel
theorem d27_32 : decode method_2_code 32 = .ok (.iload_n 2, 1) := by decide +kernel
theorem d27_33 : decode method_2_code 33 = .ok (.castore, 1) := by decide +kernel
theorem d27_34 : decode method_2_code 34 = .ok (.aload_n 0, 1) := by decide +kernel
theorem d27_35 : decode method_2_code 35 = .ok (.bipush 7, 2) := by decide +kernel
theorem d27_37 : decode method_2_code 37 = .ok (.bipush 32, 2) := by decide +kernel
theorem d27_39 : decode method_2_code 39 = .ok (.castore, 1) := by decide +kernel
theorem d27_40 : decode method_2_code 40 = .ok (.aload_n 0, 1) := by decide +kernel
theorem d27_41 : decode method_2_code 41 = .ok (.bipush 8, 2) := by decide +kernel
theorem d27_43 : decode method_2_code 43 = .ok (.bipush 65, 2) := by decide +kernel
theorem d27_45 : decode method_2_code 45 = .ok (.castore, 1) := by decide +kernel
theorem d27_46 : decode method_2_code 46 = .ok (.aload_n 0, 1) := by decide +kernel
theorem d27_47 : decode method_2_code 47 = .ok (.bipush 9, 2) := by decide +kernel
theorem d27_49 : decode method_2_code 49 = .ok (.bipush 83, 2) := by decide +kernel
theorem d27_51 : decode method_2_code 51 = .ok (.castore, 1) := by decide +kernel
theorem d27_52 : decode method_2_code 52 = .ok (.aload_n 0, 1) := by decide +kernel
theorem d27_53 : decode method_2_code 53 = .ok (.bipush 10, 2) := by decide +kernel
theorem d27_55 : decode method_2_code 55 = .ok (.bipush 32, 2) := by decide +kernel
theorem d27_57 : decode method_2_code 57 = .ok (.castore, 1) := by decide +kernel
theorem d27_58 : decode method_2_code 58 = .ok (.aload_n 0, 1) := by decide +kernel
theorem d27_59 : decode method_2_code 59 = .ok (.bipush 11, 2) := by decide +kernel
theorem d27_61 : decode method_2_code 61 = .ok (.iload_n 3, 1) := by decide +kernel
theorem d27_62 : decode method_2_code 62 = .ok (.castore, 1) := by decide +kernel
theorem d27_63 : decode method_2_code 63 = .ok (.aload_n 0, 1) := by decide +kernel
theorem d27_64 : decode method_2_code 64 = .ok (.bipush 12, 2) := by decide +kernel
theorem d27_66 : decode method_2_code 66 = .ok (.iload 4, 2) := by decide +kernel
theorem d27_68 : decode method_2_code 68 = .ok (.castore, 1) := by decide +kernel
theorem d27_69 : decode method_2_code 69 = .ok (.aload_n 0, 1) := by decide +kernel
theorem d27_70 : decode method_2_code 70 = .ok (.bipush 13, 2) := by decide +kernel
theorem d27_72 : decode method_2_code 72 = .ok (.bipush 41, 2) := by decide +kernel
theorem d27_74 : decode method_2_code 74 = .ok (.castore, 1) := by decide +kernel
theorem d27_75 : decode method_2_code 75 = .ok (.return_, 1) := by decide +kernel
theorem pn_7 : plainName "org/grantpath/ComparisonOfPinLaw" = true := by first | (simp [plainName, overriddenIn]; done) | decide +kernel
theorem pd_20 : parseMethodDescriptor "([C)V" = some ⟨[(.array .char)], none⟩ := by decide +kernel
theorem pd_21 : parseMethodDescriptor "([CCCCC)V" = some ⟨[(.array .char), .char, .char, .char, .char], none⟩ := by decide +kernel
theorem pd_22 : parseMethodDescriptor "(Ljava/lang/String;Ljava/lang/String;)V" = some ⟨[(.object "java/lang/String"), (.object "java/lang/String")], none⟩ := by decide +kernel
theorem pd_23 : parseMethodDescriptor "(Ljava/lang/String;)Ljava/lang/String;" = some ⟨[(.object "java/lang/String")], some (.object "java/lang/String")⟩ := by decide +kernel
theorem pd_24 : parseMethodDescriptor "(Ljava/lang/Object;)Z" = some ⟨[(.object "java/lang/Object")], some .boolean⟩ := by decide +kernel
abbrev EL : List (String × Nat) := [("org/grantpath/TableSchema$Comparison", 19), ("org/grantpath/TableSchema$Comparison", 25), ("org/grantpath/TableSchema$Comparison", 27), ("org/grantpath/TableSchema$Comparison", 33)]
theorem elA {Z : State} {a0 : Array Value} (H : Ev Z a0) : EW Z a0 EL := (EW.cons (H.1 _ (List.mem_of_getElem? (i := 73) rfl)) (by decide) (EW.cons (H.1 _ (List.mem_of_getElem? (i := 123) rfl)) (by decide) (EW.cons (H.1 _ (List.mem_of_getElem? (i := 124) rfl)) (by decide) (EW.cons (H.1 _ (List.mem_of_getElem? (i := 170) rfl)) (by decide) EW.nil))))
theorem strsA {Z : State} {a0 : Array Value} (H : Ev Z a0) : ∀ d ∈ Bundle.stringAtoms, d.before a0 Z = true := fun d hd => H.1 d ((by decide +kernel : ∀ d ∈ Bundle.stringAtoms, d ∈ tables_1) d hd)
/-! Strings of chars 0 to 255 -/
def StrA (Z : State) (h : Heap) (x : Addr) (cs : List Int32) : Prop := Exa Z h x "java/lang/String" ∧ Fld Z h x "java/lang/String" "coder" "B" (.int 0) ∧ (∃ (t : Addr) (kb : ClassId), Fld Z h x "java/lang/String" "value" "[B" (.ref t) ∧ Arv Z h t kb .byte (Int32.ofNat cs.length) ((cs.map fun c => c.toInt8.toInt32).map Value.int) (.int 0)) ∧ (∀ c ∈ cs, ¬ c < 0 ∧ ¬ (255 : Int32) < c) ∧ cs.length ≤ 4000
theorem StrA.ext {Z : State} {h h' : Heap} {x : Addr} {cs : List Int32} (F : StrA Z h x cs) (E : Ext h h') : StrA Z h' x cs := by
  obtain ⟨h1, h2, ⟨t, kb, h3, h4⟩, h5⟩ := F
  exact ⟨h1.ext E, h2.ext E, ⟨t, kb, h3.ext E, h4.ext E⟩, h5⟩
theorem StrA.keepO {Z : State} {h h' : Heap} {x a : Addr} {cs : List Int32} {C : String} {q : Nat} {a0 : Array Value} (F : StrA Z h x cs) (K : Keep h h' [a]) (E : Exa Z h a C) (hC : C ≠ "java/lang/String") (wi : (Cond.instantiable C q).before a0 Z = true) : StrA Z h' x cs := by
  obtain ⟨h1, h2, ⟨t, kb, h3, h4⟩, h5⟩ := F
  have n1 : x ∉ [a] := ninS (fun e => ne_exa E h1 hC e.symm) nin0
  have n2 : t ∉ [a] := ninS (Ne.symm (Exa.neArv E h4 wi)) nin0
  exact ⟨h1.keep K, h2.keep K n1, ⟨t, kb, h3.keep K n1, h4.keep K n2⟩, h5⟩
theorem StrA.lt {Z : State} {h : Heap} {x : Addr} {cs : List Int32} (F : StrA Z h x cs) : x < h.size := F.1.lt
theorem lo8_inj {x y : Int32} (hx : ¬ x < 0 ∧ ¬ (255 : Int32) < x) (hy : ¬ y < 0 ∧ ¬ (255 : Int32) < y) (h : x.toInt8.toInt32 = y.toInt8.toInt32) : x = y := by
  have a := c_i2b x; have b := c_i2b y; have e : (255 : Int32).toInt = 255 := rfl; have e0 : (0 : Int32).toInt = 0 := rfl
  simp only [Int32.lt_iff_toInt_lt] at hx hy
  rw [h] at a
  exact i32e (by omega)
theorem map_inj8 : ∀ (cs ds : List Int32), (∀ c ∈ cs, ¬ c < 0 ∧ ¬ (255 : Int32) < c) → (∀ c ∈ ds, ¬ c < 0 ∧ ¬ (255 : Int32) < c) → (cs.map fun c => c.toInt8.toInt32) = (ds.map fun c => c.toInt8.toInt32) → cs = ds
  | [], [], _, _, _ => rfl
  | [], _ :: _, _, _, h => by simp at h
  | _ :: _, [], _, _, h => by simp at h
  | c :: cs, d :: ds, hc, hd, h => by
    simp only [List.map_cons, List.cons.injEq] at h
    rw [lo8_inj (hc c (List.mem_cons_self ..)) (hd d (List.mem_cons_self ..)) h.1, map_inj8 cs ds (fun x hx => hc x (List.mem_cons_of_mem _ hx)) (fun x hx => hd x (List.mem_cons_of_mem _ hx)) h.2]
theorem n32' {n : Nat} (h : n ≤ 4000) : (Int32.ofNat n).toNatClampNeg = n := by
  have q : n.toInt32.toInt = n := len_toInt (by omega)
  show (Int32.ofNat n).toInt.toNat = n
  have r : (Int32.ofNat n).toInt = n := q
  rw [r]; rfl
theorem StrA.inj {Z : State} {h : Heap} {x : Addr} {cs ds : List Int32} (F : StrA Z h x cs) (G : StrA Z h x ds) : cs = ds := by
  obtain ⟨-, -, ⟨t, kb, h3, c, A, -, S, -, H, -⟩, h5, h6⟩ := F
  obtain ⟨-, -, ⟨t', kb', g3, c', A', -, S', -, H', -⟩, g5, g6⟩ := G
  have et : t = t' := by
    apply Decidable.byContradiction; intro q
    exact Fld.ne h3 g3 (fun e => q (by injection e)) rfl
  subst et
  cases A.1.symm.trans A'.1
  rw [n32' h6] at S; rw [n32' g6] at S'
  have el : cs.length = ds.length := S.symm.trans S'
  apply map_inj8 cs ds h5 g5
  apply List.ext_getElem (by simp [el])
  intro i hi hi'
  simp only [List.length_map] at hi hi'
  have a := H i (by omega); have b := H' i (by omega)
  rw [a] at b
  simpa [List.getD_eq_getElem?_getD, hi, hi'] using b
section StrPay
variable {l : Launch} {R : Room} {p : Program} {e : Env} {below : List Frame} {s : State} {args : Array Value} {Z : State} {a0 : Array Value} {h : Heap} {n0 Wd : Nat} {vm0 : Vm}
theorem payStr (H : Ev Z a0) {x b : Addr} {kC : ClassId} {cs : List Int32} {d v0 c0 : Value} {N : Int32} {nn : Nat} (O : Old Z n0 h) (hx0 : n0 ≤ x) (E : Exa Z h x "java/lang/String") (V : Fld Z h x "java/lang/String" "value" "[B" v0) (C : Fld Z h x "java/lang/String" "coder" "B" c0) (K : Arv Z h b kC .char N (cs.map Value.int) d) (hn : cs.length = nn) (hN : N = Int32.ofNat nn) (l0 : 0 < nn) (l2 : nn ≤ 4000)
    (hp : ∀ c ∈ cs, ¬ c < 0 ∧ ¬ (255 : Int32) < c) (hfr : 4 ≤ R.frames) (hlo : Wd + 65 ≤ R.locals) (hZ : Z.Warmed39 (s.setVm vm0).vm) :
    PayN l R p e below (s.setVm vm0) args (⟨"java/lang/String", "<init>", "([C)V"⟩ : MethodName) 3 Wd #[.ref x, .ref b] h 1 nn (fun v h' L => v = none ∧ (Fr n0 L ∧ Keep h h' [x]) ∧ StrA Z h' x cs) := by
  obtain ⟨z, S, hz⟩ := H.2.1
  refine Back.mono (StrChars.Road.backV (bs := cs.map fun c => c.toInt8.toInt32) (n := nn) (n0 := n0) hZ (fun d hd => H.1 d ((by decide +kernel : ∀ d ∈ StrChars.Road.words, d ∈ tables_1) d hd)) (kI := 4) (H.1 _ (by decide +kernel : Jvm.Cond.instantiable "java/lang/String" 4 ∈ tables_1)) hx0 (by rw [← O.1]; exact O.2.1) E V C K (S.ext O.2) hz hn hN l0 l2 hp rfl hfr hlo) (fun P a hp => hp) (fun P a v B hp' hq => ?_)
  obtain ⟨L, ⟨q1, q2, q3, q4, q5, t, kb, -, -, -, q6, q7⟩, r⟩ := hq
  exact ⟨L, ⟨q1, ⟨q2, q3⟩, q4, q5, ⟨t, kb, q6, by rw [hn, ← hN]; exact q7⟩, hp, by omega⟩, r⟩
theorem payLen (H : Ev Z a0) {x : Addr} {cs : List Int32} (O : Old Z n0 h) (F : StrA Z h x cs) (hfr : 2 ≤ R.frames) (hlo : Wd + 25 ≤ R.locals) (hZ : Z.Warmed39 (s.setVm vm0).vm) :
    PayN l R p e below (s.setVm vm0) args (⟨"java/lang/String", "length", "()I"⟩ : MethodName) 3 Wd #[.ref x] h 0 0 (fun v h' L => (v = some (.int (Int32.ofNat cs.length)) ∧ h' = h) ∧ L = []) := by
  obtain ⟨z, S, hz⟩ := H.2.1
  obtain ⟨h1, h2, ⟨t, kb, h3, h4⟩, h5, h6⟩ := F
  refine Back.mono (StrChars.Road.lenW hZ (fun d hd => H.1 d ((by decide +kernel : ∀ d ∈ StrChars.Road.wordsLen, d ∈ tables_1) d hd)) (kI := 4) (H.1 _ (by decide +kernel : Jvm.Cond.instantiable "java/lang/String" 4 ∈ tables_1)) h1 h3 h2 h4 (StrChars.Road.codOf rfl fun c hc => (h5 c hc).2) (chUp h5) (S.ext O.2) hz h6 hfr hlo) (fun P a hp => hp) (fun P a v B hp' hq => ?_)
  obtain ⟨L, ⟨q1, q2, q3⟩, r⟩ := hq
  exact ⟨L, ⟨⟨q1, q3⟩, q2⟩, r⟩
theorem payEq (H : Ev Z a0) {x y : Addr} {cs ds : List Int32} (O : Old Z n0 h) (F : StrA Z h x cs) (G : StrA Z h y ds) (hfr : 2 ≤ R.frames) (hlo : Wd + 28 ≤ R.locals) (hZ : Z.Warmed39 (s.setVm vm0).vm) :
    PayN l R p e below (s.setVm vm0) args (⟨"java/lang/String", "equals", "(Ljava/lang/Object;)Z"⟩ : MethodName) 3 Wd #[.ref x, .ref y] h 0 0 (fun v h' L => (v = some (.int (bI (cs = ds))) ∧ h' = h) ∧ L = []) := by
  obtain ⟨z, S, hz⟩ := H.2.1
  obtain ⟨h1, h2, ⟨t, kb, h3, h4⟩, h5, h6⟩ := F
  obtain ⟨g1, g2, ⟨t', kb', g3, g4⟩, g5, g6⟩ := G
  refine Back.mono (StrChars.Road.eqW hZ (fun d hd => H.1 d ((by decide +kernel : ∀ d ∈ StrChars.Road.wordsEq, d ∈ tables_1) d hd)) (kI := 4) (H.1 _ (by decide +kernel : Jvm.Cond.instantiable "java/lang/String" 4 ∈ tables_1)) h1 h3 h2 h4 (StrChars.Road.codOf rfl fun c hc => (h5 c hc).2) (chUp h5) h6 g1 g3 g2 g4 (StrChars.Road.codOf rfl fun c hc => (g5 c hc).2) (chUp g5) g6 (S.ext O.2) hz hfr hlo) (fun P a hp => hp) (fun P a v B hp' hq => ?_)
  obtain ⟨L, ⟨q1, q2, q3⟩, r⟩ := hq
  refine ⟨L, ⟨⟨?_, q3⟩, q2⟩, r⟩
  rcases q1 with ⟨q1, e⟩ | ⟨q1, e⟩
  · rw [q1, bIt e]
  · rw [q1, bI0 e]
end StrPay
abbrev bs (xs : List Int32) : List Value := (xs.map fun c => c.toInt8.toInt32).map Value.int
def SBA (Z : State) (h : Heap) (b t : Addr) (xs : List Int32) : Prop := Exa Z h b "java/lang/StringBuilder" ∧ Fld Z h b "java/lang/AbstractStringBuilder" "value" "[B" (.ref t) ∧ Fld Z h b "java/lang/AbstractStringBuilder" "count" "I" (.int (Int32.ofNat xs.length)) ∧ Fld Z h b "java/lang/AbstractStringBuilder" "coder" "B" (.int 0) ∧ (∃ (kb : ClassId) (n : Nat), (n = 16 ∨ n = 34) ∧ xs.length ≤ n ∧ Arv Z h t kb .byte (Int32.ofNat n) (bs xs) (.int 0)) ∧ (∀ c ∈ xs, ¬ c < 0 ∧ ¬ (255 : Int32) < c)
theorem SBA.ext {Z : State} {h h' : Heap} {b t : Addr} {xs : List Int32} (F : SBA Z h b t xs) (E : Ext h h') : SBA Z h' b t xs := by
  obtain ⟨h1, h2, h3, h4, ⟨kb, n, h5, h6, h7⟩, h8⟩ := F
  exact ⟨h1.ext E, h2.ext E, h3.ext E, h4.ext E, ⟨kb, n, h5, h6, h7.ext E⟩, h8⟩
theorem SBA.lt {Z : State} {h : Heap} {b t : Addr} {xs : List Int32} (F : SBA Z h b t xs) : b < h.size := F.1.lt
theorem SBA.tlt {Z : State} {h : Heap} {b t : Addr} {xs : List Int32} (F : SBA Z h b t xs) : t < h.size := by obtain ⟨-, -, -, -, ⟨kb, n, -, -, V⟩, -⟩ := F; exact V.lt
theorem bs_len (xs : List Int32) : (bs xs).length = xs.length := by simp [bs]
theorem bs_app (xs ys : List Int32) : bs (xs ++ ys) = bs xs ++ bs ys := by simp [bs]
theorem range_get {vs : List Value} {d : Value} {k : Nat} (h : vs.length = k) : (List.range k).map (fun i => vs.getD i d) = vs := by
  apply List.ext_getElem (by simp [h])
  intro i h1 h2
  simp [List.getD_eq_getElem?_getD, h2]
theorem range_pad {vs : List Value} {d : Value} {k : Nat} (h : vs.length ≤ k) : (List.range k).map (fun i => vs.getD i d) = vs ++ List.replicate (k - vs.length) d := by
  apply List.ext_getElem (by simp; omega)
  intro i h1 h2
  simp only [List.length_map, List.length_range] at h1
  by_cases q : i < vs.length
  · simp [List.getD_eq_getElem?_getD, q]
  · simp [List.getD_eq_getElem?_getD, List.getElem?_eq_none (Nat.le_of_not_lt q), List.getElem_append_right (Nat.le_of_not_lt q)]
theorem cpy_ok {Z : State} {h : Heap} {t : Addr} {kb : ClassId} {n : Nat} {xs cs : List Int32} (hn : xs.length + cs.length ≤ n) (hb : n ≤ 4000)
    (V : Arv Z h t kb .byte (Int32.ofNat n) ((bs xs ++ List.replicate (n - xs.length) (Value.int 0)).take (Int32.ofNat xs.length).toNatClampNeg ++ (List.range (Int32.ofNat cs.length).toNatClampNeg).map (fun i => (bs cs).getD ((0 : Int32).toNatClampNeg + i) (Value.int 0)) ++ (bs xs ++ List.replicate (n - xs.length) (Value.int 0)).drop ((Int32.ofNat xs.length).toNatClampNeg + (Int32.ofNat cs.length).toNatClampNeg)) (.int 0)) : Arv Z h t kb .byte (Int32.ofNat n) (bs (xs ++ cs)) (.int 0) := by
  rw [n_clamp (by omega), n_clamp (by omega)] at V
  have e0 : (0 : Int32).toNatClampNeg = 0 := rfl
  simp only [e0, Nat.zero_add] at V
  rw [range_get (bs_len cs), List.take_append_of_le_length (by rw [bs_len]; omega), List.take_of_length_le (by rw [bs_len]; omega)] at V
  have ed : (bs xs ++ List.replicate (n - xs.length) (Value.int 0)).drop (xs.length + cs.length) = List.replicate (n - xs.length - cs.length) (Value.int 0) := by
    rw [List.drop_append, List.drop_eq_nil_of_le (by rw [bs_len]; omega), bs_len]; simp
  rw [ed, ← bs_app] at V
  exact V.pad fun i => (pad_rep _ _ _ i).symm
theorem new_ok {Z : State} {h : Heap} {t : Addr} {kb : ClassId} {z : Int32} {m c k : Nat} {xs : List Int32} (hk : xs.length ≤ k) (hc : k ≤ c)
    (V : Arv Z h t kb .byte z ((List.replicate c (Value.int (0 : Int32))).take (0 : Int32).toNatClampNeg ++ (List.range k).map (fun i => (bs xs).getD ((0 : Int32).toNatClampNeg + i) (Value.int 0)) ++ (List.replicate c (Value.int (0 : Int32))).drop ((0 : Int32).toNatClampNeg + k)) (.int (0 : Int32))) : Arv Z h t kb .byte z (bs xs) (.int 0) := by
  have e0 : (0 : Int32).toNatClampNeg = 0 := rfl
  simp only [e0, Nat.zero_add, List.take_zero, List.nil_append] at V
  rw [range_pad (by rw [bs_len]; exact hk), List.drop_replicate, List.append_assoc, List.replicate_append_replicate] at V
  exact V.pad fun i => (pad_rep _ _ _ i).symm
theorem tcase {t t' : Addr} {sf : List Addr} {P : Prop} (h : t' = t ∨ P) (m : t ∈ sf) : t' ∈ sf ∨ P := h.elim (fun e => Or.inl (e ▸ m)) Or.inr
theorem i32le {a b : Int32} (h : ¬ a < b) (g : ¬ b < a) : a = b := by rw [Int32.lt_iff_toInt_lt] at h g; exact i32e (by omega)
theorem hneK {xs : List Int32} {k : Nat} (h : xs.length = k) (h1 : ¬ k = 16) (h2 : ¬ k = 34) : ∀ n : Nat, n = 16 ∨ n = 34 → xs.length ≤ n → ¬ xs.length = n := by
  intro n hn _ e; rw [h] at e; rcases hn with rfl | rfl
  · exact h1 e
  · exact h2 e
theorem ef_coder (m : MethodId) (y0 : Addr) : entryFrame m #[(.ref y0)] 1 = mkF m 0 #[.val (.ref y0)] [] := by first | (simp [entryFrame, mkF, argsToLocals, Value.category, maxLocals]; done) | rfl
def Q_coder (Z : State) (a1 : Addr) (h0 : Heap) (v : Option Value) (h : Heap) : Prop := v = some (.int 0) ∧ h = h0
def rm_coder : Room := { frames := 0, cells := 0, slots := 0, locals := 0 }
set_option maxRecDepth 65536 in
set_option maxHeartbeats 40000000 in
theorem ct_coder {l : Launch} {Z : State} {a0 : Array Value} (H : Ev Z a0) (a1 : Addr) {h0 : Heap} {n0 : Nat} (O0 : Old Z n0 h0) (F1 : Fld Z h0 a1 "java/lang/String" "coder" "B" (.int 0)) : CtrN l Z (⟨"java/lang/String", "coder", "()B"⟩ : MethodName) jdk_42_method_152_code 1 (some .byte) [] rm_coder #[(.ref a1)] h0 [] n0 (Q_coder Z a1 h0) := by
  refine enterN (a0 := a0) (plainFor_of_name pn_0) O0 all0 ?_
  intro p e s m below meth c T0 hx hby hml hrt hnm hlk A0
  replace A0 : Wk false Z a0 [] n0 h0 [] "java/lang/String" p l e rm_coder s m #[(.ref a1)] below meth c [] T0 h0 0 0 := A0
  refine Run.st (T0.setTop (mkF m 0 #[.val (.ref a1)] [])) (fun _ k => castTop (ef_coder m a1) k) ?_
  obtain ⟨zc, Sc, hzc⟩ := H.2.1
  obtain ⟨T1, A1, st1⟩ := A0.getS hx (tw14 H.1) Via.refl (Sc.ext A0.old.2) (g := (mkF m 0 #[.val (.ref a1)] [])) rfl (hb hby d0_0)
  refine Run.st (T1.setTop (mkF m 3 #[.val (.ref a1)] [(.int zc)])) st1 ?_
  refine Run.st (T1.setTop (mkF m 7 #[.val (.ref a1)] [(.ref a1)])) (fun _ k => XS.ifNo A1.here hx rfl (hb hby d0_3) rfl (by rw [if0]; exact (feq hzc).1) (XS.aloadN A1.here hx rfl (hb hby d0_6) rfl rfl k)) ?_
  obtain ⟨T2, A2, st2⟩ := A1.getF hx (tw26 H.1) Via.refl F1 (g := (mkF m 7 #[.val (.ref a1)] [(.ref a1)])) rfl rfl (hb hby d0_7)
  refine Run.st (T2.setTop (mkF m 10 #[.val (.ref a1)] [(.int (0 : Int32))])) st2 ?_
  refine Run.st (T2.setTop (mkF m 14 #[.val (.ref a1)] [(.int (0 : Int32))])) (fun _ k => XS.goto A2.here hx rfl (pc0 := 10) (pc' := 14) rfl (hb hby d0_10) (by decide) (by decide) k) ?_
  exact A2.leaveN hlk (some (.int (0 : Int32))) (fun q => by rw [hrt] at q; cases q) (by decide) (by decide) ⟨rfl, rfl⟩ (fun X hr => retN X hx (t := .byte) hrt (by simp) (hb hby d0_14) hr)
theorem ef_asblen (m : MethodId) (y0 : Addr) : entryFrame m #[(.ref y0)] 1 = mkF m 0 #[.val (.ref y0)] [] := by first | (simp [entryFrame, mkF, argsToLocals, Value.category, maxLocals]; done) | rfl
def Q_asblen (Z : State) (b1 : Addr) (q1 : Int32) (h0 : Heap) (v : Option Value) (h : Heap) : Prop := v = some (.int q1) ∧ h = h0
def rm_asblen : Room := { frames := 0, cells := 0, slots := 0, locals := 0 }
set_option maxRecDepth 65536 in
set_option maxHeartbeats 40000000 in
theorem ct_asblen {l : Launch} {Z : State} {a0 : Array Value} (H : Ev Z a0) (b1 : Addr) (q1 : Int32) {h0 : Heap} {n0 : Nat} (O0 : Old Z n0 h0) (F1 : Fld Z h0 b1 "java/lang/AbstractStringBuilder" "count" "I" (.int q1)) : CtrN l Z (⟨"java/lang/AbstractStringBuilder", "length", "()I"⟩ : MethodName) jdk_68_method_6_code 1 (some .int) [] rm_asblen #[(.ref b1)] h0 [] n0 (Q_asblen Z b1 q1 h0) := by
  refine enterN (a0 := a0) (plainFor_of_name pn_1) O0 all0 ?_
  intro p e s m below meth c T0 hx hby hml hrt hnm hlk A0
  replace A0 : Wk false Z a0 [] n0 h0 [] "java/lang/AbstractStringBuilder" p l e rm_asblen s m #[(.ref b1)] below meth c [] T0 h0 0 0 := A0
  refine Run.st (T0.setTop (mkF m 0 #[.val (.ref b1)] [])) (fun _ k => castTop (ef_asblen m b1) k) ?_
  refine Run.st (T0.setTop (mkF m 1 #[.val (.ref b1)] [(.ref b1)])) (fun _ k => XS.aloadN A0.here hx rfl (hb hby d1_0) rfl rfl k) ?_
  obtain ⟨T3, A3, st3⟩ := A0.getF hx (tw96 H.1) Via.refl F1 (g := (mkF m 1 #[.val (.ref b1)] [(.ref b1)])) rfl rfl (hb hby d1_1)
  refine Run.st (T3.setTop (mkF m 4 #[.val (.ref b1)] [(.int q1)])) st3 ?_
  exact A3.leaveN hlk (some (.int q1)) (fun q => by rw [hrt] at q; cases q) (by decide) (by decide) ⟨rfl, rfl⟩ (fun X hr => retOut X hx (w := (.int q1)) (t := .int) hrt rfl (Or.inl ⟨rfl, Or.inl rfl, _, rfl⟩) (hb hby d1_4) hr)
theorem ef_sblen (m : MethodId) (y0 : Addr) : entryFrame m #[(.ref y0)] 1 = mkF m 0 #[.val (.ref y0)] [] := by first | (simp [entryFrame, mkF, argsToLocals, Value.category, maxLocals]; done) | rfl
def Q_sblen (Z : State) (b1 : Addr) (q1 : Int32) (h0 : Heap) (v : Option Value) (h : Heap) : Prop := v = some (.int q1) ∧ h = h0
def rm_sblen : Room := { frames := 1, cells := 0, slots := 0, locals := 12 }
set_option maxRecDepth 65536 in
set_option maxHeartbeats 40000000 in
theorem ct_sblen {l : Launch} {Z : State} {a0 : Array Value} (H : Ev Z a0) (b1 : Addr) (q1 : Int32) {h0 : Heap} {n0 : Nat} (O0 : Old Z n0 h0) (E1 : Exa Z h0 b1 "java/lang/StringBuilder") (F1 : Fld Z h0 b1 "java/lang/AbstractStringBuilder" "count" "I" (.int q1)) : CtrN l Z (⟨"java/lang/StringBuilder", "length", "()I"⟩ : MethodName) jdk_67_method_93_code 1 (some .int) [] rm_sblen #[(.ref b1)] h0 [] n0 (Q_sblen Z b1 q1 h0) := by
  refine enterN (a0 := a0) (plainFor_of_name pn_2) O0 all0 ?_
  intro p e s m below meth c T0 hx hby hml hrt hnm hlk A0
  replace A0 : Wk false Z a0 [] n0 h0 [] "java/lang/StringBuilder" p l e rm_sblen s m #[(.ref b1)] below meth c [] T0 h0 0 0 := A0
  refine Run.st (T0.setTop (mkF m 0 #[.val (.ref b1)] [])) (fun _ k => castTop (ef_sblen m b1) k) ?_
  refine Run.st (T0.setTop (mkF m 1 #[.val (.ref b1)] [(.ref b1)])) (fun _ k => XS.aloadN A0.here hx rfl (hb hby d2_0) rfl rfl k) ?_
  obtain ⟨v4, T4, h4, AA4, K4, ⟨L4, Q4⟩, st4⟩ := A0.callSup hx (y := (⟨"java/lang/AbstractStringBuilder", "length", "()I"⟩ : MethodName)) (tw148 H.1) (sameOf (tw143 H.1) (nfSelC (tw101 H.1) rfl) (by decide)) (tw144 H.1) (tw83 H.1) (tw149 H.1) (by decide) (g := (mkF m 1 #[.val (.ref b1)] [(.ref b1)])) rfl (by rw [hml]; rfl) (Ins.self E1) [] [] (lenOf pd_0 rfl) rfl (Wd := 0) (by show 2 * 0 + _ ≤ _; exact Nat.le_of_eq rfl) (hb hby d2_1) (by decide) (by decide) [] (fun _ _ _ q => q.2) all0 (fun vm0 hZ => payN (ct_asblen H b1 q1 A0.old F1) (tw149 H.1) (tw65 H.1) (by decide) (by decide) hZ)
  obtain ⟨Q4, N4, -⟩ := Q4
  obtain ⟨rfl, q4⟩ := Q4
  have q4 := q4.symm
  subst q4
  have A4 := AA4 [] all0
  refine Run.st (T4.setTop (mkF m 4 #[.val (.ref b1)] [(.int q1)])) st4 ?_
  exact A4.leaveN hlk (some (.int q1)) (fun q => by rw [hrt] at q; cases q) (by decide) (by decide) ⟨rfl, rfl⟩ (fun X hr => retOut X hx (w := (.int q1)) (t := .int) hrt rfl (Or.inl ⟨rfl, Or.inl rfl, _, rfl⟩) (hb hby d2_4) hr)
theorem ef_getval (m : MethodId) (y0 : Addr) : entryFrame m #[(.ref y0)] 1 = mkF m 0 #[.val (.ref y0)] [] := by first | (simp [entryFrame, mkF, argsToLocals, Value.category, maxLocals]; done) | rfl
def Q_getval (Z : State) (a1 : Addr) (t1 : Addr) (h0 : Heap) (v : Option Value) (h : Heap) : Prop := v = some (.ref t1) ∧ h = h0
def rm_getval : Room := { frames := 0, cells := 0, slots := 0, locals := 0 }
set_option maxRecDepth 65536 in
set_option maxHeartbeats 40000000 in
theorem ct_getval {l : Launch} {Z : State} {a0 : Array Value} (H : Ev Z a0) (a1 : Addr) (t1 : Addr) {h0 : Heap} {n0 : Nat} (O0 : Old Z n0 h0) (F1 : Fld Z h0 a1 "java/lang/AbstractStringBuilder" "value" "[B" (.ref t1)) : CtrN l Z (⟨"java/lang/AbstractStringBuilder", "getValue", "()[B"⟩ : MethodName) jdk_68_method_64_code 1 (some (.array .byte)) [] rm_getval #[(.ref a1)] h0 [] n0 (Q_getval Z a1 t1 h0) := by
  refine enterN (a0 := a0) (plainFor_of_name pn_1) O0 all0 ?_
  intro p e s m below meth c T0 hx hby hml hrt hnm hlk A0
  replace A0 : Wk false Z a0 [] n0 h0 [] "java/lang/AbstractStringBuilder" p l e rm_getval s m #[(.ref a1)] below meth c [] T0 h0 0 0 := A0
  refine Run.st (T0.setTop (mkF m 0 #[.val (.ref a1)] [])) (fun _ k => castTop (ef_getval m a1) k) ?_
  refine Run.st (T0.setTop (mkF m 1 #[.val (.ref a1)] [(.ref a1)])) (fun _ k => XS.aloadN A0.here hx rfl (hb hby d3_0) rfl rfl k) ?_
  obtain ⟨T5, A5, st5⟩ := A0.getF hx (tw69 H.1) Via.refl F1 (g := (mkF m 1 #[.val (.ref a1)] [(.ref a1)])) rfl rfl (hb hby d3_1)
  refine Run.st (T5.setTop (mkF m 4 #[.val (.ref a1)] [(.ref t1)])) st5 ?_
  exact A5.leaveN hlk (some (.ref t1)) (fun q => by rw [hrt] at q; cases q) (by decide) (by decide) ⟨rfl, rfl⟩ (fun X hr => retOut X hx (w := (.ref t1)) (t := (.array .byte)) hrt rfl (Or.inr (Or.inr (Or.inr (Or.inr ⟨rfl, rfl, rfl⟩)))) (hb hby d3_4) hr)
theorem ef_islat (m : MethodId) (y0 : Addr) : entryFrame m #[(.ref y0)] 1 = mkF m 0 #[.val (.ref y0)] [] := by first | (simp [entryFrame, mkF, argsToLocals, Value.category, maxLocals]; done) | rfl
def Q_islat (Z : State) (b1 : Addr) (h0 : Heap) (v : Option Value) (h : Heap) : Prop := v = some (.int 1) ∧ h = h0
def rm_islat : Room := { frames := 0, cells := 0, slots := 0, locals := 0 }
set_option maxRecDepth 65536 in
set_option maxHeartbeats 40000000 in
theorem ct_islat {l : Launch} {Z : State} {a0 : Array Value} (H : Ev Z a0) (b1 : Addr) {h0 : Heap} {n0 : Nat} (O0 : Old Z n0 h0) (F2 : Fld Z h0 b1 "java/lang/AbstractStringBuilder" "coder" "B" (.int 0)) : CtrN l Z (⟨"java/lang/AbstractStringBuilder", "isLatin1", "()Z"⟩ : MethodName) jdk_68_method_68_code 1 (some .boolean) [] rm_islat #[(.ref b1)] h0 [] n0 (Q_islat Z b1 h0) := by
  refine enterN (a0 := a0) (plainFor_of_name pn_1) O0 all0 ?_
  intro p e s m below meth c T0 hx hby hml hrt hnm hlk A0
  replace A0 : Wk false Z a0 [] n0 h0 [] "java/lang/AbstractStringBuilder" p l e rm_islat s m #[(.ref b1)] below meth c [] T0 h0 0 0 := A0
  refine Run.st (T0.setTop (mkF m 0 #[.val (.ref b1)] [])) (fun _ k => castTop (ef_islat m b1) k) ?_
  obtain ⟨zc, Sc, hzc⟩ := H.2.1
  obtain ⟨T6, A6, st6⟩ := A0.getS hx (tw68 H.1) Via.refl (Sc.ext A0.old.2) (g := (mkF m 0 #[.val (.ref b1)] [])) rfl (hb hby d4_0)
  refine Run.st (T6.setTop (mkF m 3 #[.val (.ref b1)] [(.int zc)])) st6 ?_
  refine Run.st (T6.setTop (mkF m 7 #[.val (.ref b1)] [(.ref b1)])) (fun _ k => XS.ifNo A6.here hx rfl (hb hby d4_3) rfl (by rw [if0]; exact (feq hzc).1) (XS.aloadN A6.here hx rfl (hb hby d4_6) rfl rfl k)) ?_
  obtain ⟨T7, A7, st7⟩ := A6.getF hx (tw71 H.1) Via.refl F2 (g := (mkF m 7 #[.val (.ref b1)] [(.ref b1)])) rfl rfl (hb hby d4_7)
  refine Run.st (T7.setTop (mkF m 10 #[.val (.ref b1)] [(.int (0 : Int32))])) st7 ?_
  refine Run.st (T7.setTop (mkF m 18 #[.val (.ref b1)] [(.int (1 : Int32))])) (fun _ k => XS.ifNo A7.here hx rfl (hb hby d4_10) rfl (by decide) (XS.iconst A7.here hx rfl (hb hby d4_13) (XS.goto A7.here hx rfl (pc0 := 14) (pc' := 18) rfl (hb hby d4_14) (by decide) (by decide) k))) ?_
  exact A7.leaveN hlk (some (.int (1 : Int32))) (fun q => by rw [hrt] at q; cases q) (by decide) (by decide) ⟨rfl, rfl⟩ (fun X hr => retN X hx (t := .boolean) hrt (by simp) (hb hby d4_18) hr)
theorem ef_infl (m : MethodId) (y0 : Addr) (y1 : Addr) : entryFrame m #[(.ref y0), (.ref y1)] 2 = mkF m 0 #[.val (.ref y0), .val (.ref y1)] [] := by first | (simp [entryFrame, mkF, argsToLocals, Value.category, maxLocals]; done) | rfl
def Q_infl (Z : State) (b1 : Addr) (s1 : Addr) (c1 : List Int32) (h0 : Heap) (v : Option Value) (h : Heap) : Prop := v = none ∧ h = h0
def rm_infl : Room := { frames := 1, cells := 0, slots := 0, locals := 13 }
set_option maxRecDepth 65536 in
set_option maxHeartbeats 40000000 in
theorem ct_infl {l : Launch} {Z : State} {a0 : Array Value} (H : Ev Z a0) (b1 : Addr) (s1 : Addr) (c1 : List Int32) {h0 : Heap} {n0 : Nat} (O0 : Old Z n0 h0) (F2 : Fld Z h0 b1 "java/lang/AbstractStringBuilder" "coder" "B" (.int 0)) (S1 : StrA Z h0 s1 c1) : CtrN l Z (⟨"java/lang/AbstractStringBuilder", "inflateIfNeededFor", "(Ljava/lang/String;)V"⟩ : MethodName) jdk_68_method_71_code 2 none [] rm_infl #[(.ref b1), (.ref s1)] h0 [] n0 (Q_infl Z b1 s1 c1 h0) := by
  refine enterN (a0 := a0) (plainFor_of_name pn_1) O0 all0 ?_
  intro p e s m below meth c T0 hx hby hml hrt hnm hlk A0
  replace A0 : Wk false Z a0 [] n0 h0 [] "java/lang/AbstractStringBuilder" p l e rm_infl s m #[(.ref b1), (.ref s1)] below meth c [] T0 h0 0 0 := A0
  refine Run.st (T0.setTop (mkF m 0 #[.val (.ref b1), .val (.ref s1)] [])) (fun _ k => castTop (ef_infl m b1 s1) k) ?_
  obtain ⟨zc, Sc, hzc⟩ := H.2.1
  obtain ⟨T8, A8, st8⟩ := A0.getS hx (tw68 H.1) Via.refl (Sc.ext A0.old.2) (g := (mkF m 0 #[.val (.ref b1), .val (.ref s1)] [])) rfl (hb hby d5_0)
  refine Run.st (T8.setTop (mkF m 3 #[.val (.ref b1), .val (.ref s1)] [(.int zc)])) st8 ?_
  refine Run.st (T8.setTop (mkF m 7 #[.val (.ref b1), .val (.ref s1)] [(.ref b1)])) (fun _ k => XS.ifNo A8.here hx rfl (hb hby d5_3) rfl (by rw [if0]; exact (feq hzc).1) (XS.aloadN A8.here hx rfl (hb hby d5_6) rfl rfl k)) ?_
  obtain ⟨T9, A9, st9⟩ := A8.getF hx (tw71 H.1) Via.refl F2 (g := (mkF m 7 #[.val (.ref b1), .val (.ref s1)] [(.ref b1)])) rfl rfl (hb hby d5_7)
  refine Run.st (T9.setTop (mkF m 10 #[.val (.ref b1), .val (.ref s1)] [(.int (0 : Int32))])) st9 ?_
  refine Run.st (T9.setTop (mkF m 11 #[.val (.ref b1), .val (.ref s1)] [(.ref s1), (.int (0 : Int32))])) (fun _ k => XS.aloadN A9.here hx rfl (hb hby d5_10) rfl rfl k) ?_
  obtain ⟨v10, T10, h10, AA10, K10, ⟨L10, Q10⟩, st10⟩ := A9.callV hx (y := (⟨"java/lang/String", "coder", "()B"⟩ : MethodName)) (z := (⟨"java/lang/String", "coder", "()B"⟩ : MethodName)) (tw113 H.1) (tw92 H.1) (tw94 H.1) (tw93 H.1) (nfSel (tw94 H.1)) (by decide) S1.1 (g := (mkF m 11 #[.val (.ref b1), .val (.ref s1)] [(.ref s1), (.int (0 : Int32))])) rfl (by rw [hml]; rfl) [] [(.int (0 : Int32))] (lenOf pd_1 rfl) rfl (Wd := 1) (by show 2 * 0 + _ ≤ _; exact Nat.le_of_eq rfl) (hb hby d5_11) (by decide) (by decide) [] (fun _ _ _ q => q.2) all0 (fun vm0 hZ => payN (ct_coder H s1 A9.old S1.2.1) (tw95 H.1) (tw3 H.1) (by decide) (by decide) hZ)
  obtain ⟨Q10, N10, -⟩ := Q10
  obtain ⟨rfl, q10⟩ := Q10
  have q10 := q10.symm
  subst q10
  have A10 := AA10 [] all0
  refine Run.st (T10.setTop (mkF m 14 #[.val (.ref b1), .val (.ref s1)] [(.int (0 : Int32)), (.int (0 : Int32))])) st10 ?_
  refine Run.st (T10.setTop (mkF m 21 #[.val (.ref b1), .val (.ref s1)] [])) (fun _ k => XS.icmpYes A10.here hx rfl (pc0 := 14) (pc' := 21) rfl (hb hby d5_14) rfl (by decide) (by decide) (by decide) k) ?_
  exact A10.leaveN hlk none (fun _ => rfl) (by decide) (by decide) ⟨rfl, rfl⟩ (fun X hr => X.returnOut hx hrt (hb hby d5_21) hr)
theorem ef_getb (m : MethodId) (y0 : Addr) (y1 : Addr) (y2 : Int32) (y3 : Int32) : entryFrame m #[(.ref y0), (.ref y1), (.int y2), (.int y3)] 4 = mkF m 0 #[.val (.ref y0), .val (.ref y1), .val (.int y2), .val (.int y3)] [] := by first | (simp [entryFrame, mkF, argsToLocals, Value.category, maxLocals]; done) | rfl
def Q_getb (Z : State) (t1 : Addr) (kb : ClassId) (n1 : Nat) (xs : List Int32) (s1 : Addr) (c1 : List Int32) (h0 : Heap) (v : Option Value) (h : Heap) : Prop := v = none ∧ Arv Z h t1 kb .byte (Int32.ofNat n1) (bs (xs ++ c1)) (.int 0)
def rm_getb : Room := { frames := 1, cells := 0, slots := 0, locals := 18 }
set_option maxRecDepth 65536 in
set_option maxHeartbeats 40000000 in
theorem ct_getb {l : Launch} {Z : State} {a0 : Array Value} (H : Ev Z a0) (t1 : Addr) (kb : ClassId) (n1 : Nat) (xs : List Int32) (s1 : Addr) (c1 : List Int32) {h0 : Heap} {n0 : Nat} (O0 : Old Z n0 h0) (Vt : Arv Z h0 t1 kb .byte (Int32.ofNat n1) (bs xs) (.int 0)) (hl1 : xs.length + c1.length ≤ n1) (hn1 : n1 ≤ 4000) (S1 : StrA Z h0 s1 c1) (g_t1 : n0 ≤ t1) (z_t1 : t1 < h0.size) : CtrN l Z (⟨"java/lang/String", "getBytes", "([BIB)V"⟩ : MethodName) jdk_42_method_147_code 4 none [] rm_getb #[(.ref s1), (.ref t1), (.int (Int32.ofNat xs.length)), (.int (0 : Int32))] h0 [t1] n0 (Q_getb Z t1 kb n1 xs s1 c1 h0) := by
  refine enterN (a0 := a0) (plainFor_of_name pn_0) O0 (allS ⟨g_t1, z_t1⟩ all0) ?_
  intro p e s m below meth c T0 hx hby hml hrt hnm hlk A0
  replace A0 : Wk false Z a0 [] n0 h0 [t1] "java/lang/String" p l e rm_getb s m #[(.ref s1), (.ref t1), (.int (Int32.ofNat xs.length)), (.int (0 : Int32))] below meth c [t1] T0 h0 0 0 := A0
  refine Run.st (T0.setTop (mkF m 0 #[.val (.ref s1), .val (.ref t1), .val (.int (Int32.ofNat xs.length)), .val (.int (0 : Int32))] [])) (fun _ k => castTop (ef_getb m s1 t1 (Int32.ofNat xs.length) (0 : Int32)) k) ?_
  obtain ⟨Es_s, Fc_s, ⟨ts_s, kt_s, Fv_s, Vs_s⟩, hc_s, hl_s⟩ := id S1
  refine Run.st (T0.setTop (mkF m 1 #[.val (.ref s1), .val (.ref t1), .val (.int (Int32.ofNat xs.length)), .val (.int (0 : Int32))] [(.ref s1)])) (fun _ k => XS.aloadN A0.here hx rfl (hb hby d6_0) rfl rfl k) ?_
  obtain ⟨v11, T11, h11, AA11, K11, ⟨L11, Q11⟩, st11⟩ := A0.callV hx (y := (⟨"java/lang/String", "coder", "()B"⟩ : MethodName)) (z := (⟨"java/lang/String", "coder", "()B"⟩ : MethodName)) (tw91 H.1) (tw92 H.1) (tw94 H.1) (tw93 H.1) (nfSel (tw94 H.1)) (by decide) Es_s (g := (mkF m 1 #[.val (.ref s1), .val (.ref t1), .val (.int (Int32.ofNat xs.length)), .val (.int (0 : Int32))] [(.ref s1)])) rfl (by rw [hml]; rfl) [] [] (lenOf pd_1 rfl) rfl (Wd := 0) (by show 2 * 0 + _ ≤ _; exact Nat.le_of_eq rfl) (hb hby d6_1) (by decide) (by decide) [] (fun _ _ _ q => q.2) all0 (fun vm0 hZ => payN (ct_coder H s1 A0.old S1.2.1) (tw95 H.1) (tw3 H.1) (by decide) (by decide) hZ)
  obtain ⟨Q11, N11, -⟩ := Q11
  obtain ⟨rfl, q11⟩ := Q11
  have q11 := q11.symm
  subst q11
  have A11 := AA11 [] all0
  refine Run.st (T11.setTop (mkF m 4 #[.val (.ref s1), .val (.ref t1), .val (.int (Int32.ofNat xs.length)), .val (.int (0 : Int32))] [(.int (0 : Int32))])) st11 ?_
  refine Run.st (T11.setTop (mkF m 9 #[.val (.ref s1), .val (.ref t1), .val (.int (Int32.ofNat xs.length)), .val (.int (0 : Int32))] [(.ref s1)])) (fun _ k => XS.iloadN A11.here hx rfl (hb hby d6_4) rfl (XS.icmpNo A11.here hx rfl (hb hby d6_5) rfl (by decide) (XS.aloadN A11.here hx rfl (hb hby d6_8) rfl rfl k))) ?_
  obtain ⟨T12, A12, st12⟩ := A11.getF hx (tw28 H.1) Via.refl Fv_s (g := (mkF m 9 #[.val (.ref s1), .val (.ref t1), .val (.int (Int32.ofNat xs.length)), .val (.int (0 : Int32))] [(.ref s1)])) rfl rfl (hb hby d6_9)
  refine Run.st (T12.setTop (mkF m 12 #[.val (.ref s1), .val (.ref t1), .val (.int (Int32.ofNat xs.length)), .val (.int (0 : Int32))] [(.ref ts_s)])) st12 ?_
  refine Run.st (T12.setTop (mkF m 16 #[.val (.ref s1), .val (.ref t1), .val (.int (Int32.ofNat xs.length)), .val (.int (0 : Int32))] [(.int (0 : Int32)), (.int (Int32.ofNat xs.length)), (.ref t1), (.int (0 : Int32)), (.ref ts_s)])) (fun _ k => XS.iconst A12.here hx rfl (hb hby d6_12) (XS.aloadN A12.here hx rfl (hb hby d6_13) rfl rfl (XS.iloadN A12.here hx rfl (hb hby d6_14) rfl (XS.iloadN A12.here hx rfl (hb hby d6_15) rfl k)))) ?_
  refine Run.st (T12.setTop (mkF m 17 #[.val (.ref s1), .val (.ref t1), .val (.int (Int32.ofNat xs.length)), .val (.int (0 : Int32))] [(.int ((Int32.ofNat xs.length) <<< ((0 : Int32) &&& 31))), (.ref t1), (.int (0 : Int32)), (.ref ts_s)])) (fun _ k => XS.ishl A12.here hx rfl (hb hby d6_16) rfl k) ?_
  rw [show ((Int32.ofNat xs.length) <<< ((0 : Int32) &&& 31)) = (Int32.ofNat xs.length) from shl0 (Int32.ofNat xs.length)]
  refine Run.st (T12.setTop (mkF m 18 #[.val (.ref s1), .val (.ref t1), .val (.int (Int32.ofNat xs.length)), .val (.int (0 : Int32))] [(.ref s1), (.int (Int32.ofNat xs.length)), (.ref t1), (.int (0 : Int32)), (.ref ts_s)])) (fun _ k => XS.aloadN A12.here hx rfl (hb hby d6_17) rfl rfl k) ?_
  obtain ⟨T13, A13, st13⟩ := A12.getF hx (tw28 H.1) Via.refl Fv_s (g := (mkF m 18 #[.val (.ref s1), .val (.ref t1), .val (.int (Int32.ofNat xs.length)), .val (.int (0 : Int32))] [(.ref s1), (.int (Int32.ofNat xs.length)), (.ref t1), (.int (0 : Int32)), (.ref ts_s)])) rfl rfl (hb hby d6_18)
  refine Run.st (T13.setTop (mkF m 21 #[.val (.ref s1), .val (.ref t1), .val (.int (Int32.ofNat xs.length)), .val (.int (0 : Int32))] [(.ref ts_s), (.int (Int32.ofNat xs.length)), (.ref t1), (.int (0 : Int32)), (.ref ts_s)])) st13 ?_
  refine Run.st (T13.setTop (mkF m 22 #[.val (.ref s1), .val (.ref t1), .val (.int (Int32.ofNat xs.length)), .val (.int (0 : Int32))] [(.int (Int32.ofNat c1.length)), (.int (Int32.ofNat xs.length)), (.ref t1), (.int (0 : Int32)), (.ref ts_s)])) (A13.alen hx Vs_s (g := (mkF m 21 #[.val (.ref s1), .val (.ref t1), .val (.int (Int32.ofNat xs.length)), .val (.int (0 : Int32))] [(.ref ts_s), (.int (Int32.ofNat xs.length)), (.ref t1), (.int (0 : Int32)), (.ref ts_s)])) rfl rfl (hb hby d6_21)) ?_
  have Vd : Arv Z h0 t1 kb .byte (Int32.ofNat n1) (bs xs ++ List.replicate (n1 - xs.length) (Value.int 0)) (.int 0) := Vt.pad (pad_rep _ _ _)
  obtain ⟨T14, h14, A14, K14, V14, st14⟩ := A13.copy hx (sp := (0 : Int32)) (dp := (Int32.ofNat xs.length)) (nn := (Int32.ofNat c1.length)) (tw119 H.1) (tw122 H.1) (tw120 H.1) (tw121 H.1) Vs_s Vd rfl (by decide) (n_pos (by omega)) (n_pos (by omega)) (by rw [n_clamp (by omega)]; exact Nat.le_of_eq (Nat.zero_add _)) (by rw [n_clamp (by omega), n_clamp (by omega), n_clamp (by omega)]; exact hl1) rfl (by rw [n_clamp (by omega), n_clamp (by omega), List.length_append, bs_len, List.length_replicate]; omega) (List.mem_of_getElem? (i := 0) rfl) (g := (mkF m 22 #[.val (.ref s1), .val (.ref t1), .val (.int (Int32.ofNat xs.length)), .val (.int (0 : Int32))] [(.int (Int32.ofNat c1.length)), (.int (Int32.ofNat xs.length)), (.ref t1), (.int (0 : Int32)), (.ref ts_s)])) rfl (by rw [hml]; rfl) rfl (hb hby d6_22) (by decide) (Wd := 0) (by show 2 * 0 + _ ≤ _; exact Nat.le_of_eq rfl) (by decide)
  refine Run.st (T14.setTop (mkF m 25 #[.val (.ref s1), .val (.ref t1), .val (.int (Int32.ofNat xs.length)), .val (.int (0 : Int32))] [])) st14 ?_
  refine Run.st (T14.setTop (mkF m 43 #[.val (.ref s1), .val (.ref t1), .val (.int (Int32.ofNat xs.length)), .val (.int (0 : Int32))] [])) (fun _ k => XS.goto A14.here hx rfl (pc0 := 25) (pc' := 43) rfl (hb hby d6_25) (by decide) (by decide) k) ?_
  exact A14.leaveN hlk none (fun _ => rfl) (by decide) (by decide) ⟨rfl, cpy_ok hl1 hn1 V14⟩ (fun X hr => X.returnOut hx hrt (hb hby d6_43) hr)
theorem ef_puts (m : MethodId) (y0 : Addr) (y1 : Int32) (y2 : Addr) : entryFrame m #[(.ref y0), (.int y1), (.ref y2)] 3 = mkF m 0 #[.val (.ref y0), .val (.int y1), .val (.ref y2)] [] := by first | (simp [entryFrame, mkF, argsToLocals, Value.category, maxLocals]; done) | rfl
def Q_puts (Z : State) (b1 : Addr) (t1 : Addr) (kb : ClassId) (n1 : Nat) (xs : List Int32) (s1 : Addr) (c1 : List Int32) (h0 : Heap) (v : Option Value) (h : Heap) : Prop := v = none ∧ Arv Z h t1 kb .byte (Int32.ofNat n1) (bs (xs ++ c1)) (.int 0)
def rm_puts : Room := { frames := 2, cells := 0, slots := 0, locals := 33 }
set_option maxRecDepth 65536 in
set_option maxHeartbeats 40000000 in
theorem ct_puts {l : Launch} {Z : State} {a0 : Array Value} (H : Ev Z a0) (b1 : Addr) (t1 : Addr) (kb : ClassId) (n1 : Nat) (xs : List Int32) (s1 : Addr) (c1 : List Int32) {h0 : Heap} {n0 : Nat} (O0 : Old Z n0 h0) (E1 : Exa Z h0 b1 "java/lang/StringBuilder") (F2 : Fld Z h0 b1 "java/lang/AbstractStringBuilder" "coder" "B" (.int 0)) (F3 : Fld Z h0 b1 "java/lang/AbstractStringBuilder" "value" "[B" (.ref t1)) (Vt : Arv Z h0 t1 kb .byte (Int32.ofNat n1) (bs xs) (.int 0)) (hl1 : xs.length + c1.length ≤ n1) (hn1 : n1 ≤ 4000) (S1 : StrA Z h0 s1 c1) (g_t1 : n0 ≤ t1) (z_t1 : t1 < h0.size) : CtrN l Z (⟨"java/lang/AbstractStringBuilder", "putStringAt", "(ILjava/lang/String;)V"⟩ : MethodName) jdk_68_method_73_code 3 none [] rm_puts #[(.ref b1), (.int (Int32.ofNat xs.length)), (.ref s1)] h0 [t1] n0 (Q_puts Z b1 t1 kb n1 xs s1 c1 h0) := by
  refine enterN (a0 := a0) (plainFor_of_name pn_1) O0 (allS ⟨g_t1, z_t1⟩ all0) ?_
  intro p e s m below meth c T0 hx hby hml hrt hnm hlk A0
  replace A0 : Wk false Z a0 [] n0 h0 [t1] "java/lang/AbstractStringBuilder" p l e rm_puts s m #[(.ref b1), (.int (Int32.ofNat xs.length)), (.ref s1)] below meth c [t1] T0 h0 0 0 := A0
  refine Run.st (T0.setTop (mkF m 0 #[.val (.ref b1), .val (.int (Int32.ofNat xs.length)), .val (.ref s1)] [])) (fun _ k => castTop (ef_puts m b1 (Int32.ofNat xs.length) s1) k) ?_
  refine Run.st (T0.setTop (mkF m 2 #[.val (.ref b1), .val (.int (Int32.ofNat xs.length)), .val (.ref s1)] [(.ref s1), (.ref b1)])) (fun _ k => XS.aloadN A0.here hx rfl (hb hby d7_0) rfl rfl (XS.aloadN A0.here hx rfl (hb hby d7_1) rfl rfl k)) ?_
  obtain ⟨v15, T15, h15, AA15, K15, ⟨L15, Q15⟩, st15⟩ := A0.callV hx (y := (⟨"java/lang/AbstractStringBuilder", "inflateIfNeededFor", "(Ljava/lang/String;)V"⟩ : MethodName)) (z := (⟨"java/lang/AbstractStringBuilder", "inflateIfNeededFor", "(Ljava/lang/String;)V"⟩ : MethodName)) (tw108 H.1) (declOf (tw109 H.1) (tw112 H.1)) (tw111 H.1) (tw109 H.1) (nfSel (tw111 H.1)) (by decide) E1 (g := (mkF m 2 #[.val (.ref b1), .val (.int (Int32.ofNat xs.length)), .val (.ref s1)] [(.ref s1), (.ref b1)])) rfl (by rw [hml]; rfl) [(.ref s1)] [] (lenOf pd_2 rfl) rfl (Wd := 0) (by show 2 * 0 + _ ≤ _; exact Nat.le_of_eq rfl) (hb hby d7_2) (by decide) (by decide) [] (fun _ _ _ q => q.2) all0 (fun vm0 hZ => payN (ct_infl H b1 s1 c1 A0.old F2 S1) (tw112 H.1) (tw65 H.1) (by decide) (by decide) hZ)
  obtain ⟨Q15, N15, -⟩ := Q15
  obtain ⟨rfl, q15⟩ := Q15
  have q15 := q15.symm
  subst q15
  have A15 := AA15 [] all0
  refine Run.st (T15.setTop (mkF m 5 #[.val (.ref b1), .val (.int (Int32.ofNat xs.length)), .val (.ref s1)] [])) st15 ?_
  refine Run.st (T15.setTop (mkF m 7 #[.val (.ref b1), .val (.int (Int32.ofNat xs.length)), .val (.ref s1)] [(.ref b1), (.ref s1)])) (fun _ k => XS.aloadN A15.here hx rfl (hb hby d7_5) rfl rfl (XS.aloadN A15.here hx rfl (hb hby d7_6) rfl rfl k)) ?_
  obtain ⟨T16, A16, st16⟩ := A15.getF hx (tw69 H.1) Via.refl F3 (g := (mkF m 7 #[.val (.ref b1), .val (.int (Int32.ofNat xs.length)), .val (.ref s1)] [(.ref b1), (.ref s1)])) rfl rfl (hb hby d7_7)
  refine Run.st (T16.setTop (mkF m 10 #[.val (.ref b1), .val (.int (Int32.ofNat xs.length)), .val (.ref s1)] [(.ref t1), (.ref s1)])) st16 ?_
  refine Run.st (T16.setTop (mkF m 12 #[.val (.ref b1), .val (.int (Int32.ofNat xs.length)), .val (.ref s1)] [(.ref b1), (.int (Int32.ofNat xs.length)), (.ref t1), (.ref s1)])) (fun _ k => XS.iloadN A16.here hx rfl (hb hby d7_10) rfl (XS.aloadN A16.here hx rfl (hb hby d7_11) rfl rfl k)) ?_
  obtain ⟨T17, A17, st17⟩ := A16.getF hx (tw71 H.1) Via.refl F2 (g := (mkF m 12 #[.val (.ref b1), .val (.int (Int32.ofNat xs.length)), .val (.ref s1)] [(.ref b1), (.int (Int32.ofNat xs.length)), (.ref t1), (.ref s1)])) rfl rfl (hb hby d7_12)
  refine Run.st (T17.setTop (mkF m 15 #[.val (.ref b1), .val (.int (Int32.ofNat xs.length)), .val (.ref s1)] [(.int (0 : Int32)), (.int (Int32.ofNat xs.length)), (.ref t1), (.ref s1)])) st17 ?_
  obtain ⟨v18, T18, h18, AA18, K18, ⟨L18, Q18⟩, st18⟩ := A17.callV hx (y := (⟨"java/lang/String", "getBytes", "([BIB)V"⟩ : MethodName)) (z := (⟨"java/lang/String", "getBytes", "([BIB)V"⟩ : MethodName)) (tw114 H.1) (tw115 H.1) (tw117 H.1) (tw116 H.1) (nfSel (tw117 H.1)) (by decide) S1.1 (g := (mkF m 15 #[.val (.ref b1), .val (.int (Int32.ofNat xs.length)), .val (.ref s1)] [(.int (0 : Int32)), (.int (Int32.ofNat xs.length)), (.ref t1), (.ref s1)])) rfl (by rw [hml]; rfl) [(.ref t1), (.int (Int32.ofNat xs.length)), (.int (0 : Int32))] [] (lenOf pd_3 rfl) rfl (Wd := 0) (by show 2 * 0 + _ ≤ _; exact Nat.le_of_eq rfl) (hb hby d7_15) (by decide) (by decide) [t1] (fun _ _ _ q => q.2) (allS (List.mem_of_getElem? (i := 0) rfl) all0) (fun vm0 hZ => payN (ct_getb H t1 kb n1 xs s1 c1 A17.old Vt hl1 hn1 S1 (A17.nle (List.mem_of_getElem? (i := 0) rfl)) Vt.lt) (tw118 H.1) (tw3 H.1) (by decide) (by decide) hZ)
  obtain ⟨Q18, N18, -⟩ := Q18
  obtain ⟨rfl, Vb18⟩ := Q18
  have A18 := AA18 [] all0
  refine Run.st (T18.setTop (mkF m 18 #[.val (.ref b1), .val (.int (Int32.ofNat xs.length)), .val (.ref s1)] [])) st18 ?_
  exact A18.leaveN hlk none (fun _ => rfl) (by decide) (by decide) ⟨rfl, Vb18⟩ (fun X hr => X.returnOut hx hrt (hb hby d7_18) hr)
theorem ef_max (m : MethodId) (y0 : Int32) (y1 : Int32) : entryFrame m #[(.int y0), (.int y1)] 2 = mkF m 0 #[.val (.int y0), .val (.int y1)] [] := by first | (simp [entryFrame, mkF, argsToLocals, Value.category, maxLocals]; done) | rfl
def Q_max (Z : State) (j1 : Nat) (h0 : Heap) (v : Option Value) (h : Heap) : Prop := v = some (.int 18) ∧ h = h0
def rm_max : Room := { frames := 0, cells := 0, slots := 0, locals := 0 }
set_option maxRecDepth 65536 in
set_option maxHeartbeats 40000000 in
theorem ct_max {l : Launch} {Z : State} {a0 : Array Value} (H : Ev Z a0) (j1 : Nat) {h0 : Heap} {n0 : Nat} (O0 : Old Z n0 h0) (hj : j1 ≤ 18) : CtrN l Z (⟨"java/lang/Math", "max", "(II)I"⟩ : MethodName) jdk_29_method_65_code 2 (some .int) [] rm_max #[(.int (Int32.ofNat j1)), (.int (18 : Int32))] h0 [] n0 (Q_max Z j1 h0) := by
  refine enterN (a0 := a0) (Jvm.Free.JP.mathPlain rfl (by decide +kernel)) O0 all0 ?_
  intro p e s m below meth c T0 hx hby hml hrt hnm hlk A0
  replace A0 : Wk false Z a0 [] n0 h0 [] "java/lang/Math" p l e rm_max s m #[(.int (Int32.ofNat j1)), (.int (18 : Int32))] below meth c [] T0 h0 0 0 := A0
  refine Run.st (T0.setTop (mkF m 0 #[.val (.int (Int32.ofNat j1)), .val (.int (18 : Int32))] [])) (fun _ k => castTop (ef_max m (Int32.ofNat j1) (18 : Int32)) k) ?_
  refine Run.st (T0.setTop (mkF m 2 #[.val (.int (Int32.ofNat j1)), .val (.int (18 : Int32))] [(.int (18 : Int32)), (.int (Int32.ofNat j1))])) (fun _ k => XS.iloadN A0.here hx rfl (hb hby d8_0) rfl (XS.iloadN A0.here hx rfl (hb hby d8_1) rfl k)) ?_
  by_cases c19 : j1 < 18
  · refine Run.st (T0.setTop (mkF m 10 #[.val (.int (Int32.ofNat j1)), .val (.int (18 : Int32))] [(.int (18 : Int32))])) (fun _ k => XS.icmpYes A0.here hx rfl (pc0 := 2) (pc' := 9) rfl (hb hby d8_2) rfl (tlt ((n_lt (by omega) (by decide)).mpr c19)).1 (by decide) (by decide) (XS.iloadN A0.here hx rfl (hb hby d8_9) rfl k)) ?_
    exact A0.leaveN hlk (some (.int (18 : Int32))) (fun q => by rw [hrt] at q; cases q) (by decide) (by decide) ⟨rfl, rfl⟩ (fun X hr => retOut X hx (w := (.int (18 : Int32))) (t := .int) hrt rfl (Or.inl ⟨rfl, Or.inl rfl, _, rfl⟩) (hb hby d8_10) hr)
  · refine Run.st (T0.setTop (mkF m 10 #[.val (.int (Int32.ofNat j1)), .val (.int (18 : Int32))] [(.int (Int32.ofNat j1))])) (fun _ k => XS.icmpNo A0.here hx rfl (hb hby d8_2) rfl (flt (fun q => c19 ((n_lt (by omega) (by decide)).mp q))).1 (XS.iloadN A0.here hx rfl (hb hby d8_5) rfl (XS.goto A0.here hx rfl (pc0 := 6) (pc' := 10) rfl (hb hby d8_6) (by decide) (by decide) k))) ?_
    exact A0.leaveN hlk (some (.int (Int32.ofNat j1))) (fun q => by rw [hrt] at q; cases q) (by decide) (by decide) ⟨by rw [show j1 = 18 by omega]; rfl, rfl⟩ (fun X hr => retOut X hx (w := (.int (Int32.ofNat j1))) (t := .int) hrt rfl (Or.inl ⟨rfl, Or.inl rfl, _, rfl⟩) (hb hby d8_10) hr)
theorem ef_min1 (m : MethodId) (y0 : Int32) (y1 : Int32) : entryFrame m #[(.int y0), (.int y1)] 2 = mkF m 0 #[.val (.int y0), .val (.int y1)] [] := by first | (simp [entryFrame, mkF, argsToLocals, Value.category, maxLocals]; done) | rfl
def Q_min1 (Z : State) (p1 : Int32) (q1 : Int32) (h0 : Heap) (v : Option Value) (h : Heap) : Prop := v = some (.int q1) ∧ h = h0
def rm_min1 : Room := { frames := 0, cells := 0, slots := 0, locals := 0 }
set_option maxRecDepth 65536 in
set_option maxHeartbeats 40000000 in
theorem ct_min1 {l : Launch} {Z : State} {a0 : Array Value} (H : Ev Z a0) (p1 : Int32) (q1 : Int32) {h0 : Heap} {n0 : Nat} (O0 : Old Z n0 h0) (hpq : ¬ p1 < q1) : CtrN l Z (⟨"java/lang/Math", "min", "(II)I"⟩ : MethodName) jdk_29_method_69_code 2 (some .int) [] rm_min1 #[(.int p1), (.int q1)] h0 [] n0 (Q_min1 Z p1 q1 h0) := by
  refine enterN (a0 := a0) (Jvm.Free.JP.mathPlain rfl (by decide +kernel)) O0 all0 ?_
  intro p e s m below meth c T0 hx hby hml hrt hnm hlk A0
  replace A0 : Wk false Z a0 [] n0 h0 [] "java/lang/Math" p l e rm_min1 s m #[(.int p1), (.int q1)] below meth c [] T0 h0 0 0 := A0
  refine Run.st (T0.setTop (mkF m 0 #[.val (.int p1), .val (.int q1)] [])) (fun _ k => castTop (ef_min1 m p1 q1) k) ?_
  refine Run.st (T0.setTop (mkF m 2 #[.val (.int p1), .val (.int q1)] [(.int q1), (.int p1)])) (fun _ k => XS.iloadN A0.here hx rfl (hb hby d9_0) rfl (XS.iloadN A0.here hx rfl (hb hby d9_1) rfl k)) ?_
  by_cases c20 : q1 < p1
  · refine Run.st (T0.setTop (mkF m 10 #[.val (.int p1), .val (.int q1)] [(.int q1)])) (fun _ k => XS.icmpYes A0.here hx rfl (pc0 := 2) (pc' := 9) rfl (hb hby d9_2) rfl (tlt c20).2.2.1 (by decide) (by decide) (XS.iloadN A0.here hx rfl (hb hby d9_9) rfl k)) ?_
    exact A0.leaveN hlk (some (.int q1)) (fun q => by rw [hrt] at q; cases q) (by decide) (by decide) ⟨rfl, rfl⟩ (fun X hr => retOut X hx (w := (.int q1)) (t := .int) hrt rfl (Or.inl ⟨rfl, Or.inl rfl, _, rfl⟩) (hb hby d9_10) hr)
  · refine Run.st (T0.setTop (mkF m 10 #[.val (.int p1), .val (.int q1)] [(.int p1)])) (fun _ k => XS.icmpNo A0.here hx rfl (hb hby d9_2) rfl (flt c20).2.2.1 (XS.iloadN A0.here hx rfl (hb hby d9_5) rfl (XS.goto A0.here hx rfl (pc0 := 6) (pc' := 10) rfl (hb hby d9_6) (by decide) (by decide) k))) ?_
    exact A0.leaveN hlk (some (.int p1)) (fun q => by rw [hrt] at q; cases q) (by decide) (by decide) ⟨by rw [i32le hpq c20], rfl⟩ (fun X hr => retOut X hx (w := (.int p1)) (t := .int) hrt rfl (Or.inl ⟨rfl, Or.inl rfl, _, rfl⟩) (hb hby d9_10) hr)
theorem ef_min2 (m : MethodId) (y0 : Int32) (y1 : Int32) : entryFrame m #[(.int y0), (.int y1)] 2 = mkF m 0 #[.val (.int y0), .val (.int y1)] [] := by first | (simp [entryFrame, mkF, argsToLocals, Value.category, maxLocals]; done) | rfl
def Q_min2 (Z : State) (p1 : Int32) (q1 : Int32) (h0 : Heap) (v : Option Value) (h : Heap) : Prop := v = some (.int p1) ∧ h = h0
def rm_min2 : Room := { frames := 0, cells := 0, slots := 0, locals := 0 }
set_option maxRecDepth 65536 in
set_option maxHeartbeats 40000000 in
theorem ct_min2 {l : Launch} {Z : State} {a0 : Array Value} (H : Ev Z a0) (p1 : Int32) (q1 : Int32) {h0 : Heap} {n0 : Nat} (O0 : Old Z n0 h0) (hpq : ¬ q1 < p1) : CtrN l Z (⟨"java/lang/Math", "min", "(II)I"⟩ : MethodName) jdk_29_method_69_code 2 (some .int) [] rm_min2 #[(.int p1), (.int q1)] h0 [] n0 (Q_min2 Z p1 q1 h0) := by
  refine enterN (a0 := a0) (Jvm.Free.JP.mathPlain rfl (by decide +kernel)) O0 all0 ?_
  intro p e s m below meth c T0 hx hby hml hrt hnm hlk A0
  replace A0 : Wk false Z a0 [] n0 h0 [] "java/lang/Math" p l e rm_min2 s m #[(.int p1), (.int q1)] below meth c [] T0 h0 0 0 := A0
  refine Run.st (T0.setTop (mkF m 0 #[.val (.int p1), .val (.int q1)] [])) (fun _ k => castTop (ef_min2 m p1 q1) k) ?_
  refine Run.st (T0.setTop (mkF m 10 #[.val (.int p1), .val (.int q1)] [(.int p1)])) (fun _ k => XS.iloadN A0.here hx rfl (hb hby d9_0) rfl (XS.iloadN A0.here hx rfl (hb hby d9_1) rfl (XS.icmpNo A0.here hx rfl (hb hby d9_2) rfl (flt hpq).2.2.1 (XS.iloadN A0.here hx rfl (hb hby d9_5) rfl (XS.goto A0.here hx rfl (pc0 := 6) (pc' := 10) rfl (hb hby d9_6) (by decide) (by decide) k))))) ?_
  exact A0.leaveN hlk (some (.int p1)) (fun q => by rw [hrt] at q; cases q) (by decide) (by decide) ⟨rfl, rfl⟩ (fun X hr => retOut X hx (w := (.int p1)) (t := .int) hrt rfl (Or.inl ⟨rfl, Or.inl rfl, _, rfl⟩) (hb hby d9_10) hr)
theorem ef_newlen (m : MethodId) (y0 : Int32) (y1 : Int32) (y2 : Int32) : entryFrame m #[(.int y0), (.int y1), (.int y2)] 4 = mkF m 0 #[.val (.int y0), .val (.int y1), .val (.int y2), .unset] [] := by first | (simp [entryFrame, mkF, argsToLocals, Value.category, maxLocals]; done) | rfl
def Q_newlen (Z : State) (j1 : Nat) (h0 : Heap) (v : Option Value) (h : Heap) : Prop := v = some (.int 34) ∧ h = h0
def rm_newlen : Room := { frames := 1, cells := 0, slots := 0, locals := 14 }
set_option maxRecDepth 65536 in
set_option maxHeartbeats 40000000 in
theorem ct_newlen {l : Launch} {Z : State} {a0 : Array Value} (H : Ev Z a0) (j1 : Nat) {h0 : Heap} {n0 : Nat} (O0 : Old Z n0 h0) (hj : j1 ≤ 18) : CtrN l Z (⟨"jdk/internal/util/ArraysSupport", "newLength", "(III)I"⟩ : MethodName) jdk_48_method_27_code 4 (some .int) [] rm_newlen #[(.int (16 : Int32)), (.int (Int32.ofNat j1)), (.int (18 : Int32))] h0 [] n0 (Q_newlen Z j1 h0) := by
  refine enterN (a0 := a0) (plainFor_of_name pn_3) O0 all0 ?_
  intro p e s m below meth c T0 hx hby hml hrt hnm hlk A0
  replace A0 : Wk false Z a0 [] n0 h0 [] "jdk/internal/util/ArraysSupport" p l e rm_newlen s m #[(.int (16 : Int32)), (.int (Int32.ofNat j1)), (.int (18 : Int32))] below meth c [] T0 h0 0 0 := A0
  refine Run.st (T0.setTop (mkF m 0 #[.val (.int (16 : Int32)), .val (.int (Int32.ofNat j1)), .val (.int (18 : Int32)), .unset] [])) (fun _ k => castTop (ef_newlen m (16 : Int32) (Int32.ofNat j1) (18 : Int32)) k) ?_
  refine Run.st (T0.setTop (mkF m 3 #[.val (.int (16 : Int32)), .val (.int (Int32.ofNat j1)), .val (.int (18 : Int32)), .unset] [(.int (18 : Int32)), (.int (Int32.ofNat j1)), (.int (16 : Int32))])) (fun _ k => XS.iloadN A0.here hx rfl (hb hby d10_0) rfl (XS.iloadN A0.here hx rfl (hb hby d10_1) rfl (XS.iloadN A0.here hx rfl (hb hby d10_2) rfl k))) ?_
  obtain ⟨v21, T21, h21, AA21, K21, ⟨L21, Q21⟩, st21⟩ := A0.callS hx (tw180 H.1) (tw181 H.1) (tw167 H.1) (tw182 H.1) (by decide) (g := (mkF m 3 #[.val (.int (16 : Int32)), .val (.int (Int32.ofNat j1)), .val (.int (18 : Int32)), .unset] [(.int (18 : Int32)), (.int (Int32.ofNat j1)), (.int (16 : Int32))])) rfl (by rw [hml]; rfl) [(.int (Int32.ofNat j1)), (.int (18 : Int32))] [(.int (16 : Int32))] (lenOf pd_4 rfl) rfl (Wd := 1) (by show 2 * 0 + _ ≤ _; exact Nat.le_of_eq rfl) (hb hby d10_3) (by decide) (by decide) [] (fun _ _ _ q => q.2) all0 (fun vm0 hZ => payN (ct_max H j1 A0.old hj) (tw182 H.1) (tw167 H.1) (by decide) (by decide) hZ)
  obtain ⟨Q21, N21, -⟩ := Q21
  obtain ⟨rfl, q21⟩ := Q21
  have q21 := q21.symm
  subst q21
  have A21 := AA21 [] all0
  refine Run.st (T21.setTop (mkF m 6 #[.val (.int (16 : Int32)), .val (.int (Int32.ofNat j1)), .val (.int (18 : Int32)), .unset] [(.int (18 : Int32)), (.int (16 : Int32))])) st21 ?_
  refine Run.st (T21.setTop (mkF m 14 #[.val (.int (16 : Int32)), .val (.int (Int32.ofNat j1)), .val (.int (18 : Int32)), .val (.int (34 : Int32))] [(.int (34 : Int32))])) (fun _ k => XS.iadd A21.here hx rfl (hb hby d10_6) rfl (XS.istoreN A21.here hx rfl (hb hby d10_7) rfl (l' := #[.val (.int (16 : Int32)), .val (.int (Int32.ofNat j1)), .val (.int (18 : Int32)), .val (.int (34 : Int32))]) rfl (XS.iconst A21.here hx rfl (hb hby d10_8) (XS.iloadN A21.here hx rfl (hb hby d10_9) rfl (XS.icmpNo A21.here hx rfl (hb hby d10_10) rfl (by decide) (XS.iloadN A21.here hx rfl (hb hby d10_13) rfl k)))))) ?_
  refine Run.st (T21.setTop (mkF m 16 #[.val (.int (16 : Int32)), .val (.int (Int32.ofNat j1)), .val (.int (18 : Int32)), .val (.int (34 : Int32))] [(.int (2147483639 : Int32)), (.int (34 : Int32))])) (A21.ldcI hx (tw183 H.1) (g := (mkF m 14 #[.val (.int (16 : Int32)), .val (.int (Int32.ofNat j1)), .val (.int (18 : Int32)), .val (.int (34 : Int32))] [(.int (34 : Int32))])) rfl (hb hby d10_14)) ?_
  refine Run.st (T21.setTop (mkF m 20 #[.val (.int (16 : Int32)), .val (.int (Int32.ofNat j1)), .val (.int (18 : Int32)), .val (.int (34 : Int32))] [(.int (34 : Int32))])) (fun _ k => XS.icmpNo A21.here hx rfl (hb hby d10_16) rfl (by decide) (XS.iloadN A21.here hx rfl (hb hby d10_19) rfl k)) ?_
  exact A21.leaveN hlk (some (.int (34 : Int32))) (fun q => by rw [hrt] at q; cases q) (by decide) (by decide) ⟨rfl, rfl⟩ (fun X hr => retOut X hx (w := (.int (34 : Int32))) (t := .int) hrt rfl (Or.inl ⟨rfl, Or.inl rfl, _, rfl⟩) (hb hby d10_20) hr)
theorem ef_newcap (m : MethodId) (y0 : Addr) (y1 : Int32) : entryFrame m #[(.ref y0), (.int y1)] 6 = mkF m 0 #[.val (.ref y0), .val (.int y1), .unset, .unset, .unset, .unset] [] := by first | (simp [entryFrame, mkF, argsToLocals, Value.category, maxLocals]; done) | rfl
def Q_newcap (Z : State) (b1 : Addr) (t1 : Addr) (kb : ClassId) (xs : List Int32) (m1 : Nat) (h0 : Heap) (v : Option Value) (h : Heap) : Prop := v = some (.int 34) ∧ h = h0
def rm_newcap : Room := { frames := 2, cells := 0, slots := 0, locals := 29 }
set_option maxRecDepth 65536 in
set_option maxHeartbeats 40000000 in
theorem ct_newcap {l : Launch} {Z : State} {a0 : Array Value} (H : Ev Z a0) (b1 : Addr) (t1 : Addr) (kb : ClassId) (xs : List Int32) (m1 : Nat) {h0 : Heap} {n0 : Nat} (O0 : Old Z n0 h0) (F2 : Fld Z h0 b1 "java/lang/AbstractStringBuilder" "coder" "B" (.int 0)) (F3 : Fld Z h0 b1 "java/lang/AbstractStringBuilder" "value" "[B" (.ref t1)) (Vt : Arv Z h0 t1 kb .byte (16 : Int32) (bs xs) (.int 0)) (hm : 16 < m1) (hm2 : m1 ≤ 34) : CtrN l Z (⟨"java/lang/AbstractStringBuilder", "newCapacity", "(I)I"⟩ : MethodName) jdk_68_method_10_code 6 (some .int) [] rm_newcap #[(.ref b1), (.int (Int32.ofNat m1))] h0 [] n0 (Q_newcap Z b1 t1 kb xs m1 h0) := by
  refine enterN (a0 := a0) (plainFor_of_name pn_1) O0 all0 ?_
  intro p e s m below meth c T0 hx hby hml hrt hnm hlk A0
  replace A0 : Wk false Z a0 [] n0 h0 [] "java/lang/AbstractStringBuilder" p l e rm_newcap s m #[(.ref b1), (.int (Int32.ofNat m1))] below meth c [] T0 h0 0 0 := A0
  refine Run.st (T0.setTop (mkF m 0 #[.val (.ref b1), .val (.int (Int32.ofNat m1)), .unset, .unset, .unset, .unset] [])) (fun _ k => castTop (ef_newcap m b1 (Int32.ofNat m1)) k) ?_
  refine Run.st (T0.setTop (mkF m 1 #[.val (.ref b1), .val (.int (Int32.ofNat m1)), .unset, .unset, .unset, .unset] [(.ref b1)])) (fun _ k => XS.aloadN A0.here hx rfl (hb hby d11_0) rfl rfl k) ?_
  obtain ⟨T22, A22, st22⟩ := A0.getF hx (tw69 H.1) Via.refl F3 (g := (mkF m 1 #[.val (.ref b1), .val (.int (Int32.ofNat m1)), .unset, .unset, .unset, .unset] [(.ref b1)])) rfl rfl (hb hby d11_1)
  refine Run.st (T22.setTop (mkF m 4 #[.val (.ref b1), .val (.int (Int32.ofNat m1)), .unset, .unset, .unset, .unset] [(.ref t1)])) st22 ?_
  refine Run.st (T22.setTop (mkF m 5 #[.val (.ref b1), .val (.int (Int32.ofNat m1)), .unset, .unset, .unset, .unset] [(.int (16 : Int32))])) (A22.alen hx Vt (g := (mkF m 4 #[.val (.ref b1), .val (.int (Int32.ofNat m1)), .unset, .unset, .unset, .unset] [(.ref t1)])) rfl rfl (hb hby d11_4)) ?_
  refine Run.st (T22.setTop (mkF m 8 #[.val (.ref b1), .val (.int (Int32.ofNat m1)), .val (.int (16 : Int32)), .unset, .unset, .unset] [(.ref b1), (.int (Int32.ofNat m1))])) (fun _ k => XS.istoreN A22.here hx rfl (hb hby d11_5) rfl (l' := #[.val (.ref b1), .val (.int (Int32.ofNat m1)), .val (.int (16 : Int32)), .unset, .unset, .unset]) rfl (XS.iloadN A22.here hx rfl (hb hby d11_6) rfl (XS.aloadN A22.here hx rfl (hb hby d11_7) rfl rfl k))) ?_
  obtain ⟨T23, A23, st23⟩ := A22.getF hx (tw71 H.1) Via.refl F2 (g := (mkF m 8 #[.val (.ref b1), .val (.int (Int32.ofNat m1)), .val (.int (16 : Int32)), .unset, .unset, .unset] [(.ref b1), (.int (Int32.ofNat m1))])) rfl rfl (hb hby d11_8)
  refine Run.st (T23.setTop (mkF m 11 #[.val (.ref b1), .val (.int (Int32.ofNat m1)), .val (.int (16 : Int32)), .unset, .unset, .unset] [(.int (0 : Int32)), (.int (Int32.ofNat m1))])) st23 ?_
  refine Run.st (T23.setTop (mkF m 12 #[.val (.ref b1), .val (.int (Int32.ofNat m1)), .val (.int (16 : Int32)), .unset, .unset, .unset] [(.int ((Int32.ofNat m1) <<< ((0 : Int32) &&& 31)))])) (fun _ k => XS.ishl A23.here hx rfl (hb hby d11_11) rfl k) ?_
  rw [show ((Int32.ofNat m1) <<< ((0 : Int32) &&& 31)) = (Int32.ofNat m1) from shl0 (Int32.ofNat m1)]
  refine Run.st (T23.setTop (mkF m 15 #[.val (.ref b1), .val (.int (Int32.ofNat m1)), .val (.int (16 : Int32)), .val (.int (Int32.ofNat m1)), .unset, .unset] [(.int (16 : Int32)), (.int (Int32.ofNat m1))])) (fun _ k => XS.istoreN A23.here hx rfl (hb hby d11_12) rfl (l' := #[.val (.ref b1), .val (.int (Int32.ofNat m1)), .val (.int (16 : Int32)), .val (.int (Int32.ofNat m1)), .unset, .unset]) rfl (XS.iloadN A23.here hx rfl (hb hby d11_13) rfl (XS.iloadN A23.here hx rfl (hb hby d11_14) rfl k))) ?_
  refine Run.st (T23.setTop (mkF m 16 #[.val (.ref b1), .val (.int (Int32.ofNat m1)), .val (.int (16 : Int32)), .val (.int (Int32.ofNat m1)), .unset, .unset] [(.int ((Int32.ofNat m1) - (16 : Int32)))])) (fun _ k => XS.isub A23.here hx rfl (hb hby d11_15) rfl k) ?_
  rw [show ((Int32.ofNat m1) - (16 : Int32)) = (Int32.ofNat (m1 - 16)) from n_sub (a := m1) (b := 16) (Nat.le_of_lt hm)]
  refine Run.st (T23.setTop (mkF m 24 #[.val (.ref b1), .val (.int (Int32.ofNat m1)), .val (.int (16 : Int32)), .val (.int (Int32.ofNat m1)), .val (.int (Int32.ofNat (m1 - 16))), .unset] [(.ref b1), (.int (2 : Int32)), (.int (16 : Int32)), (.int (Int32.ofNat (m1 - 16))), (.int (16 : Int32))])) (fun _ k => XS.istore A23.here hx rfl (hb hby d11_16) rfl (l' := #[.val (.ref b1), .val (.int (Int32.ofNat m1)), .val (.int (16 : Int32)), .val (.int (Int32.ofNat m1)), .val (.int (Int32.ofNat (m1 - 16))), .unset]) rfl (XS.iloadN A23.here hx rfl (hb hby d11_18) rfl (XS.iload A23.here hx rfl (hb hby d11_19) rfl (XS.iloadN A23.here hx rfl (hb hby d11_21) rfl (XS.iconst A23.here hx rfl (hb hby d11_22) (XS.aloadN A23.here hx rfl (hb hby d11_23) rfl rfl k)))))) ?_
  obtain ⟨T24, A24, st24⟩ := A23.getF hx (tw71 H.1) Via.refl F2 (g := (mkF m 24 #[.val (.ref b1), .val (.int (Int32.ofNat m1)), .val (.int (16 : Int32)), .val (.int (Int32.ofNat m1)), .val (.int (Int32.ofNat (m1 - 16))), .unset] [(.ref b1), (.int (2 : Int32)), (.int (16 : Int32)), (.int (Int32.ofNat (m1 - 16))), (.int (16 : Int32))])) rfl rfl (hb hby d11_24)
  refine Run.st (T24.setTop (mkF m 27 #[.val (.ref b1), .val (.int (Int32.ofNat m1)), .val (.int (16 : Int32)), .val (.int (Int32.ofNat m1)), .val (.int (Int32.ofNat (m1 - 16))), .unset] [(.int (0 : Int32)), (.int (2 : Int32)), (.int (16 : Int32)), (.int (Int32.ofNat (m1 - 16))), (.int (16 : Int32))])) st24 ?_
  refine Run.st (T24.setTop (mkF m 28 #[.val (.ref b1), .val (.int (Int32.ofNat m1)), .val (.int (16 : Int32)), .val (.int (Int32.ofNat m1)), .val (.int (Int32.ofNat (m1 - 16))), .unset] [(.int ((2 : Int32) <<< ((0 : Int32) &&& 31))), (.int (16 : Int32)), (.int (Int32.ofNat (m1 - 16))), (.int (16 : Int32))])) (fun _ k => XS.ishl A24.here hx rfl (hb hby d11_27) rfl k) ?_
  rw [show ((2 : Int32) <<< ((0 : Int32) &&& 31)) = (2 : Int32) from shl0 (2 : Int32)]
  refine Run.st (T24.setTop (mkF m 29 #[.val (.ref b1), .val (.int (Int32.ofNat m1)), .val (.int (16 : Int32)), .val (.int (Int32.ofNat m1)), .val (.int (Int32.ofNat (m1 - 16))), .unset] [(.int (18 : Int32)), (.int (Int32.ofNat (m1 - 16))), (.int (16 : Int32))])) (fun _ k => XS.iadd A24.here hx rfl (hb hby d11_28) rfl k) ?_
  obtain ⟨v25, T25, h25, AA25, K25, ⟨L25, Q25⟩, st25⟩ := A24.callS hx (tw176 H.1) (tw177 H.1) (tw178 H.1) (tw179 H.1) (by decide) (g := (mkF m 29 #[.val (.ref b1), .val (.int (Int32.ofNat m1)), .val (.int (16 : Int32)), .val (.int (Int32.ofNat m1)), .val (.int (Int32.ofNat (m1 - 16))), .unset] [(.int (18 : Int32)), (.int (Int32.ofNat (m1 - 16))), (.int (16 : Int32))])) rfl (by rw [hml]; rfl) [(.int (16 : Int32)), (.int (Int32.ofNat (m1 - 16))), (.int (18 : Int32))] [] (lenOf pd_5 rfl) rfl (Wd := 0) (by show 2 * 0 + _ ≤ _; exact Nat.le_of_eq rfl) (hb hby d11_29) (by decide) (by decide) [] (fun _ _ _ q => q.2) all0 (fun vm0 hZ => payN (ct_newlen H (m1 - 16) A24.old (by omega)) (tw179 H.1) (tw178 H.1) (by decide) (by decide) hZ)
  obtain ⟨Q25, N25, -⟩ := Q25
  obtain ⟨rfl, q25⟩ := Q25
  have q25 := q25.symm
  subst q25
  have A25 := AA25 [] all0
  refine Run.st (T25.setTop (mkF m 32 #[.val (.ref b1), .val (.int (Int32.ofNat m1)), .val (.int (16 : Int32)), .val (.int (Int32.ofNat m1)), .val (.int (Int32.ofNat (m1 - 16))), .unset] [(.int (34 : Int32))])) st25 ?_
  refine Run.st (T25.setTop (mkF m 36 #[.val (.ref b1), .val (.int (Int32.ofNat m1)), .val (.int (16 : Int32)), .val (.int (Int32.ofNat m1)), .val (.int (Int32.ofNat (m1 - 16))), .val (.int (34 : Int32))] [(.int (34 : Int32))])) (fun _ k => XS.istore A25.here hx rfl (hb hby d11_32) rfl (l' := #[.val (.ref b1), .val (.int (Int32.ofNat m1)), .val (.int (16 : Int32)), .val (.int (Int32.ofNat m1)), .val (.int (Int32.ofNat (m1 - 16))), .val (.int (34 : Int32))]) rfl (XS.iload A25.here hx rfl (hb hby d11_34) rfl k)) ?_
  refine Run.st (T25.setTop (mkF m 38 #[.val (.ref b1), .val (.int (Int32.ofNat m1)), .val (.int (16 : Int32)), .val (.int (Int32.ofNat m1)), .val (.int (Int32.ofNat (m1 - 16))), .val (.int (34 : Int32))] [(.int (2147483647 : Int32)), (.int (34 : Int32))])) (A25.ldcI hx (tw184 H.1) (g := (mkF m 36 #[.val (.ref b1), .val (.int (Int32.ofNat m1)), .val (.int (16 : Int32)), .val (.int (Int32.ofNat m1)), .val (.int (Int32.ofNat (m1 - 16))), .val (.int (34 : Int32))] [(.int (34 : Int32))])) rfl (hb hby d11_36)) ?_
  refine Run.st (T25.setTop (mkF m 54 #[.val (.ref b1), .val (.int (Int32.ofNat m1)), .val (.int (16 : Int32)), .val (.int (Int32.ofNat m1)), .val (.int (Int32.ofNat (m1 - 16))), .val (.int (34 : Int32))] [(.ref b1), (.int (34 : Int32))])) (fun _ k => XS.icmpYes A25.here hx rfl (pc0 := 38) (pc' := 51) rfl (hb hby d11_38) rfl (by decide) (by decide) (by decide) (XS.iload A25.here hx rfl (hb hby d11_51) rfl (XS.aloadN A25.here hx rfl (hb hby d11_53) rfl rfl k))) ?_
  obtain ⟨T26, A26, st26⟩ := A25.getF hx (tw71 H.1) Via.refl F2 (g := (mkF m 54 #[.val (.ref b1), .val (.int (Int32.ofNat m1)), .val (.int (16 : Int32)), .val (.int (Int32.ofNat m1)), .val (.int (Int32.ofNat (m1 - 16))), .val (.int (34 : Int32))] [(.ref b1), (.int (34 : Int32))])) rfl rfl (hb hby d11_54)
  refine Run.st (T26.setTop (mkF m 57 #[.val (.ref b1), .val (.int (Int32.ofNat m1)), .val (.int (16 : Int32)), .val (.int (Int32.ofNat m1)), .val (.int (Int32.ofNat (m1 - 16))), .val (.int (34 : Int32))] [(.int (0 : Int32)), (.int (34 : Int32))])) st26 ?_
  refine Run.st (T26.setTop (mkF m 58 #[.val (.ref b1), .val (.int (Int32.ofNat m1)), .val (.int (16 : Int32)), .val (.int (Int32.ofNat m1)), .val (.int (Int32.ofNat (m1 - 16))), .val (.int (34 : Int32))] [(.int ((34 : Int32) >>> ((0 : Int32) &&& 31)))])) (fun _ k => XS.ishr A26.here hx rfl (hb hby d11_57) rfl k) ?_
  rw [show ((34 : Int32) >>> ((0 : Int32) &&& 31)) = (34 : Int32) from shr0 (34 : Int32)]
  exact A26.leaveN hlk (some (.int (34 : Int32))) (fun q => by rw [hrt] at q; cases q) (by decide) (by decide) ⟨rfl, rfl⟩ (fun X hr => retOut X hx (w := (.int (34 : Int32))) (t := .int) hrt rfl (Or.inl ⟨rfl, Or.inl rfl, _, rfl⟩) (hb hby d11_58) hr)
theorem ef_copyof (m : MethodId) (y0 : Addr) (y1 : Int32) : entryFrame m #[(.ref y0), (.int y1)] 3 = mkF m 0 #[.val (.ref y0), .val (.int y1), .unset] [] := by first | (simp [entryFrame, mkF, argsToLocals, Value.category, maxLocals]; done) | rfl
def Q_copyof (Z : State) (t1 : Addr) (kb : ClassId) (xs : List Int32) (h0 : Heap) (v : Option Value) (h : Heap) : Prop := ∃ (t : Addr) (kt : ClassId), v = some (.ref t) ∧ h0.size ≤ t ∧ Ext h0 h ∧ Arv Z h t kt .byte (34 : Int32) (bs xs) (.int 0)
def rm_copyof : Room := { frames := 1, cells := 1, slots := 34, locals := 18 }
set_option maxRecDepth 65536 in
set_option maxHeartbeats 40000000 in
theorem ct_copyof {l : Launch} {Z : State} {a0 : Array Value} (H : Ev Z a0) (t1 : Addr) (kb : ClassId) (xs : List Int32) {h0 : Heap} {n0 : Nat} (O0 : Old Z n0 h0) (Vt : Arv Z h0 t1 kb .byte (16 : Int32) (bs xs) (.int 0)) (hx16 : xs.length ≤ 16) : CtrN l Z (⟨"java/util/Arrays", "copyOf", "([BI)[B"⟩ : MethodName) jdk_65_method_121_code 3 (some (.array .byte)) [] rm_copyof #[(.ref t1), (.int (34 : Int32))] h0 [] n0 (Q_copyof Z t1 kb xs h0) := by
  refine enterN (a0 := a0) (plainFor_of_name pn_4) O0 all0 ?_
  intro p e s m below meth c T0 hx hby hml hrt hnm hlk A0
  replace A0 : Wk false Z a0 [] n0 h0 [] "java/util/Arrays" p l e rm_copyof s m #[(.ref t1), (.int (34 : Int32))] below meth c [] T0 h0 0 0 := A0
  refine Run.st (T0.setTop (mkF m 0 #[.val (.ref t1), .val (.int (34 : Int32)), .unset] [])) (fun _ k => castTop (ef_copyof m t1 (34 : Int32)) k) ?_
  refine Run.st (T0.setTop (mkF m 2 #[.val (.ref t1), .val (.int (34 : Int32)), .unset] [(.ref t1), (.int (34 : Int32))])) (fun _ k => XS.iloadN A0.here hx rfl (hb hby d12_0) rfl (XS.aloadN A0.here hx rfl (hb hby d12_1) rfl rfl k)) ?_
  refine Run.st (T0.setTop (mkF m 3 #[.val (.ref t1), .val (.int (34 : Int32)), .unset] [(.int (16 : Int32)), (.int (34 : Int32))])) (A0.alen hx Vt (g := (mkF m 2 #[.val (.ref t1), .val (.int (34 : Int32)), .unset] [(.ref t1), (.int (34 : Int32))])) rfl rfl (hb hby d12_2)) ?_
  refine Run.st (T0.setTop (mkF m 15 #[.val (.ref t1), .val (.int (34 : Int32)), .unset] [(.int (34 : Int32))])) (fun _ k => XS.icmpYes A0.here hx rfl (pc0 := 3) (pc' := 14) rfl (hb hby d12_3) rfl (by decide) (by decide) (by decide) (XS.iloadN A0.here hx rfl (hb hby d12_14) rfl k)) ?_
  obtain ⟨a27, T27, h27, kA27, A27, E27, g27, V27, st27⟩ := A0.newP hx (aty := .byte) (N := (34 : Int32)) (tw19 H.1) (g := (mkF m 15 #[.val (.ref t1), .val (.int (34 : Int32)), .unset] [(.int (34 : Int32))])) rfl (hb hby d12_15) rfl (by decide) (cap := 34) (by decide) (by decide) (by decide) (by decide)
  refine Run.st (T27.setTop (mkF m 17 #[.val (.ref t1), .val (.int (34 : Int32)), .unset] [(.ref a27)])) st27 ?_
  refine Run.st (T27.setTop (mkF m 23 #[.val (.ref t1), .val (.int (34 : Int32)), .val (.ref a27)] [(.ref t1), (.int (0 : Int32)), (.ref a27), (.int (0 : Int32)), (.ref t1)])) (fun _ k => XS.astoreN A27.here hx rfl (hb hby d12_17) rfl rfl (l' := #[.val (.ref t1), .val (.int (34 : Int32)), .val (.ref a27)]) rfl (XS.aloadN A27.here hx rfl (hb hby d12_18) rfl rfl (XS.iconst A27.here hx rfl (hb hby d12_19) (XS.aloadN A27.here hx rfl (hb hby d12_20) rfl rfl (XS.iconst A27.here hx rfl (hb hby d12_21) (XS.aloadN A27.here hx rfl (hb hby d12_22) rfl rfl k)))))) ?_
  have X28 : Ext h0 h27 := E27
  have f29 := Vt.ext X28
  refine Run.st (T27.setTop (mkF m 24 #[.val (.ref t1), .val (.int (34 : Int32)), .val (.ref a27)] [(.int (16 : Int32)), (.int (0 : Int32)), (.ref a27), (.int (0 : Int32)), (.ref t1)])) (A27.alen hx f29 (g := (mkF m 23 #[.val (.ref t1), .val (.int (34 : Int32)), .val (.ref a27)] [(.ref t1), (.int (0 : Int32)), (.ref a27), (.int (0 : Int32)), (.ref t1)])) rfl rfl (hb hby d12_23)) ?_
  refine Run.st (T27.setTop (mkF m 25 #[.val (.ref t1), .val (.int (34 : Int32)), .val (.ref a27)] [(.int (34 : Int32)), (.int (16 : Int32)), (.int (0 : Int32)), (.ref a27), (.int (0 : Int32)), (.ref t1)])) (fun _ k => XS.iloadN A27.here hx rfl (hb hby d12_24) rfl k) ?_
  obtain ⟨v30, T30, h30, AA30, K30, ⟨L30, Q30⟩, st30⟩ := A27.callS hx (tw165 H.1) (tw166 H.1) (tw167 H.1) (tw168 H.1) (by decide) (g := (mkF m 25 #[.val (.ref t1), .val (.int (34 : Int32)), .val (.ref a27)] [(.int (34 : Int32)), (.int (16 : Int32)), (.int (0 : Int32)), (.ref a27), (.int (0 : Int32)), (.ref t1)])) rfl (by rw [hml]; rfl) [(.int (16 : Int32)), (.int (34 : Int32))] [(.int (0 : Int32)), (.ref a27), (.int (0 : Int32)), (.ref t1)] (lenOf pd_4 rfl) rfl (Wd := 4) (by show 2 * 0 + _ ≤ _; exact Nat.le_of_eq rfl) (hb hby d12_25) (by decide) (by decide) [] (fun _ _ _ q => q.2) all0 (fun vm0 hZ => payN (ct_min2 H (16 : Int32) (34 : Int32) A27.old (by decide)) (tw168 H.1) (tw167 H.1) (by decide) (by decide) hZ)
  obtain ⟨Q30, N30, -⟩ := Q30
  obtain ⟨rfl, q30⟩ := Q30
  have q30 := q30.symm
  subst q30
  have A30 := AA30 [] all0
  refine Run.st (T30.setTop (mkF m 28 #[.val (.ref t1), .val (.int (34 : Int32)), .val (.ref a27)] [(.int (16 : Int32)), (.int (0 : Int32)), (.ref a27), (.int (0 : Int32)), (.ref t1)])) st30 ?_
  have Vd : Arv Z h27 a27 kA27 .byte (34 : Int32) (List.replicate 34 (.int (0 : Int32))) (.int (0 : Int32)) := V27
  obtain ⟨T31, h31, A31, K31, V31, st31⟩ := A30.copy hx (sp := (0 : Int32)) (dp := (0 : Int32)) (nn := (16 : Int32)) (tw169 H.1) (tw122 H.1) (tw120 H.1) (tw121 H.1) f29 Vd rfl (by decide) (by decide) (by decide) (by decide) (by decide) rfl (by decide) (List.mem_of_getElem? (i := 0) rfl) (g := (mkF m 28 #[.val (.ref t1), .val (.int (34 : Int32)), .val (.ref a27)] [(.int (16 : Int32)), (.int (0 : Int32)), (.ref a27), (.int (0 : Int32)), (.ref t1)])) rfl (by rw [hml]; rfl) rfl (hb hby d12_28) (by decide) (Wd := 0) (by show 2 * 0 + _ ≤ _; exact Nat.le_of_eq rfl) (by decide)
  refine Run.st (T31.setTop (mkF m 31 #[.val (.ref t1), .val (.int (34 : Int32)), .val (.ref a27)] [])) st31 ?_
  refine Run.st (T31.setTop (mkF m 32 #[.val (.ref t1), .val (.int (34 : Int32)), .val (.ref a27)] [(.ref a27)])) (fun _ k => XS.aloadN A31.here hx rfl (hb hby d12_31) rfl rfl k) ?_
  exact A31.leaveN hlk (some (.ref a27)) (fun q => by rw [hrt] at q; cases q) (by decide) (by decide) ⟨_, _, rfl, (Nat.le_of_eq g27), keepE A31.keep, new_ok (m := 0) (k := 16) hx16 (by decide) V31⟩ (fun X hr => retOut X hx (w := (.ref a27)) (t := (.array .byte)) hrt rfl (Or.inr (Or.inr (Or.inr (Or.inr ⟨rfl, rfl, rfl⟩)))) (hb hby d12_32) hr)
theorem ef_ensure (m : MethodId) (y0 : Addr) (y1 : Int32) : entryFrame m #[(.ref y0), (.int y1)] 3 = mkF m 0 #[.val (.ref y0), .val (.int y1), .unset] [] := by first | (simp [entryFrame, mkF, argsToLocals, Value.category, maxLocals]; done) | rfl
def Q_ensure (Z : State) (b1 : Addr) (t1 : Addr) (kb : ClassId) (n1 : Nat) (xs : List Int32) (q1 : Int32) (m1 : Nat) (h0 : Heap) (v : Option Value) (h : Heap) : Prop := v = none ∧ ∃ (t : Addr) (kt : ClassId) (n : Nat), (t = t1 ∨ h0.size ≤ t ∧ t < h.size) ∧ (n = 16 ∨ n = 34) ∧ m1 ≤ n ∧ Exa Z h b1 "java/lang/StringBuilder" ∧ Fld Z h b1 "java/lang/AbstractStringBuilder" "value" "[B" (.ref t) ∧ Fld Z h b1 "java/lang/AbstractStringBuilder" "count" "I" (.int q1) ∧ Fld Z h b1 "java/lang/AbstractStringBuilder" "coder" "B" (.int 0) ∧ xs.length ≤ n ∧ Arv Z h t kt .byte (Int32.ofNat n) (bs xs) (.int 0)
def rm_ensure : Room := { frames := 3, cells := 1, slots := 34, locals := 48 }
set_option maxRecDepth 65536 in
set_option maxHeartbeats 40000000 in
theorem ct_ensure {l : Launch} {Z : State} {a0 : Array Value} (H : Ev Z a0) (b1 : Addr) (t1 : Addr) (kb : ClassId) (n1 : Nat) (xs : List Int32) (q1 : Int32) (m1 : Nat) {h0 : Heap} {n0 : Nat} (O0 : Old Z n0 h0) (E1 : Exa Z h0 b1 "java/lang/StringBuilder") (F2 : Fld Z h0 b1 "java/lang/AbstractStringBuilder" "coder" "B" (.int 0)) (F3 : Fld Z h0 b1 "java/lang/AbstractStringBuilder" "value" "[B" (.ref t1)) (F1 : Fld Z h0 b1 "java/lang/AbstractStringBuilder" "count" "I" (.int q1)) (Vt : Arv Z h0 t1 kb .byte (Int32.ofNat n1) (bs xs) (.int 0)) (hn : n1 = 16 ∨ n1 = 34) (hxn : xs.length ≤ n1) (hm2 : m1 ≤ 34) (g_b1 : n0 ≤ b1) (z_b1 : b1 < h0.size) : CtrN l Z (⟨"java/lang/AbstractStringBuilder", "ensureCapacityInternal", "(I)V"⟩ : MethodName) jdk_68_method_9_code 3 none [] rm_ensure #[(.ref b1), (.int (Int32.ofNat m1))] h0 [b1] n0 (Q_ensure Z b1 t1 kb n1 xs q1 m1 h0) := by
  refine enterN (a0 := a0) (plainFor_of_name pn_1) O0 (allS ⟨g_b1, z_b1⟩ all0) ?_
  intro p e s m below meth c T0 hx hby hml hrt hnm hlk A0
  replace A0 : Wk false Z a0 [] n0 h0 [b1] "java/lang/AbstractStringBuilder" p l e rm_ensure s m #[(.ref b1), (.int (Int32.ofNat m1))] below meth c [b1] T0 h0 0 0 := A0
  refine Run.st (T0.setTop (mkF m 0 #[.val (.ref b1), .val (.int (Int32.ofNat m1)), .unset] [])) (fun _ k => castTop (ef_ensure m b1 (Int32.ofNat m1)) k) ?_
  rcases hn with rfl | rfl
  · have Vt : Arv Z h0 t1 kb .byte (16 : Int32) (bs xs) (.int 0) := Vt
    refine Run.st (T0.setTop (mkF m 1 #[.val (.ref b1), .val (.int (Int32.ofNat m1)), .unset] [(.ref b1)])) (fun _ k => XS.aloadN A0.here hx rfl (hb hby d13_0) rfl rfl k) ?_
    obtain ⟨T32, A32, st32⟩ := A0.getF hx (tw69 H.1) Via.refl F3 (g := (mkF m 1 #[.val (.ref b1), .val (.int (Int32.ofNat m1)), .unset] [(.ref b1)])) rfl rfl (hb hby d13_1)
    refine Run.st (T32.setTop (mkF m 4 #[.val (.ref b1), .val (.int (Int32.ofNat m1)), .unset] [(.ref t1)])) st32 ?_
    refine Run.st (T32.setTop (mkF m 5 #[.val (.ref b1), .val (.int (Int32.ofNat m1)), .unset] [(.int (16 : Int32))])) (A32.alen hx Vt (g := (mkF m 4 #[.val (.ref b1), .val (.int (Int32.ofNat m1)), .unset] [(.ref t1)])) rfl rfl (hb hby d13_4)) ?_
    refine Run.st (T32.setTop (mkF m 6 #[.val (.ref b1), .val (.int (Int32.ofNat m1)), .unset] [(.ref b1), (.int (16 : Int32))])) (fun _ k => XS.aloadN A32.here hx rfl (hb hby d13_5) rfl rfl k) ?_
    obtain ⟨T33, A33, st33⟩ := A32.getF hx (tw71 H.1) Via.refl F2 (g := (mkF m 6 #[.val (.ref b1), .val (.int (Int32.ofNat m1)), .unset] [(.ref b1), (.int (16 : Int32))])) rfl rfl (hb hby d13_6)
    refine Run.st (T33.setTop (mkF m 9 #[.val (.ref b1), .val (.int (Int32.ofNat m1)), .unset] [(.int (0 : Int32)), (.int (16 : Int32))])) st33 ?_
    refine Run.st (T33.setTop (mkF m 10 #[.val (.ref b1), .val (.int (Int32.ofNat m1)), .unset] [(.int ((16 : Int32) >>> ((0 : Int32) &&& 31)))])) (fun _ k => XS.ishr A33.here hx rfl (hb hby d13_9) rfl k) ?_
    rw [show ((16 : Int32) >>> ((0 : Int32) &&& 31)) = (16 : Int32) from shr0 (16 : Int32)]
    refine Run.st (T33.setTop (mkF m 14 #[.val (.ref b1), .val (.int (Int32.ofNat m1)), .val (.int (16 : Int32))] [(.int ((Int32.ofNat m1) - (16 : Int32)))])) (fun _ k => XS.istoreN A33.here hx rfl (hb hby d13_10) rfl (l' := #[.val (.ref b1), .val (.int (Int32.ofNat m1)), .val (.int (16 : Int32))]) rfl (XS.iloadN A33.here hx rfl (hb hby d13_11) rfl (XS.iloadN A33.here hx rfl (hb hby d13_12) rfl (XS.isub A33.here hx rfl (hb hby d13_13) rfl k)))) ?_
    by_cases c34 : m1 ≤ 16
    · refine Run.st (T33.setTop (mkF m 38 #[.val (.ref b1), .val (.int (Int32.ofNat m1)), .val (.int (16 : Int32))] [])) (fun _ k => XS.ifYes A33.here hx rfl (pc0 := 14) (pc' := 38) rfl (hb hby d13_14) rfl (by rw [if0]; exact (flt (n_suble (b := 16) c34 (by decide))).2.2.2) (by decide) (by decide) k) ?_
      exact A33.leaveN hlk none (fun _ => rfl) (by decide) (by decide) ⟨rfl, t1, kb, 16, Or.inl rfl, Or.inl rfl, c34, E1, F3, F1, F2, by omega, Vt⟩ (fun X hr => X.returnOut hx hrt (hb hby d13_38) hr)
    · refine Run.st (T33.setTop (mkF m 19 #[.val (.ref b1), .val (.int (Int32.ofNat m1)), .val (.int (16 : Int32))] [(.ref b1), (.ref b1)])) (fun _ k => XS.ifNo A33.here hx rfl (hb hby d13_14) rfl (by rw [if0]; exact (tlt (n_subgt (b := 16) (Nat.lt_of_not_le c34) (by omega))).2.2.2) (XS.aloadN A33.here hx rfl (hb hby d13_17) rfl rfl (XS.aloadN A33.here hx rfl (hb hby d13_18) rfl rfl k))) ?_
      obtain ⟨T35, A35, st35⟩ := A33.getF hx (tw69 H.1) Via.refl F3 (g := (mkF m 19 #[.val (.ref b1), .val (.int (Int32.ofNat m1)), .val (.int (16 : Int32))] [(.ref b1), (.ref b1)])) rfl rfl (hb hby d13_19)
      refine Run.st (T35.setTop (mkF m 22 #[.val (.ref b1), .val (.int (Int32.ofNat m1)), .val (.int (16 : Int32))] [(.ref t1), (.ref b1)])) st35 ?_
      refine Run.st (T35.setTop (mkF m 24 #[.val (.ref b1), .val (.int (Int32.ofNat m1)), .val (.int (16 : Int32))] [(.int (Int32.ofNat m1)), (.ref b1), (.ref t1), (.ref b1)])) (fun _ k => XS.aloadN A35.here hx rfl (hb hby d13_22) rfl rfl (XS.iloadN A35.here hx rfl (hb hby d13_23) rfl k)) ?_
      obtain ⟨v36, T36, h36, AA36, K36, ⟨L36, Q36⟩, st36⟩ := A35.callV hx (y := (⟨"java/lang/AbstractStringBuilder", "newCapacity", "(I)I"⟩ : MethodName)) (z := (⟨"java/lang/AbstractStringBuilder", "newCapacity", "(I)I"⟩ : MethodName)) (tw171 H.1) (declOf (tw172 H.1) (tw175 H.1)) (tw174 H.1) (tw172 H.1) (nfSel (tw174 H.1)) (by decide) E1 (g := (mkF m 24 #[.val (.ref b1), .val (.int (Int32.ofNat m1)), .val (.int (16 : Int32))] [(.int (Int32.ofNat m1)), (.ref b1), (.ref t1), (.ref b1)])) rfl (by rw [hml]; rfl) [(.int (Int32.ofNat m1))] [(.ref t1), (.ref b1)] (lenOf pd_6 rfl) rfl (Wd := 2) (by show 2 * 0 + _ ≤ _; exact Nat.le_of_eq rfl) (hb hby d13_24) (by decide) (by decide) [] (fun _ _ _ q => q.2) all0 (fun vm0 hZ => payN (ct_newcap H b1 t1 kb xs m1 A35.old F2 F3 Vt (Nat.lt_of_not_le c34) hm2) (tw175 H.1) (tw65 H.1) (by decide) (by decide) hZ)
      obtain ⟨Q36, N36, -⟩ := Q36
      obtain ⟨rfl, q36⟩ := Q36
      have q36 := q36.symm
      subst q36
      have A36 := AA36 [] all0
      refine Run.st (T36.setTop (mkF m 27 #[.val (.ref b1), .val (.int (Int32.ofNat m1)), .val (.int (16 : Int32))] [(.int (34 : Int32)), (.ref t1), (.ref b1)])) st36 ?_
      refine Run.st (T36.setTop (mkF m 28 #[.val (.ref b1), .val (.int (Int32.ofNat m1)), .val (.int (16 : Int32))] [(.ref b1), (.int (34 : Int32)), (.ref t1), (.ref b1)])) (fun _ k => XS.aloadN A36.here hx rfl (hb hby d13_27) rfl rfl k) ?_
      obtain ⟨T37, A37, st37⟩ := A36.getF hx (tw71 H.1) Via.refl F2 (g := (mkF m 28 #[.val (.ref b1), .val (.int (Int32.ofNat m1)), .val (.int (16 : Int32))] [(.ref b1), (.int (34 : Int32)), (.ref t1), (.ref b1)])) rfl rfl (hb hby d13_28)
      refine Run.st (T37.setTop (mkF m 31 #[.val (.ref b1), .val (.int (Int32.ofNat m1)), .val (.int (16 : Int32))] [(.int (0 : Int32)), (.int (34 : Int32)), (.ref t1), (.ref b1)])) st37 ?_
      refine Run.st (T37.setTop (mkF m 32 #[.val (.ref b1), .val (.int (Int32.ofNat m1)), .val (.int (16 : Int32))] [(.int ((34 : Int32) <<< ((0 : Int32) &&& 31))), (.ref t1), (.ref b1)])) (fun _ k => XS.ishl A37.here hx rfl (hb hby d13_31) rfl k) ?_
      rw [show ((34 : Int32) <<< ((0 : Int32) &&& 31)) = (34 : Int32) from shl0 (34 : Int32)]
      obtain ⟨v38, T38, h38, AA38, K38, ⟨L38, Q38⟩, st38⟩ := A37.callS hx (tw185 H.1) (tw186 H.1) (tw157 H.1) (tw187 H.1) (by decide) (g := (mkF m 32 #[.val (.ref b1), .val (.int (Int32.ofNat m1)), .val (.int (16 : Int32))] [(.int (34 : Int32)), (.ref t1), (.ref b1)])) rfl (by rw [hml]; rfl) [(.ref t1), (.int (34 : Int32))] [(.ref b1)] (lenOf pd_7 rfl) rfl (Wd := 1) (by show 2 * 0 + _ ≤ _; exact Nat.le_of_eq rfl) (hb hby d13_32) (by decide) (by decide) [] (fun _ _ _ q => q.2) all0 (fun vm0 hZ => payN (ct_copyof H t1 kb xs A37.old Vt hxn) (tw187 H.1) (tw157 H.1) (by decide) (by decide) hZ)
      obtain ⟨Q38, N38, -⟩ := Q38
      obtain ⟨t38, kt38, rfl, lt38, X38, Vn38⟩ := Q38
      have A38 := AA38 [] all0
      refine Run.st (T38.setTop (mkF m 35 #[.val (.ref b1), .val (.int (Int32.ofNat m1)), .val (.int (16 : Int32))] [(.ref t38), (.ref b1)])) st38 ?_
      have X40 : Ext h0 h38 := X38
      have f41 := F3.ext X40
      have f42 := E1.ext X40
      obtain ⟨T39, h39, A39, K39, W39, st39⟩ := A38.putF hx (tw69 H.1) Via.refl (a := b1) (List.mem_of_getElem? (i := 0) rfl) (v' := (.ref t38)) f41 f42 (Or.inl (tw70 H.1)) (tw56 H.1) (ty := (.array .byte)) (by decide) rfl rfl (g := (mkF m 35 #[.val (.ref b1), .val (.int (Int32.ofNat m1)), .val (.int (16 : Int32))] [(.ref t38), (.ref b1)])) rfl rfl (hb hby d13_35)
      have F39 : Fld Z h39 b1 "java/lang/AbstractStringBuilder" "value" "[B" (.ref t38) := f41.same W39
      refine Run.st (T39.setTop (mkF m 38 #[.val (.ref b1), .val (.int (Int32.ofNat m1)), .val (.int (16 : Int32))] [])) st39 ?_
      have f43 := (Vn38.keep K39 (ninS (Ne.symm (Exa.neArv f42 Vn38 (tw56 H.1))) nin0))
      have f44 := ((E1.ext X38).wr W39)
      have f45 := ((F1.ext X38).other W39 (Or.inr (slot_ne (Or.inl (tw97 H.1)) (Or.inl (tw70 H.1)) (by decide) (t := .int) (t' := (.array .byte)) (by decide) (by decide))))
      have f46 := ((F2.ext X38).other W39 (Or.inr (slot_ne (Or.inl (tw72 H.1)) (Or.inl (tw70 H.1)) (by decide) (t := .byte) (t' := (.array .byte)) (by decide) (by decide))))
      exact A39.leaveN hlk none (fun _ => rfl) (by decide) (by decide) ⟨rfl, t38, kt38, 34, Or.inr ⟨lt38, f43.lt⟩, Or.inr rfl, hm2, f44, F39, f45, f46, by omega, f43⟩ (fun X hr => X.returnOut hx hrt (hb hby d13_38) hr)
  · have Vt : Arv Z h0 t1 kb .byte (34 : Int32) (bs xs) (.int 0) := Vt
    refine Run.st (T0.setTop (mkF m 1 #[.val (.ref b1), .val (.int (Int32.ofNat m1)), .unset] [(.ref b1)])) (fun _ k => XS.aloadN A0.here hx rfl (hb hby d13_0) rfl rfl k) ?_
    obtain ⟨T47, A47, st47⟩ := A0.getF hx (tw69 H.1) Via.refl F3 (g := (mkF m 1 #[.val (.ref b1), .val (.int (Int32.ofNat m1)), .unset] [(.ref b1)])) rfl rfl (hb hby d13_1)
    refine Run.st (T47.setTop (mkF m 4 #[.val (.ref b1), .val (.int (Int32.ofNat m1)), .unset] [(.ref t1)])) st47 ?_
    refine Run.st (T47.setTop (mkF m 5 #[.val (.ref b1), .val (.int (Int32.ofNat m1)), .unset] [(.int (34 : Int32))])) (A47.alen hx Vt (g := (mkF m 4 #[.val (.ref b1), .val (.int (Int32.ofNat m1)), .unset] [(.ref t1)])) rfl rfl (hb hby d13_4)) ?_
    refine Run.st (T47.setTop (mkF m 6 #[.val (.ref b1), .val (.int (Int32.ofNat m1)), .unset] [(.ref b1), (.int (34 : Int32))])) (fun _ k => XS.aloadN A47.here hx rfl (hb hby d13_5) rfl rfl k) ?_
    obtain ⟨T48, A48, st48⟩ := A47.getF hx (tw71 H.1) Via.refl F2 (g := (mkF m 6 #[.val (.ref b1), .val (.int (Int32.ofNat m1)), .unset] [(.ref b1), (.int (34 : Int32))])) rfl rfl (hb hby d13_6)
    refine Run.st (T48.setTop (mkF m 9 #[.val (.ref b1), .val (.int (Int32.ofNat m1)), .unset] [(.int (0 : Int32)), (.int (34 : Int32))])) st48 ?_
    refine Run.st (T48.setTop (mkF m 10 #[.val (.ref b1), .val (.int (Int32.ofNat m1)), .unset] [(.int ((34 : Int32) >>> ((0 : Int32) &&& 31)))])) (fun _ k => XS.ishr A48.here hx rfl (hb hby d13_9) rfl k) ?_
    rw [show ((34 : Int32) >>> ((0 : Int32) &&& 31)) = (34 : Int32) from shr0 (34 : Int32)]
    refine Run.st (T48.setTop (mkF m 38 #[.val (.ref b1), .val (.int (Int32.ofNat m1)), .val (.int (34 : Int32))] [])) (fun _ k => XS.istoreN A48.here hx rfl (hb hby d13_10) rfl (l' := #[.val (.ref b1), .val (.int (Int32.ofNat m1)), .val (.int (34 : Int32))]) rfl (XS.iloadN A48.here hx rfl (hb hby d13_11) rfl (XS.iloadN A48.here hx rfl (hb hby d13_12) rfl (XS.isub A48.here hx rfl (hb hby d13_13) rfl (XS.ifYes A48.here hx rfl (pc0 := 14) (pc' := 38) rfl (hb hby d13_14) rfl (by rw [if0]; exact (flt (n_suble (b := 34) hm2 (by decide))).2.2.2) (by decide) (by decide) k))))) ?_
    exact A48.leaveN hlk none (fun _ => rfl) (by decide) (by decide) ⟨rfl, t1, kb, 34, Or.inl rfl, Or.inr rfl, hm2, E1, F3, F1, F2, by omega, Vt⟩ (fun X hr => X.returnOut hx hrt (hb hby d13_38) hr)
theorem ef_asbapp (m : MethodId) (y0 : Addr) (y1 : Addr) : entryFrame m #[(.ref y0), (.ref y1)] 3 = mkF m 0 #[.val (.ref y0), .val (.ref y1), .unset] [] := by first | (simp [entryFrame, mkF, argsToLocals, Value.category, maxLocals]; done) | rfl
def Q_asbapp (Z : State) (b1 : Addr) (t1 : Addr) (xs : List Int32) (s1 : Addr) (c1 : List Int32) (h0 : Heap) (v : Option Value) (h : Heap) : Prop := v = some (.ref b1) ∧ ∃ t : Addr, (t = t1 ∨ h0.size ≤ t ∧ t < h.size) ∧ SBA Z h b1 t (xs ++ c1)
def rm_asbapp : Room := { frames := 4, cells := 1, slots := 34, locals := 62 }
set_option maxRecDepth 65536 in
set_option maxHeartbeats 40000000 in
theorem ct_asbapp {l : Launch} {Z : State} {a0 : Array Value} (H : Ev Z a0) (b1 : Addr) (t1 : Addr) (xs : List Int32) (s1 : Addr) (c1 : List Int32) {h0 : Heap} {n0 : Nat} (O0 : Old Z n0 h0) (B1 : SBA Z h0 b1 t1 xs) (S1 : StrA Z h0 s1 c1) (hm2 : xs.length + c1.length ≤ 34) (g_b1 : n0 ≤ b1) (z_b1 : b1 < h0.size) (g_t1 : n0 ≤ t1) (z_t1 : t1 < h0.size) : CtrN l Z (⟨"java/lang/AbstractStringBuilder", "append", "(Ljava/lang/String;)Ljava/lang/AbstractStringBuilder;"⟩ : MethodName) jdk_68_method_22_code 3 (some (.object "java/lang/AbstractStringBuilder")) [] rm_asbapp #[(.ref b1), (.ref s1)] h0 [b1, t1] n0 (Q_asbapp Z b1 t1 xs s1 c1 h0) := by
  refine enterN (a0 := a0) (plainFor_of_name pn_1) O0 (allS ⟨g_b1, z_b1⟩ (allS ⟨g_t1, z_t1⟩ all0)) ?_
  intro p e s m below meth c T0 hx hby hml hrt hnm hlk A0
  replace A0 : Wk false Z a0 [] n0 h0 [b1, t1] "java/lang/AbstractStringBuilder" p l e rm_asbapp s m #[(.ref b1), (.ref s1)] below meth c [b1, t1] T0 h0 0 0 := A0
  refine Run.st (T0.setTop (mkF m 0 #[.val (.ref b1), .val (.ref s1), .unset] [])) (fun _ k => castTop (ef_asbapp m b1 s1) k) ?_
  obtain ⟨E1, F3, F1, F2, ⟨kb, n1, hn, hxn, Vt⟩, hcx⟩ := B1
  refine Run.st (T0.setTop (mkF m 10 #[.val (.ref b1), .val (.ref s1), .unset] [(.ref s1)])) (fun _ k => XS.aloadN A0.here hx rfl (hb hby d14_0) rfl rfl (XS.ifnonnullYes A0.here hx rfl (pc0 := 1) (pc' := 9) rfl (hb hby d14_1) rfl (by decide) (by decide) (XS.aloadN A0.here hx rfl (hb hby d14_9) rfl rfl k))) ?_
  obtain ⟨v49, T49, h49, AA49, K49, ⟨L49, Q49⟩, st49⟩ := A0.callV hx (y := (⟨"java/lang/String", "length", "()I"⟩ : MethodName)) (z := (⟨"java/lang/String", "length", "()I"⟩ : MethodName)) (tw86 H.1) (tw87 H.1) (tw89 H.1) (tw88 H.1) (nfSel (tw89 H.1)) (by decide) S1.1 (g := (mkF m 10 #[.val (.ref b1), .val (.ref s1), .unset] [(.ref s1)])) rfl (by rw [hml]; rfl) [] [] (lenOf pd_0 rfl) rfl (Wd := 0) (by show 2 * 0 + _ ≤ _; exact Nat.le_of_eq rfl) (hb hby d14_10) (by decide) (by decide) [] (fun _ _ _ q => by obtain ⟨⟨-, rfl⟩, rfl⟩ := q; exact ⟨Fr.nil _, Keep.refl _ _⟩) all0 (fun vm0 hZ => payLen H A0.old S1 (by decide) (by decide) hZ)
  obtain ⟨⟨rfl, q49⟩, -⟩ := Q49
  have q49 := q49.symm
  subst q49
  have A49 := AA49 [] all0
  refine Run.st (T49.setTop (mkF m 13 #[.val (.ref b1), .val (.ref s1), .unset] [(.int (Int32.ofNat c1.length))])) st49 ?_
  refine Run.st (T49.setTop (mkF m 16 #[.val (.ref b1), .val (.ref s1), .val (.int (Int32.ofNat c1.length))] [(.ref b1), (.ref b1)])) (fun _ k => XS.istoreN A49.here hx rfl (hb hby d14_13) rfl (l' := #[.val (.ref b1), .val (.ref s1), .val (.int (Int32.ofNat c1.length))]) rfl (XS.aloadN A49.here hx rfl (hb hby d14_14) rfl rfl (XS.aloadN A49.here hx rfl (hb hby d14_15) rfl rfl k))) ?_
  obtain ⟨T50, A50, st50⟩ := A49.getF hx (tw96 H.1) Via.refl F1 (g := (mkF m 16 #[.val (.ref b1), .val (.ref s1), .val (.int (Int32.ofNat c1.length))] [(.ref b1), (.ref b1)])) rfl rfl (hb hby d14_16)
  refine Run.st (T50.setTop (mkF m 19 #[.val (.ref b1), .val (.ref s1), .val (.int (Int32.ofNat c1.length))] [(.int (Int32.ofNat xs.length)), (.ref b1)])) st50 ?_
  refine Run.st (T50.setTop (mkF m 20 #[.val (.ref b1), .val (.ref s1), .val (.int (Int32.ofNat c1.length))] [(.int (Int32.ofNat c1.length)), (.int (Int32.ofNat xs.length)), (.ref b1)])) (fun _ k => XS.iloadN A50.here hx rfl (hb hby d14_19) rfl k) ?_
  refine Run.st (T50.setTop (mkF m 21 #[.val (.ref b1), .val (.ref s1), .val (.int (Int32.ofNat c1.length))] [(.int ((Int32.ofNat xs.length) + (Int32.ofNat c1.length))), (.ref b1)])) (fun _ k => XS.iadd A50.here hx rfl (hb hby d14_20) rfl k) ?_
  rw [show ((Int32.ofNat xs.length) + (Int32.ofNat c1.length)) = (Int32.ofNat (xs.length + c1.length)) from n_add xs.length c1.length]
  obtain ⟨v51, T51, h51, AA51, K51, ⟨L51, Q51⟩, st51⟩ := A50.callV hx (y := (⟨"java/lang/AbstractStringBuilder", "ensureCapacityInternal", "(I)V"⟩ : MethodName)) (z := (⟨"java/lang/AbstractStringBuilder", "ensureCapacityInternal", "(I)V"⟩ : MethodName)) (tw98 H.1) (declOf (tw99 H.1) (tw102 H.1)) (tw101 H.1) (tw99 H.1) (nfSel (tw101 H.1)) (by decide) E1 (g := (mkF m 21 #[.val (.ref b1), .val (.ref s1), .val (.int (Int32.ofNat c1.length))] [(.int (Int32.ofNat (xs.length + c1.length))), (.ref b1)])) rfl (by rw [hml]; rfl) [(.int (Int32.ofNat (xs.length + c1.length)))] [] (lenOf pd_8 rfl) rfl (Wd := 0) (by show 2 * 0 + _ ≤ _; exact Nat.le_of_eq rfl) (hb hby d14_21) (by decide) (by decide) [b1] (fun _ _ _ q => q.2) (allS (List.mem_of_getElem? (i := 0) rfl) all0) (fun vm0 hZ => payN (ct_ensure H b1 t1 kb n1 xs (Int32.ofNat xs.length) (xs.length + c1.length) A50.old E1 F2 F3 F1 Vt hn hxn hm2 (A50.nle (List.mem_of_getElem? (i := 0) rfl)) E1.lt) (tw102 H.1) (tw65 H.1) (by decide) (by decide) hZ)
  obtain ⟨Q51, N51, -⟩ := Q51
  obtain ⟨rfl, t51, kt51, n51, ho51, hn51, hm51, Ee51, Fe51, Fc51, Fk51, hx51, Ve51⟩ := Q51
  have A51 := AA51 [t51] (allS (tcase ho51 (List.mem_of_getElem? (i := 1) rfl)) all0)
  refine Run.st (T51.setTop (mkF m 24 #[.val (.ref b1), .val (.ref s1), .val (.int (Int32.ofNat c1.length))] [])) st51 ?_
  refine Run.st (T51.setTop (mkF m 26 #[.val (.ref b1), .val (.ref s1), .val (.int (Int32.ofNat c1.length))] [(.ref b1), (.ref b1)])) (fun _ k => XS.aloadN A51.here hx rfl (hb hby d14_24) rfl rfl (XS.aloadN A51.here hx rfl (hb hby d14_25) rfl rfl k)) ?_
  obtain ⟨T52, A52, st52⟩ := A51.getF hx (tw96 H.1) Via.refl Fc51 (g := (mkF m 26 #[.val (.ref b1), .val (.ref s1), .val (.int (Int32.ofNat c1.length))] [(.ref b1), (.ref b1)])) rfl rfl (hb hby d14_26)
  refine Run.st (T52.setTop (mkF m 29 #[.val (.ref b1), .val (.ref s1), .val (.int (Int32.ofNat c1.length))] [(.int (Int32.ofNat xs.length)), (.ref b1)])) st52 ?_
  refine Run.st (T52.setTop (mkF m 30 #[.val (.ref b1), .val (.ref s1), .val (.int (Int32.ofNat c1.length))] [(.ref s1), (.int (Int32.ofNat xs.length)), (.ref b1)])) (fun _ k => XS.aloadN A52.here hx rfl (hb hby d14_29) rfl rfl k) ?_
  have f54 := (StrA.keepO S1 K51 E1 (by decide) (tw56 H.1))
  obtain ⟨v53, T53, h53, AA53, K53, ⟨L53, Q53⟩, st53⟩ := A52.callV hx (y := (⟨"java/lang/AbstractStringBuilder", "putStringAt", "(ILjava/lang/String;)V"⟩ : MethodName)) (z := (⟨"java/lang/AbstractStringBuilder", "putStringAt", "(ILjava/lang/String;)V"⟩ : MethodName)) (tw103 H.1) (declOf (tw104 H.1) (tw107 H.1)) (tw106 H.1) (tw104 H.1) (nfSel (tw106 H.1)) (by decide) Ee51 (g := (mkF m 30 #[.val (.ref b1), .val (.ref s1), .val (.int (Int32.ofNat c1.length))] [(.ref s1), (.int (Int32.ofNat xs.length)), (.ref b1)])) rfl (by rw [hml]; rfl) [(.int (Int32.ofNat xs.length)), (.ref s1)] [] (lenOf pd_9 rfl) rfl (Wd := 0) (by show 2 * 0 + _ ≤ _; exact Nat.le_of_eq rfl) (hb hby d14_30) (by decide) (by decide) [t51] (fun _ _ _ q => q.2) (allS (List.mem_of_getElem? (i := 0) rfl) all0) (fun vm0 hZ => payN (ct_puts H b1 t51 kt51 n51 xs s1 c1 A52.old Ee51 Fk51 Fe51 Ve51 hm51 (by omega) f54 (A52.nle (List.mem_of_getElem? (i := 0) rfl)) Ve51.lt) (tw107 H.1) (tw65 H.1) (by decide) (by decide) hZ)
  obtain ⟨Q53, N53, -⟩ := Q53
  obtain ⟨rfl, Vb53⟩ := Q53
  have A53 := AA53 [] all0
  refine Run.st (T53.setTop (mkF m 33 #[.val (.ref b1), .val (.ref s1), .val (.int (Int32.ofNat c1.length))] [])) st53 ?_
  refine Run.st (T53.setTop (mkF m 35 #[.val (.ref b1), .val (.ref s1), .val (.int (Int32.ofNat c1.length))] [(.ref b1), (.ref b1)])) (fun _ k => XS.aloadN A53.here hx rfl (hb hby d14_33) rfl rfl (XS.dup A53.here hx rfl (hb hby d14_34) rfl rfl k)) ?_
  have f56 := (Fc51.keep K53 (ninS (Exa.neArv Ee51 Ve51 (tw56 H.1)) nin0))
  obtain ⟨T55, A55, st55⟩ := A53.getF hx (tw96 H.1) Via.refl f56 (g := (mkF m 35 #[.val (.ref b1), .val (.ref s1), .val (.int (Int32.ofNat c1.length))] [(.ref b1), (.ref b1)])) rfl rfl (hb hby d14_35)
  refine Run.st (T55.setTop (mkF m 38 #[.val (.ref b1), .val (.ref s1), .val (.int (Int32.ofNat c1.length))] [(.int (Int32.ofNat xs.length)), (.ref b1)])) st55 ?_
  refine Run.st (T55.setTop (mkF m 39 #[.val (.ref b1), .val (.ref s1), .val (.int (Int32.ofNat c1.length))] [(.int (Int32.ofNat c1.length)), (.int (Int32.ofNat xs.length)), (.ref b1)])) (fun _ k => XS.iloadN A55.here hx rfl (hb hby d14_38) rfl k) ?_
  refine Run.st (T55.setTop (mkF m 40 #[.val (.ref b1), .val (.ref s1), .val (.int (Int32.ofNat c1.length))] [(.int ((Int32.ofNat xs.length) + (Int32.ofNat c1.length))), (.ref b1)])) (fun _ k => XS.iadd A55.here hx rfl (hb hby d14_39) rfl k) ?_
  rw [show ((Int32.ofNat xs.length) + (Int32.ofNat c1.length)) = (Int32.ofNat (xs.length + c1.length)) from n_add xs.length c1.length]
  have f58 := (Ee51.keep K53)
  obtain ⟨T57, h57, A57, K57, W57, st57⟩ := A55.putF hx (tw96 H.1) Via.refl (a := b1) (List.mem_of_getElem? (i := 1) rfl) (v' := (.int (Int32.ofNat (xs.length + c1.length)))) f56 f58 (Or.inl (tw97 H.1)) (tw56 H.1) (ty := .int) (by decide) rfl rfl (g := (mkF m 40 #[.val (.ref b1), .val (.ref s1), .val (.int (Int32.ofNat c1.length))] [(.int (Int32.ofNat (xs.length + c1.length))), (.ref b1)])) rfl rfl (hb hby d14_40)
  have F57 : Fld Z h57 b1 "java/lang/AbstractStringBuilder" "count" "I" (.int (Int32.ofNat (xs.length + c1.length))) := f56.same W57
  refine Run.st (T57.setTop (mkF m 43 #[.val (.ref b1), .val (.ref s1), .val (.int (Int32.ofNat c1.length))] [])) st57 ?_
  refine Run.st (T57.setTop (mkF m 44 #[.val (.ref b1), .val (.ref s1), .val (.int (Int32.ofNat c1.length))] [(.ref b1)])) (fun _ k => XS.aloadN A57.here hx rfl (hb hby d14_43) rfl rfl k) ?_
  have f59 := (Vb53.keep K57 (ninS (Ne.symm (Exa.neArv f58 Vb53 (tw56 H.1))) nin0))
  have f60 := ((Ee51.keep K53).wr W57)
  have f61 := ((Fe51.keep K53 (ninS (Exa.neArv Ee51 Ve51 (tw56 H.1)) nin0)).other W57 (Or.inr (slot_ne (Or.inl (tw70 H.1)) (Or.inl (tw97 H.1)) (by decide) (t := (.array .byte)) (t' := .int) (by decide) (by decide))))
  have f62 := ((Fk51.keep K53 (ninS (Exa.neArv Ee51 Ve51 (tw56 H.1)) nin0)).other W57 (Or.inr (slot_ne (Or.inl (tw72 H.1)) (Or.inl (tw97 H.1)) (by decide) (t := .byte) (t' := .int) (by decide) (by decide))))
  exact A57.leaveN hlk (some (.ref b1)) (fun q => by rw [hrt] at q; cases q) (by decide) (by decide) ⟨rfl, t51, ho51.imp id (fun q => ⟨Nat.le_trans (Nat.le_refl _) q.1, f59.lt⟩), f60, f61, by rw [List.length_append]; exact F57, f62, ⟨_, _, hn51, by rw [List.length_append]; exact hm51, f59⟩, fun c hc => (List.mem_append.mp hc).elim (hcx c) (S1.2.2.2.1 c)⟩ (fun X hr => retOut X hx (w := (.ref b1)) (t := (.object "java/lang/AbstractStringBuilder")) hrt rfl (Or.inr (Or.inr (Or.inr (Or.inr ⟨rfl, rfl, rfl⟩)))) (hb hby d14_44) hr)
theorem ef_sbapp (m : MethodId) (y0 : Addr) (y1 : Addr) : entryFrame m #[(.ref y0), (.ref y1)] 2 = mkF m 0 #[.val (.ref y0), .val (.ref y1)] [] := by first | (simp [entryFrame, mkF, argsToLocals, Value.category, maxLocals]; done) | rfl
def Q_sbapp (Z : State) (b1 : Addr) (t1 : Addr) (xs : List Int32) (s1 : Addr) (c1 : List Int32) (h0 : Heap) (v : Option Value) (h : Heap) : Prop := v = some (.ref b1) ∧ ∃ t : Addr, (t = t1 ∨ h0.size ≤ t ∧ t < h.size) ∧ SBA Z h b1 t (xs ++ c1)
def rm_sbapp : Room := { frames := 5, cells := 1, slots := 34, locals := 76 }
set_option maxRecDepth 65536 in
set_option maxHeartbeats 40000000 in
theorem ct_sbapp {l : Launch} {Z : State} {a0 : Array Value} (H : Ev Z a0) (b1 : Addr) (t1 : Addr) (xs : List Int32) (s1 : Addr) (c1 : List Int32) {h0 : Heap} {n0 : Nat} (O0 : Old Z n0 h0) (B1 : SBA Z h0 b1 t1 xs) (S1 : StrA Z h0 s1 c1) (hm2 : xs.length + c1.length ≤ 34) (g_b1 : n0 ≤ b1) (z_b1 : b1 < h0.size) (g_t1 : n0 ≤ t1) (z_t1 : t1 < h0.size) : CtrN l Z (⟨"java/lang/StringBuilder", "append", "(Ljava/lang/String;)Ljava/lang/StringBuilder;"⟩ : MethodName) jdk_67_method_7_code 2 (some (.object "java/lang/StringBuilder")) [] rm_sbapp #[(.ref b1), (.ref s1)] h0 [b1, t1] n0 (Q_sbapp Z b1 t1 xs s1 c1 h0) := by
  refine enterN (a0 := a0) (plainFor_of_name pn_2) O0 (allS ⟨g_b1, z_b1⟩ (allS ⟨g_t1, z_t1⟩ all0)) ?_
  intro p e s m below meth c T0 hx hby hml hrt hnm hlk A0
  replace A0 : Wk false Z a0 [] n0 h0 [b1, t1] "java/lang/StringBuilder" p l e rm_sbapp s m #[(.ref b1), (.ref s1)] below meth c [b1, t1] T0 h0 0 0 := A0
  refine Run.st (T0.setTop (mkF m 0 #[.val (.ref b1), .val (.ref s1)] [])) (fun _ k => castTop (ef_sbapp m b1 s1) k) ?_
  refine Run.st (T0.setTop (mkF m 2 #[.val (.ref b1), .val (.ref s1)] [(.ref s1), (.ref b1)])) (fun _ k => XS.aloadN A0.here hx rfl (hb hby d15_0) rfl rfl (XS.aloadN A0.here hx rfl (hb hby d15_1) rfl rfl k)) ?_
  obtain ⟨v63, T63, h63, AA63, K63, ⟨L63, Q63⟩, st63⟩ := A0.callSup hx (y := (⟨"java/lang/AbstractStringBuilder", "append", "(Ljava/lang/String;)Ljava/lang/AbstractStringBuilder;"⟩ : MethodName)) (tw81 H.1) (sameOf (tw84 H.1) (nfSelC (tw101 H.1) rfl) (by decide)) (tw82 H.1) (tw83 H.1) (tw85 H.1) (by decide) (g := (mkF m 2 #[.val (.ref b1), .val (.ref s1)] [(.ref s1), (.ref b1)])) rfl (by rw [hml]; rfl) (Ins.self B1.1) [(.ref s1)] [] (lenOf pd_10 rfl) rfl (Wd := 0) (by show 2 * 0 + _ ≤ _; exact Nat.le_of_eq rfl) (hb hby d15_2) (by decide) (by decide) [b1, t1] (fun _ _ _ q => q.2) (allS (List.mem_of_getElem? (i := 0) rfl) (allS (List.mem_of_getElem? (i := 1) rfl) all0)) (fun vm0 hZ => payN (ct_asbapp H b1 t1 xs s1 c1 A0.old B1 S1 hm2 (A0.nle (List.mem_of_getElem? (i := 0) rfl)) B1.lt (A0.nle (List.mem_of_getElem? (i := 1) rfl)) B1.tlt) (tw85 H.1) (tw65 H.1) (by decide) (by decide) hZ)
  obtain ⟨Q63, N63, -⟩ := Q63
  obtain ⟨rfl, t63, ho63, B63⟩ := Q63
  have A63 := AA63 [t63] (allS (tcase ho63 (List.mem_of_getElem? (i := 1) rfl)) all0)
  refine Run.st (T63.setTop (mkF m 5 #[.val (.ref b1), .val (.ref s1)] [(.ref b1)])) st63 ?_
  refine Run.st (T63.setTop (mkF m 7 #[.val (.ref b1), .val (.ref s1)] [(.ref b1)])) (fun _ k => XS.pop A63.here hx rfl (hb hby d15_5) rfl rfl (XS.aloadN A63.here hx rfl (hb hby d15_6) rfl rfl k)) ?_
  exact A63.leaveN hlk (some (.ref b1)) (fun q => by rw [hrt] at q; cases q) (by decide) (by decide) ⟨rfl, t63, ho63, B63⟩ (fun X hr => retOut X hx (w := (.ref b1)) (t := (.object "java/lang/StringBuilder")) hrt rfl (Or.inr (Or.inr (Or.inr (Or.inr ⟨rfl, rfl, rfl⟩)))) (hb hby d15_7) hr)
theorem ef_asbini (m : MethodId) (y0 : Addr) (y1 : Int32) : entryFrame m #[(.ref y0), (.int y1)] 2 = mkF m 0 #[.val (.ref y0), .val (.int y1)] [] := by first | (simp [entryFrame, mkF, argsToLocals, Value.category, maxLocals]; done) | rfl
def Q_asbini (Z : State) (b1 : Addr) (u2 : Value) (u3 : Value) (h0 : Heap) (v : Option Value) (h : Heap) : Prop := v = none ∧ ∃ t : Addr, (h0.size ≤ t ∧ t < h.size) ∧ SBA Z h b1 t []
def rm_asbini : Room := { frames := 1, cells := 1, slots := 16, locals := 12 }
set_option maxRecDepth 65536 in
set_option maxHeartbeats 40000000 in
theorem ct_asbini {l : Launch} {Z : State} {a0 : Array Value} (H : Ev Z a0) (b1 : Addr) (u2 : Value) (u3 : Value) {h0 : Heap} {n0 : Nat} (O0 : Old Z n0 h0) (E1 : Exa Z h0 b1 "java/lang/StringBuilder") (g_b1 : n0 ≤ b1) (z_b1 : b1 < h0.size) (F1 : Fld Z h0 b1 "java/lang/AbstractStringBuilder" "count" "I" (.int 0)) (F2 : Fld Z h0 b1 "java/lang/AbstractStringBuilder" "coder" "B" u2) (F3 : Fld Z h0 b1 "java/lang/AbstractStringBuilder" "value" "[B" u3) : CtrN l Z (⟨"java/lang/AbstractStringBuilder", "<init>", "(I)V"⟩ : MethodName) jdk_68_method_2_code 2 none [] rm_asbini #[(.ref b1), (.int (16 : Int32))] h0 [b1] n0 (Q_asbini Z b1 u2 u3 h0) := by
  refine enterN (a0 := a0) (plainFor_of_name pn_1) O0 (allS ⟨g_b1, z_b1⟩ all0) ?_
  intro p e s m below meth c T0 hx hby hml hrt hnm hlk A0
  replace A0 : Wk false Z a0 [] n0 h0 [b1] "java/lang/AbstractStringBuilder" p l e rm_asbini s m #[(.ref b1), (.int (16 : Int32))] below meth c [b1] T0 h0 0 0 := A0
  refine Run.st (T0.setTop (mkF m 0 #[.val (.ref b1), .val (.int (16 : Int32))] [])) (fun _ k => castTop (ef_asbini m b1 (16 : Int32)) k) ?_
  obtain ⟨zc, Sc, hzc⟩ := H.2.1
  refine Run.st (T0.setTop (mkF m 1 #[.val (.ref b1), .val (.int (16 : Int32))] [(.ref b1)])) (fun _ k => XS.aloadN A0.here hx rfl (hb hby d16_0) rfl rfl k) ?_
  obtain ⟨T64, A64, st64⟩ := A0.initO hx (tw67 H.1) (tw12 H.1) (tw13 H.1) (g := (mkF m 1 #[.val (.ref b1), .val (.int (16 : Int32))] [(.ref b1)])) rfl (by rw [hml]; rfl) rfl (hb hby d16_1) (by decide) (Wd := 0) (by show 2 * 0 + _ ≤ _; exact Nat.le_of_eq rfl) (by decide)
  refine Run.st (T64.setTop (mkF m 4 #[.val (.ref b1), .val (.int (16 : Int32))] [])) st64 ?_
  obtain ⟨T65, A65, st65⟩ := A64.getS hx (tw68 H.1) Via.refl (Sc.ext A64.old.2) (g := (mkF m 4 #[.val (.ref b1), .val (.int (16 : Int32))] [])) rfl (hb hby d16_4)
  refine Run.st (T65.setTop (mkF m 7 #[.val (.ref b1), .val (.int (16 : Int32))] [(.int zc)])) st65 ?_
  refine Run.st (T65.setTop (mkF m 12 #[.val (.ref b1), .val (.int (16 : Int32))] [(.int (16 : Int32)), (.ref b1)])) (fun _ k => XS.ifNo A65.here hx rfl (hb hby d16_7) rfl (by rw [if0]; exact (feq hzc).1) (XS.aloadN A65.here hx rfl (hb hby d16_10) rfl rfl (XS.iloadN A65.here hx rfl (hb hby d16_11) rfl k))) ?_
  obtain ⟨a66, T66, h66, kA66, A66, E66, g66, V66, st66⟩ := A65.newP hx (aty := .byte) (N := (16 : Int32)) (tw19 H.1) (g := (mkF m 12 #[.val (.ref b1), .val (.int (16 : Int32))] [(.int (16 : Int32)), (.ref b1)])) rfl (hb hby d16_12) rfl (by decide) (cap := 16) (by decide) (by decide) (by decide) (by decide)
  refine Run.st (T66.setTop (mkF m 14 #[.val (.ref b1), .val (.int (16 : Int32))] [(.ref a66), (.ref b1)])) st66 ?_
  have X68 : Ext h0 h66 := E66
  have f69 := F3.ext X68
  have f70 := E1.ext X68
  obtain ⟨T67, h67, A67, K67, W67, st67⟩ := A66.putF hx (tw69 H.1) Via.refl (a := b1) (List.mem_of_getElem? (i := 1) rfl) (v' := (.ref a66)) f69 f70 (Or.inl (tw70 H.1)) (tw56 H.1) (ty := (.array .byte)) (by decide) rfl rfl (g := (mkF m 14 #[.val (.ref b1), .val (.int (16 : Int32))] [(.ref a66), (.ref b1)])) rfl rfl (hb hby d16_14)
  have F67 : Fld Z h67 b1 "java/lang/AbstractStringBuilder" "value" "[B" (.ref a66) := f69.same W67
  refine Run.st (T67.setTop (mkF m 17 #[.val (.ref b1), .val (.int (16 : Int32))] [])) st67 ?_
  refine Run.st (T67.setTop (mkF m 19 #[.val (.ref b1), .val (.int (16 : Int32))] [(.int (0 : Int32)), (.ref b1)])) (fun _ k => XS.aloadN A67.here hx rfl (hb hby d16_17) rfl rfl (XS.iconst A67.here hx rfl (hb hby d16_18) k)) ?_
  have f72 := ((F2.ext E66).other W67 (Or.inr (slot_ne (Or.inl (tw72 H.1)) (Or.inl (tw70 H.1)) (by decide) (t := .byte) (t' := (.array .byte)) (by decide) (by decide))))
  have f73 := ((E1.ext E66).wr W67)
  obtain ⟨T71, h71, A71, K71, W71, st71⟩ := A67.putF hx (tw71 H.1) Via.refl (a := b1) (List.mem_of_getElem? (i := 1) rfl) (v' := (.int (0 : Int32))) f72 f73 (Or.inl (tw72 H.1)) (tw56 H.1) (ty := .byte) (by decide) rfl rfl (g := (mkF m 19 #[.val (.ref b1), .val (.int (16 : Int32))] [(.int (0 : Int32)), (.ref b1)])) rfl rfl (hb hby d16_19)
  have F71 : Fld Z h71 b1 "java/lang/AbstractStringBuilder" "coder" "B" (.int (0 : Int32)) := f72.same W71
  refine Run.st (T71.setTop (mkF m 22 #[.val (.ref b1), .val (.int (16 : Int32))] [])) st71 ?_
  refine Run.st (T71.setTop (mkF m 38 #[.val (.ref b1), .val (.int (16 : Int32))] [])) (fun _ k => XS.goto A71.here hx rfl (pc0 := 22) (pc' := 38) rfl (hb hby d16_22) (by decide) (by decide) k) ?_
  have f74 := ((V66.keep K67 (ninS (Ne.symm (Exa.neArv f70 V66 (tw56 H.1))) nin0)).keep K71 (ninS (Ne.symm (Exa.neArv f73 (V66.keep K67 (ninS (Ne.symm (Exa.neArv f70 V66 (tw56 H.1))) nin0)) (tw56 H.1))) nin0))
  have Vz : Arv Z h71 a66 kA66 .byte (16 : Int32) (List.replicate 16 (.int (0 : Int32))) (.int (0 : Int32)) := f74
  have f75 := (((E1.ext E66).wr W67).wr W71)
  have f76 := (F67.other W71 (Or.inr (slot_ne (Or.inl (tw70 H.1)) (Or.inl (tw72 H.1)) (by decide) (t := (.array .byte)) (t' := .byte) (by decide) (by decide))))
  have f77 := (((F1.ext E66).other W67 (Or.inr (slot_ne (Or.inl (tw97 H.1)) (Or.inl (tw70 H.1)) (by decide) (t := .int) (t' := (.array .byte)) (by decide) (by decide)))).other W71 (Or.inr (slot_ne (Or.inl (tw97 H.1)) (Or.inl (tw72 H.1)) (by decide) (t := .int) (t' := .byte) (by decide) (by decide))))
  exact A71.leaveN hlk none (fun _ => rfl) (by decide) (by decide) ⟨rfl, a66, ⟨(Nat.le_of_eq g66), Vz.lt⟩, f75, f76, f77, F71, ⟨_, 16, Or.inl rfl, by decide, Vz.pad fun i => (pad_rep [] _ 16 i).symm⟩, chs0⟩ (fun X hr => X.returnOut hx hrt (hb hby d16_38) hr)
theorem ef_sbini (m : MethodId) (y0 : Addr) : entryFrame m #[(.ref y0)] 1 = mkF m 0 #[.val (.ref y0)] [] := by first | (simp [entryFrame, mkF, argsToLocals, Value.category, maxLocals]; done) | rfl
def Q_sbini (Z : State) (b1 : Addr) (u2 : Value) (u3 : Value) (h0 : Heap) (v : Option Value) (h : Heap) : Prop := v = none ∧ ∃ t : Addr, (h0.size ≤ t ∧ t < h.size) ∧ SBA Z h b1 t []
def rm_sbini : Room := { frames := 2, cells := 1, slots := 16, locals := 25 }
set_option maxRecDepth 65536 in
set_option maxHeartbeats 40000000 in
theorem ct_sbini {l : Launch} {Z : State} {a0 : Array Value} (H : Ev Z a0) (b1 : Addr) (u2 : Value) (u3 : Value) {h0 : Heap} {n0 : Nat} (O0 : Old Z n0 h0) (E1 : Exa Z h0 b1 "java/lang/StringBuilder") (g_b1 : n0 ≤ b1) (z_b1 : b1 < h0.size) (F1 : Fld Z h0 b1 "java/lang/AbstractStringBuilder" "count" "I" (.int 0)) (F2 : Fld Z h0 b1 "java/lang/AbstractStringBuilder" "coder" "B" u2) (F3 : Fld Z h0 b1 "java/lang/AbstractStringBuilder" "value" "[B" u3) : CtrN l Z (⟨"java/lang/StringBuilder", "<init>", "()V"⟩ : MethodName) jdk_67_method_1_code 1 none [] rm_sbini #[(.ref b1)] h0 [b1] n0 (Q_sbini Z b1 u2 u3 h0) := by
  refine enterN (a0 := a0) (plainFor_of_name pn_2) O0 (allS ⟨g_b1, z_b1⟩ all0) ?_
  intro p e s m below meth c T0 hx hby hml hrt hnm hlk A0
  replace A0 : Wk false Z a0 [] n0 h0 [b1] "java/lang/StringBuilder" p l e rm_sbini s m #[(.ref b1)] below meth c [b1] T0 h0 0 0 := A0
  refine Run.st (T0.setTop (mkF m 0 #[.val (.ref b1)] [])) (fun _ k => castTop (ef_sbini m b1) k) ?_
  refine Run.st (T0.setTop (mkF m 3 #[.val (.ref b1)] [(.int (16 : Int32)), (.ref b1)])) (fun _ k => XS.aloadN A0.here hx rfl (hb hby d17_0) rfl rfl (XS.bipush A0.here hx rfl (hb hby d17_1) k)) ?_
  obtain ⟨v78, T78, h78, AA78, K78, ⟨L78, Q78⟩, st78⟩ := A0.callI hx (y := (⟨"java/lang/AbstractStringBuilder", "<init>", "(I)V"⟩ : MethodName)) rfl (tw61 H.1) (tw62 H.1) (tw66 H.1) (by decide) (g := (mkF m 3 #[.val (.ref b1)] [(.int (16 : Int32)), (.ref b1)])) rfl (by rw [hml]; rfl) b1 [(.int (16 : Int32))] [] (lenOf pd_8 rfl) rfl (Wd := 0) (by show 2 * 0 + _ ≤ _; exact Nat.le_of_eq rfl) (hb hby d17_3) (by decide) (by decide) [b1] (fun _ _ _ q => q.2) (allS (List.mem_of_getElem? (i := 0) rfl) all0) (fun vm0 hZ => payN (ct_asbini H b1 u2 u3 A0.old E1 (A0.nle (List.mem_of_getElem? (i := 0) rfl)) E1.lt F1 F2 F3) (tw66 H.1) (tw65 H.1) (by decide) (by decide) hZ)
  obtain ⟨Q78, N78, -⟩ := Q78
  obtain ⟨rfl, t78, hf78, B78⟩ := Q78
  have A78 := AA78 [t78] (allS (Or.inr hf78) all0)
  refine Run.st (T78.setTop (mkF m 6 #[.val (.ref b1)] [])) st78 ?_
  exact A78.leaveN hlk none (fun _ => rfl) (by decide) (by decide) ⟨rfl, t78, hf78, B78⟩ (fun X hr => X.returnOut hx hrt (hb hby d17_6) hr)
theorem ef_chklen (m : MethodId) (y0 : Int32) (y1 : Int32) : entryFrame m #[(.int y0), (.int y1)] 2 = mkF m 0 #[.val (.int y0), .val (.int y1)] [] := by first | (simp [entryFrame, mkF, argsToLocals, Value.category, maxLocals]; done) | rfl
def Q_chklen (Z : State) (p1 : Int32) (h0 : Heap) (v : Option Value) (h : Heap) : Prop := v = none ∧ h = h0
def rm_chklen : Room := { frames := 0, cells := 0, slots := 0, locals := 0 }
set_option maxRecDepth 65536 in
set_option maxHeartbeats 40000000 in
theorem ct_chklen {l : Launch} {Z : State} {a0 : Array Value} (H : Ev Z a0) (p1 : Int32) {h0 : Heap} {n0 : Nat} (O0 : Old Z n0 h0) (hk : ¬ p1 < 0) : CtrN l Z (⟨"java/util/Arrays", "checkLength", "(II)V"⟩ : MethodName) jdk_65_method_131_code 2 none [] rm_chklen #[(.int (0 : Int32)), (.int p1)] h0 [] n0 (Q_chklen Z p1 h0) := by
  refine enterN (a0 := a0) (plainFor_of_name pn_4) O0 all0 ?_
  intro p e s m below meth c T0 hx hby hml hrt hnm hlk A0
  replace A0 : Wk false Z a0 [] n0 h0 [] "java/util/Arrays" p l e rm_chklen s m #[(.int (0 : Int32)), (.int p1)] below meth c [] T0 h0 0 0 := A0
  refine Run.st (T0.setTop (mkF m 0 #[.val (.int (0 : Int32)), .val (.int p1)] [])) (fun _ k => castTop (ef_chklen m (0 : Int32) p1) k) ?_
  refine Run.st (T0.setTop (mkF m 37 #[.val (.int (0 : Int32)), .val (.int p1)] [])) (fun _ k => XS.iloadN A0.here hx rfl (hb hby d18_0) rfl (XS.iloadN A0.here hx rfl (hb hby d18_1) rfl (XS.icmpYes A0.here hx rfl (pc0 := 2) (pc' := 37) rfl (hb hby d18_2) rfl (flt hk).2.1 (by decide) (by decide) k))) ?_
  exact A0.leaveN hlk none (fun _ => rfl) (by decide) (by decide) ⟨rfl, rfl⟩ (fun X hr => X.returnOut hx hrt (hb hby d18_37) hr)
theorem ef_corb (m : MethodId) (y0 : Addr) (y1 : Int32) (y2 : Int32) : entryFrame m #[(.ref y0), (.int y1), (.int y2)] 5 = mkF m 0 #[.val (.ref y0), .val (.int y1), .val (.int y2), .unset, .unset] [] := by first | (simp [entryFrame, mkF, argsToLocals, Value.category, maxLocals]; done) | rfl
def Q_corb (Z : State) (t1 : Addr) (kb : ClassId) (n1 : Nat) (xs : List Int32) (h0 : Heap) (v : Option Value) (h : Heap) : Prop := ∃ (t : Addr) (kt : ClassId), v = some (.ref t) ∧ h0.size ≤ t ∧ Ext h0 h ∧ Arv Z h t kt .byte (Int32.ofNat xs.length) (bs xs) (.int 0)
def rm_corb : Room := { frames := 1, cells := 1, slots := 34, locals := 18 }
set_option maxRecDepth 65536 in
set_option maxHeartbeats 40000000 in
theorem ct_corb {l : Launch} {Z : State} {a0 : Array Value} (H : Ev Z a0) (t1 : Addr) (kb : ClassId) (n1 : Nat) (xs : List Int32) {h0 : Heap} {n0 : Nat} (O0 : Old Z n0 h0) (Vt : Arv Z h0 t1 kb .byte (Int32.ofNat n1) (bs xs) (.int 0)) (hn : n1 = 16 ∨ n1 = 34) (hxn : xs.length ≤ n1) : CtrN l Z (⟨"java/util/Arrays", "copyOfRangeByte", "([BII)[B"⟩ : MethodName) jdk_65_method_133_code 5 (some (.array .byte)) [] rm_corb #[(.ref t1), (.int (0 : Int32)), (.int (Int32.ofNat xs.length))] h0 [] n0 (Q_corb Z t1 kb n1 xs h0) := by
  refine enterN (a0 := a0) (plainFor_of_name pn_4) O0 all0 ?_
  intro p e s m below meth c T0 hx hby hml hrt hnm hlk A0
  replace A0 : Wk false Z a0 [] n0 h0 [] "java/util/Arrays" p l e rm_corb s m #[(.ref t1), (.int (0 : Int32)), (.int (Int32.ofNat xs.length))] below meth c [] T0 h0 0 0 := A0
  refine Run.st (T0.setTop (mkF m 0 #[.val (.ref t1), .val (.int (0 : Int32)), .val (.int (Int32.ofNat xs.length)), .unset, .unset] [])) (fun _ k => castTop (ef_corb m t1 (0 : Int32) (Int32.ofNat xs.length)) k) ?_
  rcases hn with rfl | rfl
  · have Vt : Arv Z h0 t1 kb .byte (16 : Int32) (bs xs) (.int 0) := Vt
    refine Run.st (T0.setTop (mkF m 2 #[.val (.ref t1), .val (.int (0 : Int32)), .val (.int (Int32.ofNat xs.length)), .unset, .unset] [(.int (Int32.ofNat xs.length)), (.int (0 : Int32))])) (fun _ k => XS.iloadN A0.here hx rfl (hb hby d19_0) rfl (XS.iloadN A0.here hx rfl (hb hby d19_1) rfl k)) ?_
    obtain ⟨v79, T79, h79, AA79, K79, ⟨L79, Q79⟩, st79⟩ := A0.callS hx (tw162 H.1) (tw163 H.1) (tw157 H.1) (tw164 H.1) (by decide) (g := (mkF m 2 #[.val (.ref t1), .val (.int (0 : Int32)), .val (.int (Int32.ofNat xs.length)), .unset, .unset] [(.int (Int32.ofNat xs.length)), (.int (0 : Int32))])) rfl (by rw [hml]; rfl) [(.int (0 : Int32)), (.int (Int32.ofNat xs.length))] [] (lenOf pd_11 rfl) rfl (Wd := 0) (by show 2 * 0 + _ ≤ _; exact Nat.le_of_eq rfl) (hb hby d19_2) (by decide) (by decide) [] (fun _ _ _ q => q.2) all0 (fun vm0 hZ => payN (ct_chklen H (Int32.ofNat xs.length) A0.old (n_pos (by omega))) (tw164 H.1) (tw157 H.1) (by decide) (by decide) hZ)
    obtain ⟨Q79, N79, -⟩ := Q79
    obtain ⟨rfl, q79⟩ := Q79
    have q79 := q79.symm
    subst q79
    have A79 := AA79 [] all0
    refine Run.st (T79.setTop (mkF m 5 #[.val (.ref t1), .val (.int (0 : Int32)), .val (.int (Int32.ofNat xs.length)), .unset, .unset] [])) st79 ?_
    refine Run.st (T79.setTop (mkF m 7 #[.val (.ref t1), .val (.int (0 : Int32)), .val (.int (Int32.ofNat xs.length)), .unset, .unset] [(.int (0 : Int32)), (.int (Int32.ofNat xs.length))])) (fun _ k => XS.iloadN A79.here hx rfl (hb hby d19_5) rfl (XS.iloadN A79.here hx rfl (hb hby d19_6) rfl k)) ?_
    refine Run.st (T79.setTop (mkF m 8 #[.val (.ref t1), .val (.int (0 : Int32)), .val (.int (Int32.ofNat xs.length)), .unset, .unset] [(.int ((Int32.ofNat xs.length) - (0 : Int32)))])) (fun _ k => XS.isub A79.here hx rfl (hb hby d19_7) rfl k) ?_
    rw [show ((Int32.ofNat xs.length) - (0 : Int32)) = (Int32.ofNat xs.length) from ((n_sub (a := xs.length) (b := 0) (Nat.zero_le _)).trans (congrArg Int32.ofNat (Nat.sub_zero _)))]
    refine Run.st (T79.setTop (mkF m 10 #[.val (.ref t1), .val (.int (0 : Int32)), .val (.int (Int32.ofNat xs.length)), .val (.int (Int32.ofNat xs.length)), .unset] [(.int (Int32.ofNat xs.length))])) (fun _ k => XS.istoreN A79.here hx rfl (hb hby d19_8) rfl (l' := #[.val (.ref t1), .val (.int (0 : Int32)), .val (.int (Int32.ofNat xs.length)), .val (.int (Int32.ofNat xs.length)), .unset]) rfl (XS.iloadN A79.here hx rfl (hb hby d19_9) rfl k)) ?_
    obtain ⟨a80, T80, h80, kA80, A80, E80, g80, V80, st80⟩ := A79.newP hx (aty := .byte) (N := (Int32.ofNat xs.length)) (tw19 H.1) (g := (mkF m 10 #[.val (.ref t1), .val (.int (0 : Int32)), .val (.int (Int32.ofNat xs.length)), .val (.int (Int32.ofNat xs.length)), .unset] [(.int (Int32.ofNat xs.length))])) rfl (hb hby d19_10) rfl (n_pos (by omega)) (cap := 34) (by rw [n_clamp (by omega)]; omega) (by decide) (by decide) (by decide)
    refine Run.st (T80.setTop (mkF m 12 #[.val (.ref t1), .val (.int (0 : Int32)), .val (.int (Int32.ofNat xs.length)), .val (.int (Int32.ofNat xs.length)), .unset] [(.ref a80)])) st80 ?_
    refine Run.st (T80.setTop (mkF m 20 #[.val (.ref t1), .val (.int (0 : Int32)), .val (.int (Int32.ofNat xs.length)), .val (.int (Int32.ofNat xs.length)), .val (.ref a80)] [(.ref t1), (.int (0 : Int32)), (.ref a80), (.int (0 : Int32)), (.ref t1)])) (fun _ k => XS.astore A80.here hx rfl (hb hby d19_12) rfl rfl (l' := #[.val (.ref t1), .val (.int (0 : Int32)), .val (.int (Int32.ofNat xs.length)), .val (.int (Int32.ofNat xs.length)), .val (.ref a80)]) rfl (XS.aloadN A80.here hx rfl (hb hby d19_14) rfl rfl (XS.iloadN A80.here hx rfl (hb hby d19_15) rfl (XS.aload A80.here hx rfl (hb hby d19_16) rfl rfl (XS.iconst A80.here hx rfl (hb hby d19_18) (XS.aloadN A80.here hx rfl (hb hby d19_19) rfl rfl k)))))) ?_
    have X81 : Ext h0 h80 := E80
    have f82 := Vt.ext X81
    refine Run.st (T80.setTop (mkF m 21 #[.val (.ref t1), .val (.int (0 : Int32)), .val (.int (Int32.ofNat xs.length)), .val (.int (Int32.ofNat xs.length)), .val (.ref a80)] [(.int (16 : Int32)), (.int (0 : Int32)), (.ref a80), (.int (0 : Int32)), (.ref t1)])) (A80.alen hx f82 (g := (mkF m 20 #[.val (.ref t1), .val (.int (0 : Int32)), .val (.int (Int32.ofNat xs.length)), .val (.int (Int32.ofNat xs.length)), .val (.ref a80)] [(.ref t1), (.int (0 : Int32)), (.ref a80), (.int (0 : Int32)), (.ref t1)])) rfl rfl (hb hby d19_20)) ?_
    refine Run.st (T80.setTop (mkF m 24 #[.val (.ref t1), .val (.int (0 : Int32)), .val (.int (Int32.ofNat xs.length)), .val (.int (Int32.ofNat xs.length)), .val (.ref a80)] [(.int (Int32.ofNat xs.length)), (.int (16 : Int32)), (.int (0 : Int32)), (.ref a80), (.int (0 : Int32)), (.ref t1)])) (fun _ k => XS.iloadN A80.here hx rfl (hb hby d19_21) rfl (XS.isub A80.here hx rfl (hb hby d19_22) rfl (XS.iloadN A80.here hx rfl (hb hby d19_23) rfl k))) ?_
    obtain ⟨v83, T83, h83, AA83, K83, ⟨L83, Q83⟩, st83⟩ := A80.callS hx (tw165 H.1) (tw166 H.1) (tw167 H.1) (tw168 H.1) (by decide) (g := (mkF m 24 #[.val (.ref t1), .val (.int (0 : Int32)), .val (.int (Int32.ofNat xs.length)), .val (.int (Int32.ofNat xs.length)), .val (.ref a80)] [(.int (Int32.ofNat xs.length)), (.int (16 : Int32)), (.int (0 : Int32)), (.ref a80), (.int (0 : Int32)), (.ref t1)])) rfl (by rw [hml]; rfl) [(.int (16 : Int32)), (.int (Int32.ofNat xs.length))] [(.int (0 : Int32)), (.ref a80), (.int (0 : Int32)), (.ref t1)] (lenOf pd_4 rfl) rfl (Wd := 4) (by show 2 * 0 + _ ≤ _; exact Nat.le_of_eq rfl) (hb hby d19_24) (by decide) (by decide) [] (fun _ _ _ q => q.2) all0 (fun vm0 hZ => payN (ct_min1 H (16 : Int32) (Int32.ofNat xs.length) A80.old (fun q => absurd ((n_lt (a := 16) (by decide) (by omega)).mp q) (by omega))) (tw168 H.1) (tw167 H.1) (by decide) (by decide) hZ)
    obtain ⟨Q83, N83, -⟩ := Q83
    obtain ⟨rfl, q83⟩ := Q83
    have q83 := q83.symm
    subst q83
    have A83 := AA83 [] all0
    refine Run.st (T83.setTop (mkF m 27 #[.val (.ref t1), .val (.int (0 : Int32)), .val (.int (Int32.ofNat xs.length)), .val (.int (Int32.ofNat xs.length)), .val (.ref a80)] [(.int (Int32.ofNat xs.length)), (.int (0 : Int32)), (.ref a80), (.int (0 : Int32)), (.ref t1)])) st83 ?_
    obtain ⟨T84, h84, A84, K84, V84, st84⟩ := A83.copy hx (sp := (0 : Int32)) (dp := (0 : Int32)) (nn := (Int32.ofNat xs.length)) (tw169 H.1) (tw122 H.1) (tw120 H.1) (tw121 H.1) f82 V80 rfl (by decide) (by decide) (n_pos (by omega)) (by rw [n_clamp (by omega)]; exact (by simpa using hxn)) (by rw [n_clamp (by omega)]; exact (by simp)) rfl (by rw [n_clamp (by omega)]; simp; omega) (List.mem_of_getElem? (i := 0) rfl) (g := (mkF m 27 #[.val (.ref t1), .val (.int (0 : Int32)), .val (.int (Int32.ofNat xs.length)), .val (.int (Int32.ofNat xs.length)), .val (.ref a80)] [(.int (Int32.ofNat xs.length)), (.int (0 : Int32)), (.ref a80), (.int (0 : Int32)), (.ref t1)])) rfl (by rw [hml]; rfl) rfl (hb hby d19_27) (by decide) (Wd := 0) (by show 2 * 0 + _ ≤ _; exact Nat.le_of_eq rfl) (by decide)
    refine Run.st (T84.setTop (mkF m 30 #[.val (.ref t1), .val (.int (0 : Int32)), .val (.int (Int32.ofNat xs.length)), .val (.int (Int32.ofNat xs.length)), .val (.ref a80)] [])) st84 ?_
    rw [n_clamp (by omega)] at V84
    refine Run.st (T84.setTop (mkF m 32 #[.val (.ref t1), .val (.int (0 : Int32)), .val (.int (Int32.ofNat xs.length)), .val (.int (Int32.ofNat xs.length)), .val (.ref a80)] [(.ref a80)])) (fun _ k => XS.aload A84.here hx rfl (hb hby d19_30) rfl rfl k) ?_
    exact A84.leaveN hlk (some (.ref a80)) (fun q => by rw [hrt] at q; cases q) (by decide) (by decide) ⟨_, _, rfl, (Nat.le_of_eq g80), keepE A84.keep, new_ok (m := 0) (k := xs.length) (Nat.le_refl _) (by omega) V84⟩ (fun X hr => retOut X hx (w := (.ref a80)) (t := (.array .byte)) hrt rfl (Or.inr (Or.inr (Or.inr (Or.inr ⟨rfl, rfl, rfl⟩)))) (hb hby d19_32) hr)
  · have Vt : Arv Z h0 t1 kb .byte (34 : Int32) (bs xs) (.int 0) := Vt
    refine Run.st (T0.setTop (mkF m 2 #[.val (.ref t1), .val (.int (0 : Int32)), .val (.int (Int32.ofNat xs.length)), .unset, .unset] [(.int (Int32.ofNat xs.length)), (.int (0 : Int32))])) (fun _ k => XS.iloadN A0.here hx rfl (hb hby d19_0) rfl (XS.iloadN A0.here hx rfl (hb hby d19_1) rfl k)) ?_
    obtain ⟨v85, T85, h85, AA85, K85, ⟨L85, Q85⟩, st85⟩ := A0.callS hx (tw162 H.1) (tw163 H.1) (tw157 H.1) (tw164 H.1) (by decide) (g := (mkF m 2 #[.val (.ref t1), .val (.int (0 : Int32)), .val (.int (Int32.ofNat xs.length)), .unset, .unset] [(.int (Int32.ofNat xs.length)), (.int (0 : Int32))])) rfl (by rw [hml]; rfl) [(.int (0 : Int32)), (.int (Int32.ofNat xs.length))] [] (lenOf pd_11 rfl) rfl (Wd := 0) (by show 2 * 0 + _ ≤ _; exact Nat.le_of_eq rfl) (hb hby d19_2) (by decide) (by decide) [] (fun _ _ _ q => q.2) all0 (fun vm0 hZ => payN (ct_chklen H (Int32.ofNat xs.length) A0.old (n_pos (by omega))) (tw164 H.1) (tw157 H.1) (by decide) (by decide) hZ)
    obtain ⟨Q85, N85, -⟩ := Q85
    obtain ⟨rfl, q85⟩ := Q85
    have q85 := q85.symm
    subst q85
    have A85 := AA85 [] all0
    refine Run.st (T85.setTop (mkF m 5 #[.val (.ref t1), .val (.int (0 : Int32)), .val (.int (Int32.ofNat xs.length)), .unset, .unset] [])) st85 ?_
    refine Run.st (T85.setTop (mkF m 7 #[.val (.ref t1), .val (.int (0 : Int32)), .val (.int (Int32.ofNat xs.length)), .unset, .unset] [(.int (0 : Int32)), (.int (Int32.ofNat xs.length))])) (fun _ k => XS.iloadN A85.here hx rfl (hb hby d19_5) rfl (XS.iloadN A85.here hx rfl (hb hby d19_6) rfl k)) ?_
    refine Run.st (T85.setTop (mkF m 8 #[.val (.ref t1), .val (.int (0 : Int32)), .val (.int (Int32.ofNat xs.length)), .unset, .unset] [(.int ((Int32.ofNat xs.length) - (0 : Int32)))])) (fun _ k => XS.isub A85.here hx rfl (hb hby d19_7) rfl k) ?_
    rw [show ((Int32.ofNat xs.length) - (0 : Int32)) = (Int32.ofNat xs.length) from ((n_sub (a := xs.length) (b := 0) (Nat.zero_le _)).trans (congrArg Int32.ofNat (Nat.sub_zero _)))]
    refine Run.st (T85.setTop (mkF m 10 #[.val (.ref t1), .val (.int (0 : Int32)), .val (.int (Int32.ofNat xs.length)), .val (.int (Int32.ofNat xs.length)), .unset] [(.int (Int32.ofNat xs.length))])) (fun _ k => XS.istoreN A85.here hx rfl (hb hby d19_8) rfl (l' := #[.val (.ref t1), .val (.int (0 : Int32)), .val (.int (Int32.ofNat xs.length)), .val (.int (Int32.ofNat xs.length)), .unset]) rfl (XS.iloadN A85.here hx rfl (hb hby d19_9) rfl k)) ?_
    obtain ⟨a86, T86, h86, kA86, A86, E86, g86, V86, st86⟩ := A85.newP hx (aty := .byte) (N := (Int32.ofNat xs.length)) (tw19 H.1) (g := (mkF m 10 #[.val (.ref t1), .val (.int (0 : Int32)), .val (.int (Int32.ofNat xs.length)), .val (.int (Int32.ofNat xs.length)), .unset] [(.int (Int32.ofNat xs.length))])) rfl (hb hby d19_10) rfl (n_pos (by omega)) (cap := 34) (by rw [n_clamp (by omega)]; omega) (by decide) (by decide) (by decide)
    refine Run.st (T86.setTop (mkF m 12 #[.val (.ref t1), .val (.int (0 : Int32)), .val (.int (Int32.ofNat xs.length)), .val (.int (Int32.ofNat xs.length)), .unset] [(.ref a86)])) st86 ?_
    refine Run.st (T86.setTop (mkF m 20 #[.val (.ref t1), .val (.int (0 : Int32)), .val (.int (Int32.ofNat xs.length)), .val (.int (Int32.ofNat xs.length)), .val (.ref a86)] [(.ref t1), (.int (0 : Int32)), (.ref a86), (.int (0 : Int32)), (.ref t1)])) (fun _ k => XS.astore A86.here hx rfl (hb hby d19_12) rfl rfl (l' := #[.val (.ref t1), .val (.int (0 : Int32)), .val (.int (Int32.ofNat xs.length)), .val (.int (Int32.ofNat xs.length)), .val (.ref a86)]) rfl (XS.aloadN A86.here hx rfl (hb hby d19_14) rfl rfl (XS.iloadN A86.here hx rfl (hb hby d19_15) rfl (XS.aload A86.here hx rfl (hb hby d19_16) rfl rfl (XS.iconst A86.here hx rfl (hb hby d19_18) (XS.aloadN A86.here hx rfl (hb hby d19_19) rfl rfl k)))))) ?_
    have X87 : Ext h0 h86 := E86
    have f88 := Vt.ext X87
    refine Run.st (T86.setTop (mkF m 21 #[.val (.ref t1), .val (.int (0 : Int32)), .val (.int (Int32.ofNat xs.length)), .val (.int (Int32.ofNat xs.length)), .val (.ref a86)] [(.int (34 : Int32)), (.int (0 : Int32)), (.ref a86), (.int (0 : Int32)), (.ref t1)])) (A86.alen hx f88 (g := (mkF m 20 #[.val (.ref t1), .val (.int (0 : Int32)), .val (.int (Int32.ofNat xs.length)), .val (.int (Int32.ofNat xs.length)), .val (.ref a86)] [(.ref t1), (.int (0 : Int32)), (.ref a86), (.int (0 : Int32)), (.ref t1)])) rfl rfl (hb hby d19_20)) ?_
    refine Run.st (T86.setTop (mkF m 24 #[.val (.ref t1), .val (.int (0 : Int32)), .val (.int (Int32.ofNat xs.length)), .val (.int (Int32.ofNat xs.length)), .val (.ref a86)] [(.int (Int32.ofNat xs.length)), (.int (34 : Int32)), (.int (0 : Int32)), (.ref a86), (.int (0 : Int32)), (.ref t1)])) (fun _ k => XS.iloadN A86.here hx rfl (hb hby d19_21) rfl (XS.isub A86.here hx rfl (hb hby d19_22) rfl (XS.iloadN A86.here hx rfl (hb hby d19_23) rfl k))) ?_
    obtain ⟨v89, T89, h89, AA89, K89, ⟨L89, Q89⟩, st89⟩ := A86.callS hx (tw165 H.1) (tw166 H.1) (tw167 H.1) (tw168 H.1) (by decide) (g := (mkF m 24 #[.val (.ref t1), .val (.int (0 : Int32)), .val (.int (Int32.ofNat xs.length)), .val (.int (Int32.ofNat xs.length)), .val (.ref a86)] [(.int (Int32.ofNat xs.length)), (.int (34 : Int32)), (.int (0 : Int32)), (.ref a86), (.int (0 : Int32)), (.ref t1)])) rfl (by rw [hml]; rfl) [(.int (34 : Int32)), (.int (Int32.ofNat xs.length))] [(.int (0 : Int32)), (.ref a86), (.int (0 : Int32)), (.ref t1)] (lenOf pd_4 rfl) rfl (Wd := 4) (by show 2 * 0 + _ ≤ _; exact Nat.le_of_eq rfl) (hb hby d19_24) (by decide) (by decide) [] (fun _ _ _ q => q.2) all0 (fun vm0 hZ => payN (ct_min1 H (34 : Int32) (Int32.ofNat xs.length) A86.old (fun q => absurd ((n_lt (a := 34) (by decide) (by omega)).mp q) (by omega))) (tw168 H.1) (tw167 H.1) (by decide) (by decide) hZ)
    obtain ⟨Q89, N89, -⟩ := Q89
    obtain ⟨rfl, q89⟩ := Q89
    have q89 := q89.symm
    subst q89
    have A89 := AA89 [] all0
    refine Run.st (T89.setTop (mkF m 27 #[.val (.ref t1), .val (.int (0 : Int32)), .val (.int (Int32.ofNat xs.length)), .val (.int (Int32.ofNat xs.length)), .val (.ref a86)] [(.int (Int32.ofNat xs.length)), (.int (0 : Int32)), (.ref a86), (.int (0 : Int32)), (.ref t1)])) st89 ?_
    obtain ⟨T90, h90, A90, K90, V90, st90⟩ := A89.copy hx (sp := (0 : Int32)) (dp := (0 : Int32)) (nn := (Int32.ofNat xs.length)) (tw169 H.1) (tw122 H.1) (tw120 H.1) (tw121 H.1) f88 V86 rfl (by decide) (by decide) (n_pos (by omega)) (by rw [n_clamp (by omega)]; exact (by simpa using hxn)) (by rw [n_clamp (by omega)]; exact (by simp)) rfl (by rw [n_clamp (by omega)]; simp; omega) (List.mem_of_getElem? (i := 0) rfl) (g := (mkF m 27 #[.val (.ref t1), .val (.int (0 : Int32)), .val (.int (Int32.ofNat xs.length)), .val (.int (Int32.ofNat xs.length)), .val (.ref a86)] [(.int (Int32.ofNat xs.length)), (.int (0 : Int32)), (.ref a86), (.int (0 : Int32)), (.ref t1)])) rfl (by rw [hml]; rfl) rfl (hb hby d19_27) (by decide) (Wd := 0) (by show 2 * 0 + _ ≤ _; exact Nat.le_of_eq rfl) (by decide)
    refine Run.st (T90.setTop (mkF m 30 #[.val (.ref t1), .val (.int (0 : Int32)), .val (.int (Int32.ofNat xs.length)), .val (.int (Int32.ofNat xs.length)), .val (.ref a86)] [])) st90 ?_
    rw [n_clamp (by omega)] at V90
    refine Run.st (T90.setTop (mkF m 32 #[.val (.ref t1), .val (.int (0 : Int32)), .val (.int (Int32.ofNat xs.length)), .val (.int (Int32.ofNat xs.length)), .val (.ref a86)] [(.ref a86)])) (fun _ k => XS.aload A90.here hx rfl (hb hby d19_30) rfl rfl k) ?_
    exact A90.leaveN hlk (some (.ref a86)) (fun q => by rw [hrt] at q; cases q) (by decide) (by decide) ⟨_, _, rfl, (Nat.le_of_eq g86), keepE A90.keep, new_ok (m := 0) (k := xs.length) (Nat.le_refl _) (by omega) V90⟩ (fun X hr => retOut X hx (w := (.ref a86)) (t := (.array .byte)) hrt rfl (Or.inr (Or.inr (Or.inr (Or.inr ⟨rfl, rfl, rfl⟩)))) (hb hby d19_32) hr)
theorem ef_cor (m : MethodId) (y0 : Addr) (y1 : Int32) (y2 : Int32) : entryFrame m #[(.ref y0), (.int y1), (.int y2)] 3 = mkF m 0 #[.val (.ref y0), .val (.int y1), .val (.int y2)] [] := by first | (simp [entryFrame, mkF, argsToLocals, Value.category, maxLocals]; done) | rfl
def Q_cor (Z : State) (t1 : Addr) (kb : ClassId) (n1 : Nat) (xs : List Int32) (h0 : Heap) (v : Option Value) (h : Heap) : Prop := ∃ (t : Addr) (kt : ClassId), v = some (.ref t) ∧ h0.size ≤ t ∧ Ext h0 h ∧ Arv Z h t kt .byte (Int32.ofNat xs.length) (bs xs) (.int 0)
def rm_cor : Room := { frames := 2, cells := 1, slots := 34, locals := 34 }
set_option maxRecDepth 65536 in
set_option maxHeartbeats 40000000 in
theorem ct_cor {l : Launch} {Z : State} {a0 : Array Value} (H : Ev Z a0) (t1 : Addr) (kb : ClassId) (n1 : Nat) (xs : List Int32) {h0 : Heap} {n0 : Nat} (O0 : Old Z n0 h0) (Vt : Arv Z h0 t1 kb .byte (Int32.ofNat n1) (bs xs) (.int 0)) (hn : n1 = 16 ∨ n1 = 34) (hxn : xs.length ≤ n1) (hne : ¬ xs.length = n1) : CtrN l Z (⟨"java/util/Arrays", "copyOfRange", "([BII)[B"⟩ : MethodName) jdk_65_method_132_code 3 (some (.array .byte)) [] rm_cor #[(.ref t1), (.int (0 : Int32)), (.int (Int32.ofNat xs.length))] h0 [] n0 (Q_cor Z t1 kb n1 xs h0) := by
  refine enterN (a0 := a0) (plainFor_of_name pn_4) O0 all0 ?_
  intro p e s m below meth c T0 hx hby hml hrt hnm hlk A0
  replace A0 : Wk false Z a0 [] n0 h0 [] "java/util/Arrays" p l e rm_cor s m #[(.ref t1), (.int (0 : Int32)), (.int (Int32.ofNat xs.length))] below meth c [] T0 h0 0 0 := A0
  refine Run.st (T0.setTop (mkF m 0 #[.val (.ref t1), .val (.int (0 : Int32)), .val (.int (Int32.ofNat xs.length))] [])) (fun _ k => castTop (ef_cor m t1 (0 : Int32) (Int32.ofNat xs.length)) k) ?_
  refine Run.st (T0.setTop (mkF m 6 #[.val (.ref t1), .val (.int (0 : Int32)), .val (.int (Int32.ofNat xs.length))] [(.ref t1), (.int (Int32.ofNat xs.length))])) (fun _ k => XS.iloadN A0.here hx rfl (hb hby d20_0) rfl (XS.ifNo A0.here hx rfl (hb hby d20_1) rfl (by decide) (XS.iloadN A0.here hx rfl (hb hby d20_4) rfl (XS.aloadN A0.here hx rfl (hb hby d20_5) rfl rfl k)))) ?_
  refine Run.st (T0.setTop (mkF m 7 #[.val (.ref t1), .val (.int (0 : Int32)), .val (.int (Int32.ofNat xs.length))] [(.int (Int32.ofNat n1)), (.int (Int32.ofNat xs.length))])) (A0.alen hx Vt (g := (mkF m 6 #[.val (.ref t1), .val (.int (0 : Int32)), .val (.int (Int32.ofNat xs.length))] [(.ref t1), (.int (Int32.ofNat xs.length))])) rfl rfl (hb hby d20_6)) ?_
  refine Run.st (T0.setTop (mkF m 13 #[.val (.ref t1), .val (.int (0 : Int32)), .val (.int (Int32.ofNat xs.length))] [(.int (Int32.ofNat xs.length)), (.int (0 : Int32)), (.ref t1)])) (fun _ k => XS.icmpNo A0.here hx rfl (hb hby d20_7) rfl (feq (fun q => hne (n_eq (by omega) (by omega) q))).1 (XS.aloadN A0.here hx rfl (hb hby d20_10) rfl rfl (XS.iloadN A0.here hx rfl (hb hby d20_11) rfl (XS.iloadN A0.here hx rfl (hb hby d20_12) rfl k)))) ?_
  obtain ⟨v91, T91, h91, AA91, K91, ⟨L91, Q91⟩, st91⟩ := A0.callS hx (tw159 H.1) (tw160 H.1) (tw157 H.1) (tw161 H.1) (by decide) (g := (mkF m 13 #[.val (.ref t1), .val (.int (0 : Int32)), .val (.int (Int32.ofNat xs.length))] [(.int (Int32.ofNat xs.length)), (.int (0 : Int32)), (.ref t1)])) rfl (by rw [hml]; rfl) [(.ref t1), (.int (0 : Int32)), (.int (Int32.ofNat xs.length))] [] (lenOf pd_12 rfl) rfl (Wd := 0) (by show 2 * 0 + _ ≤ _; exact Nat.le_of_eq rfl) (hb hby d20_13) (by decide) (by decide) [] (fun _ _ _ q => q.2) all0 (fun vm0 hZ => payN (ct_corb H t1 kb n1 xs A0.old Vt hn hxn) (tw161 H.1) (tw157 H.1) (by decide) (by decide) hZ)
  obtain ⟨Q91, N91, -⟩ := Q91
  obtain ⟨t91, kt91, rfl, lt91, X91, Vn91⟩ := Q91
  have A91 := AA91 [] all0
  refine Run.st (T91.setTop (mkF m 16 #[.val (.ref t1), .val (.int (0 : Int32)), .val (.int (Int32.ofNat xs.length))] [(.ref t91)])) st91 ?_
  exact A91.leaveN hlk (some (.ref t91)) (fun q => by rw [hrt] at q; cases q) (by decide) (by decide) ⟨_, _, rfl, lt91, keepE A91.keep, Vn91⟩ (fun X hr => retOut X hx (w := (.ref t91)) (t := (.array .byte)) hrt rfl (Or.inr (Or.inr (Or.inr (Or.inr ⟨rfl, rfl, rfl⟩)))) (hb hby d20_16) hr)
theorem ef_sini2 (m : MethodId) (y0 : Addr) (y1 : Addr) : entryFrame m #[(.ref y0), (.ref y1), .null] 5 = mkF m 0 #[.val (.ref y0), .val (.ref y1), .val .null, .unset, .unset] [] := by first | (simp [entryFrame, mkF, argsToLocals, Value.category, maxLocals]; done) | rfl
def Q_sini2 (Z : State) (x1 : Addr) (b1 : Addr) (t1 : Addr) (xs : List Int32) (u1 : Value) (u2 : Value) (h0 : Heap) (v : Option Value) (h : Heap) : Prop := v = none ∧ StrA Z h x1 xs
def rm_sini2 : Room := { frames := 3, cells := 1, slots := 34, locals := 49 }
set_option maxRecDepth 65536 in
set_option maxHeartbeats 40000000 in
theorem ct_sini2 {l : Launch} {Z : State} {a0 : Array Value} (H : Ev Z a0) (x1 : Addr) (b1 : Addr) (t1 : Addr) (xs : List Int32) (u1 : Value) (u2 : Value) {h0 : Heap} {n0 : Nat} (O0 : Old Z n0 h0) (E0 : Exa Z h0 x1 "java/lang/String") (g_x1 : n0 ≤ x1) (z_x1 : x1 < h0.size) (G_value : Fld Z h0 x1 "java/lang/String" "value" "[B" u1) (G_coder : Fld Z h0 x1 "java/lang/String" "coder" "B" u2) (B1 : SBA Z h0 b1 t1 xs) (hne : ∀ n : Nat, n = 16 ∨ n = 34 → xs.length ≤ n → ¬ xs.length = n) : CtrN l Z (⟨"java/lang/String", "<init>", "(Ljava/lang/AbstractStringBuilder;Ljava/lang/Void;)V"⟩ : MethodName) jdk_42_method_150_code 5 none [] rm_sini2 #[(.ref x1), (.ref b1), .null] h0 [x1] n0 (Q_sini2 Z x1 b1 t1 xs u1 u2 h0) := by
  refine enterN (a0 := a0) (plainFor_of_name pn_0) O0 (allS ⟨g_x1, z_x1⟩ all0) ?_
  intro p e s m below meth c T0 hx hby hml hrt hnm hlk A0
  replace A0 : Wk false Z a0 [] n0 h0 [x1] "java/lang/String" p l e rm_sini2 s m #[(.ref x1), (.ref b1), .null] below meth c [x1] T0 h0 0 0 := A0
  refine Run.st (T0.setTop (mkF m 0 #[.val (.ref x1), .val (.ref b1), .val .null, .unset, .unset] [])) (fun _ k => castTop (ef_sini2 m x1 b1) k) ?_
  obtain ⟨E1, F3, F1, F2, ⟨kb, n1, hn, hxn, Vt⟩, hcx⟩ := id B1
  refine Run.st (T0.setTop (mkF m 1 #[.val (.ref x1), .val (.ref b1), .val .null, .unset, .unset] [(.ref x1)])) (fun _ k => XS.aloadN A0.here hx rfl (hb hby d21_0) rfl rfl k) ?_
  obtain ⟨T92, A92, st92⟩ := A0.initO hx (tw11 H.1) (tw12 H.1) (tw13 H.1) (g := (mkF m 1 #[.val (.ref x1), .val (.ref b1), .val .null, .unset, .unset] [(.ref x1)])) rfl (by rw [hml]; rfl) rfl (hb hby d21_1) (by decide) (Wd := 0) (by show 2 * 0 + _ ≤ _; exact Nat.le_of_eq rfl) (by decide)
  refine Run.st (T92.setTop (mkF m 4 #[.val (.ref x1), .val (.ref b1), .val .null, .unset, .unset] [])) st92 ?_
  refine Run.st (T92.setTop (mkF m 5 #[.val (.ref x1), .val (.ref b1), .val .null, .unset, .unset] [(.ref b1)])) (fun _ k => XS.aloadN A92.here hx rfl (hb hby d21_4) rfl rfl k) ?_
  obtain ⟨v93, T93, h93, AA93, K93, ⟨L93, Q93⟩, st93⟩ := A92.callV hx (y := (⟨"java/lang/AbstractStringBuilder", "getValue", "()[B"⟩ : MethodName)) (z := (⟨"java/lang/AbstractStringBuilder", "getValue", "()[B"⟩ : MethodName)) (tw137 H.1) (tw138 H.1) (tw140 H.1) (tw139 H.1) (nfSel (tw140 H.1)) (by decide) E1 (g := (mkF m 5 #[.val (.ref x1), .val (.ref b1), .val .null, .unset, .unset] [(.ref b1)])) rfl (by rw [hml]; rfl) [] [] (lenOf pd_13 rfl) rfl (Wd := 0) (by show 2 * 0 + _ ≤ _; exact Nat.le_of_eq rfl) (hb hby d21_5) (by decide) (by decide) [] (fun _ _ _ q => q.2) all0 (fun vm0 hZ => payN (ct_getval H b1 t1 A92.old F3) (tw141 H.1) (tw65 H.1) (by decide) (by decide) hZ)
  obtain ⟨Q93, N93, -⟩ := Q93
  obtain ⟨rfl, q93⟩ := Q93
  have q93 := q93.symm
  subst q93
  have A93 := AA93 [] all0
  refine Run.st (T93.setTop (mkF m 8 #[.val (.ref x1), .val (.ref b1), .val .null, .unset, .unset] [(.ref t1)])) st93 ?_
  refine Run.st (T93.setTop (mkF m 10 #[.val (.ref x1), .val (.ref b1), .val .null, .val (.ref t1), .unset] [(.ref b1)])) (fun _ k => XS.astoreN A93.here hx rfl (hb hby d21_8) rfl rfl (l' := #[.val (.ref x1), .val (.ref b1), .val .null, .val (.ref t1), .unset]) rfl (XS.aloadN A93.here hx rfl (hb hby d21_9) rfl rfl k)) ?_
  obtain ⟨v94, T94, h94, AA94, K94, ⟨L94, Q94⟩, st94⟩ := A93.callV hx (y := (⟨"java/lang/AbstractStringBuilder", "length", "()I"⟩ : MethodName)) (z := (⟨"java/lang/StringBuilder", "length", "()I"⟩ : MethodName)) (tw142 H.1) (tw143 H.1) (tw145 H.1) (tw146 H.1) (nfSelC (tw101 H.1) rfl) (by decide) E1 (g := (mkF m 10 #[.val (.ref x1), .val (.ref b1), .val .null, .val (.ref t1), .unset] [(.ref b1)])) rfl (by rw [hml]; rfl) [] [] (lenOf pd_0 rfl) rfl (Wd := 0) (by show 2 * 0 + _ ≤ _; exact Nat.le_of_eq rfl) (hb hby d21_10) (by decide) (by decide) [] (fun _ _ _ q => q.2) all0 (fun vm0 hZ => payN (ct_sblen H b1 (Int32.ofNat xs.length) A93.old E1 F1) (tw147 H.1) (tw57 H.1) (by decide) (by decide) hZ)
  obtain ⟨Q94, N94, -⟩ := Q94
  obtain ⟨rfl, q94⟩ := Q94
  have q94 := q94.symm
  subst q94
  have A94 := AA94 [] all0
  refine Run.st (T94.setTop (mkF m 13 #[.val (.ref x1), .val (.ref b1), .val .null, .val (.ref t1), .unset] [(.int (Int32.ofNat xs.length))])) st94 ?_
  refine Run.st (T94.setTop (mkF m 16 #[.val (.ref x1), .val (.ref b1), .val .null, .val (.ref t1), .val (.int (Int32.ofNat xs.length))] [(.ref b1)])) (fun _ k => XS.istore A94.here hx rfl (hb hby d21_13) rfl (l' := #[.val (.ref x1), .val (.ref b1), .val .null, .val (.ref t1), .val (.int (Int32.ofNat xs.length))]) rfl (XS.aloadN A94.here hx rfl (hb hby d21_15) rfl rfl k)) ?_
  obtain ⟨v95, T95, h95, AA95, K95, ⟨L95, Q95⟩, st95⟩ := A94.callV hx (y := (⟨"java/lang/AbstractStringBuilder", "isLatin1", "()Z"⟩ : MethodName)) (z := (⟨"java/lang/AbstractStringBuilder", "isLatin1", "()Z"⟩ : MethodName)) (tw150 H.1) (tw151 H.1) (tw153 H.1) (tw152 H.1) (nfSel (tw153 H.1)) (by decide) E1 (g := (mkF m 16 #[.val (.ref x1), .val (.ref b1), .val .null, .val (.ref t1), .val (.int (Int32.ofNat xs.length))] [(.ref b1)])) rfl (by rw [hml]; rfl) [] [] (lenOf pd_14 rfl) rfl (Wd := 0) (by show 2 * 0 + _ ≤ _; exact Nat.le_of_eq rfl) (hb hby d21_16) (by decide) (by decide) [] (fun _ _ _ q => q.2) all0 (fun vm0 hZ => payN (ct_islat H b1 A94.old F2) (tw154 H.1) (tw65 H.1) (by decide) (by decide) hZ)
  obtain ⟨Q95, N95, -⟩ := Q95
  obtain ⟨rfl, q95⟩ := Q95
  have q95 := q95.symm
  subst q95
  have A95 := AA95 [] all0
  refine Run.st (T95.setTop (mkF m 19 #[.val (.ref x1), .val (.ref b1), .val .null, .val (.ref t1), .val (.int (Int32.ofNat xs.length))] [(.int (1 : Int32))])) st95 ?_
  refine Run.st (T95.setTop (mkF m 24 #[.val (.ref x1), .val (.ref b1), .val .null, .val (.ref t1), .val (.int (Int32.ofNat xs.length))] [(.int (0 : Int32)), (.ref x1)])) (fun _ k => XS.ifNo A95.here hx rfl (hb hby d21_19) rfl (by decide) (XS.aloadN A95.here hx rfl (hb hby d21_22) rfl rfl (XS.iconst A95.here hx rfl (hb hby d21_23) k))) ?_
  obtain ⟨T96, h96, A96, K96, W96, st96⟩ := A95.putF hx (tw26 H.1) Via.refl (a := x1) (List.mem_of_getElem? (i := 0) rfl) (v' := (.int (0 : Int32))) G_coder E0 (Or.inr ⟨(tw27 H.1), rfl, hnm⟩) (tw2 H.1) (ty := .byte) (by decide) rfl rfl (g := (mkF m 24 #[.val (.ref x1), .val (.ref b1), .val .null, .val (.ref t1), .val (.int (Int32.ofNat xs.length))] [(.int (0 : Int32)), (.ref x1)])) rfl rfl (hb hby d21_24)
  have F96 : Fld Z h96 x1 "java/lang/String" "coder" "B" (.int (0 : Int32)) := G_coder.same W96
  refine Run.st (T96.setTop (mkF m 27 #[.val (.ref x1), .val (.ref b1), .val .null, .val (.ref t1), .val (.int (Int32.ofNat xs.length))] [])) st96 ?_
  refine Run.st (T96.setTop (mkF m 32 #[.val (.ref x1), .val (.ref b1), .val .null, .val (.ref t1), .val (.int (Int32.ofNat xs.length))] [(.int (Int32.ofNat xs.length)), (.int (0 : Int32)), (.ref t1), (.ref x1)])) (fun _ k => XS.aloadN A96.here hx rfl (hb hby d21_27) rfl rfl (XS.aloadN A96.here hx rfl (hb hby d21_28) rfl rfl (XS.iconst A96.here hx rfl (hb hby d21_29) (XS.iload A96.here hx rfl (hb hby d21_30) rfl k)))) ?_
  have f98 := (Vt.keep K96 (ninS (Ne.symm (Exa.neArv E0 Vt (tw2 H.1))) nin0))
  obtain ⟨v97, T97, h97, AA97, K97, ⟨L97, Q97⟩, st97⟩ := A96.callS hx (tw155 H.1) (tw156 H.1) (tw157 H.1) (tw158 H.1) (by decide) (g := (mkF m 32 #[.val (.ref x1), .val (.ref b1), .val .null, .val (.ref t1), .val (.int (Int32.ofNat xs.length))] [(.int (Int32.ofNat xs.length)), (.int (0 : Int32)), (.ref t1), (.ref x1)])) rfl (by rw [hml]; rfl) [(.ref t1), (.int (0 : Int32)), (.int (Int32.ofNat xs.length))] [(.ref x1)] (lenOf pd_12 rfl) rfl (Wd := 1) (by show 2 * 0 + _ ≤ _; exact Nat.le_of_eq rfl) (hb hby d21_32) (by decide) (by decide) [] (fun _ _ _ q => q.2) all0 (fun vm0 hZ => payN (ct_cor H t1 kb n1 xs A96.old f98 hn hxn (hne n1 hn hxn)) (tw158 H.1) (tw157 H.1) (by decide) (by decide) hZ)
  obtain ⟨Q97, N97, -⟩ := Q97
  obtain ⟨t97, kt97, rfl, lt97, X97, Vn97⟩ := Q97
  have A97 := AA97 [] all0
  refine Run.st (T97.setTop (mkF m 35 #[.val (.ref x1), .val (.ref b1), .val .null, .val (.ref t1), .val (.int (Int32.ofNat xs.length))] [(.ref t97), (.ref x1)])) st97 ?_
  have f100 := ((G_value.other W96 (Or.inr (slot_ne (Or.inr (tw29 H.1)) (Or.inr (tw27 H.1)) (by decide) (t := (.array .byte)) (t' := .byte) (by decide) (by decide)))).ext X97)
  have f101 := ((E0.wr W96).ext X97)
  obtain ⟨T99, h99, A99, K99, W99, st99⟩ := A97.putF hx (tw28 H.1) Via.refl (a := x1) (List.mem_of_getElem? (i := 0) rfl) (v' := (.ref t97)) f100 f101 (Or.inr ⟨(tw29 H.1), rfl, hnm⟩) (tw2 H.1) (ty := (.array .byte)) (by decide) rfl rfl (g := (mkF m 35 #[.val (.ref x1), .val (.ref b1), .val .null, .val (.ref t1), .val (.int (Int32.ofNat xs.length))] [(.ref t97), (.ref x1)])) rfl rfl (hb hby d21_35)
  have F99 : Fld Z h99 x1 "java/lang/String" "value" "[B" (.ref t97) := f100.same W99
  refine Run.st (T99.setTop (mkF m 38 #[.val (.ref x1), .val (.ref b1), .val .null, .val (.ref t1), .val (.int (Int32.ofNat xs.length))] [])) st99 ?_
  refine Run.st (T99.setTop (mkF m 97 #[.val (.ref x1), .val (.ref b1), .val .null, .val (.ref t1), .val (.int (Int32.ofNat xs.length))] [])) (fun _ k => XS.goto A99.here hx rfl (pc0 := 38) (pc' := 97) rfl (hb hby d21_38) (by decide) (by decide) k) ?_
  have f102 := (((E0.wr W96).ext X97).wr W99)
  have f103 := ((F96.ext X97).other W99 (Or.inr (slot_ne (Or.inr (tw27 H.1)) (Or.inr (tw29 H.1)) (by decide) (t := .byte) (t' := (.array .byte)) (by decide) (by decide))))
  have f104 := (Vn97.keep K99 (ninS (Ne.symm (Exa.neArv f101 Vn97 (tw2 H.1))) nin0))
  exact A99.leaveN hlk none (fun _ => rfl) (by decide) (by decide) ⟨rfl, f102, f103, ⟨_, _, F99, f104⟩, hcx, by omega⟩ (fun X hr => X.returnOut hx hrt (hb hby d21_97) hr)
theorem ef_sini1 (m : MethodId) (y0 : Addr) (y1 : Addr) : entryFrame m #[(.ref y0), (.ref y1)] 2 = mkF m 0 #[.val (.ref y0), .val (.ref y1)] [] := by first | (simp [entryFrame, mkF, argsToLocals, Value.category, maxLocals]; done) | rfl
def Q_sini1 (Z : State) (x1 : Addr) (b1 : Addr) (t1 : Addr) (xs : List Int32) (u1 : Value) (u2 : Value) (h0 : Heap) (v : Option Value) (h : Heap) : Prop := v = none ∧ StrA Z h x1 xs
def rm_sini1 : Room := { frames := 4, cells := 1, slots := 34, locals := 65 }
set_option maxRecDepth 65536 in
set_option maxHeartbeats 40000000 in
theorem ct_sini1 {l : Launch} {Z : State} {a0 : Array Value} (H : Ev Z a0) (x1 : Addr) (b1 : Addr) (t1 : Addr) (xs : List Int32) (u1 : Value) (u2 : Value) {h0 : Heap} {n0 : Nat} (O0 : Old Z n0 h0) (E0 : Exa Z h0 x1 "java/lang/String") (g_x1 : n0 ≤ x1) (z_x1 : x1 < h0.size) (G_value : Fld Z h0 x1 "java/lang/String" "value" "[B" u1) (G_coder : Fld Z h0 x1 "java/lang/String" "coder" "B" u2) (B1 : SBA Z h0 b1 t1 xs) (hne : ∀ n : Nat, n = 16 ∨ n = 34 → xs.length ≤ n → ¬ xs.length = n) : CtrN l Z (⟨"java/lang/String", "<init>", "(Ljava/lang/StringBuilder;)V"⟩ : MethodName) jdk_42_method_53_code 2 none [] rm_sini1 #[(.ref x1), (.ref b1)] h0 [x1] n0 (Q_sini1 Z x1 b1 t1 xs u1 u2 h0) := by
  refine enterN (a0 := a0) (plainFor_of_name pn_0) O0 (allS ⟨g_x1, z_x1⟩ all0) ?_
  intro p e s m below meth c T0 hx hby hml hrt hnm hlk A0
  replace A0 : Wk false Z a0 [] n0 h0 [x1] "java/lang/String" p l e rm_sini1 s m #[(.ref x1), (.ref b1)] below meth c [x1] T0 h0 0 0 := A0
  refine Run.st (T0.setTop (mkF m 0 #[.val (.ref x1), .val (.ref b1)] [])) (fun _ k => castTop (ef_sini1 m x1 b1) k) ?_
  refine Run.st (T0.setTop (mkF m 3 #[.val (.ref x1), .val (.ref b1)] [.null, (.ref b1), (.ref x1)])) (fun _ k => XS.aloadN A0.here hx rfl (hb hby d22_0) rfl rfl (XS.aloadN A0.here hx rfl (hb hby d22_1) rfl rfl (XS.aconstNull A0.here hx rfl (hb hby d22_2) k))) ?_
  obtain ⟨v105, T105, h105, AA105, K105, ⟨L105, Q105⟩, st105⟩ := A0.callI hx (y := (⟨"java/lang/String", "<init>", "(Ljava/lang/AbstractStringBuilder;Ljava/lang/Void;)V"⟩ : MethodName)) rfl (tw134 H.1) (tw135 H.1) (tw136 H.1) (by decide) (g := (mkF m 3 #[.val (.ref x1), .val (.ref b1)] [.null, (.ref b1), (.ref x1)])) rfl (by rw [hml]; rfl) x1 [(.ref b1), .null] [] (lenOf pd_15 rfl) rfl (Wd := 0) (by show 2 * 0 + _ ≤ _; exact Nat.le_of_eq rfl) (hb hby d22_3) (by decide) (by decide) [x1] (fun _ _ _ q => q.2) (allS (List.mem_of_getElem? (i := 0) rfl) all0) (fun vm0 hZ => payN (ct_sini2 H x1 b1 t1 xs u1 u2 A0.old E0 (A0.nle (List.mem_of_getElem? (i := 0) rfl)) E0.lt G_value G_coder B1 hne) (tw136 H.1) (tw3 H.1) (by decide) (by decide) hZ)
  obtain ⟨Q105, N105, -⟩ := Q105
  obtain ⟨rfl, S105⟩ := Q105
  have A105 := AA105 [] all0
  refine Run.st (T105.setTop (mkF m 6 #[.val (.ref x1), .val (.ref b1)] [])) st105 ?_
  exact A105.leaveN hlk none (fun _ => rfl) (by decide) (by decide) ⟨rfl, S105⟩ (fun X hr => X.returnOut hx hrt (hb hby d22_6) hr)
theorem ef_tostr (m : MethodId) (y0 : Addr) : entryFrame m #[(.ref y0)] 1 = mkF m 0 #[.val (.ref y0)] [] := by first | (simp [entryFrame, mkF, argsToLocals, Value.category, maxLocals]; done) | rfl
def Q_tostr (Z : State) (b1 : Addr) (t1 : Addr) (xs : List Int32) (h0 : Heap) (v : Option Value) (h : Heap) : Prop := ∃ a : Addr, v = some (.ref a) ∧ Ext h0 h ∧ StrA Z h a xs
def rm_tostr : Room := { frames := 5, cells := 2, slots := 38, locals := 79 }
set_option maxRecDepth 65536 in
set_option maxHeartbeats 40000000 in
theorem ct_tostr {l : Launch} {Z : State} {a0 : Array Value} (H : Ev Z a0) (b1 : Addr) (t1 : Addr) (xs : List Int32) {h0 : Heap} {n0 : Nat} (O0 : Old Z n0 h0) (B1 : SBA Z h0 b1 t1 xs) (hne : ∀ n : Nat, n = 16 ∨ n = 34 → xs.length ≤ n → ¬ xs.length = n) : CtrN l Z (⟨"java/lang/StringBuilder", "toString", "()Ljava/lang/String;"⟩ : MethodName) jdk_67_method_42_code 1 (some (.object "java/lang/String")) [] rm_tostr #[(.ref b1)] h0 [] n0 (Q_tostr Z b1 t1 xs h0) := by
  refine enterN (a0 := a0) (plainFor_of_name pn_2) O0 all0 ?_
  intro p e s m below meth c T0 hx hby hml hrt hnm hlk A0
  replace A0 : Wk false Z a0 [] n0 h0 [] "java/lang/StringBuilder" p l e rm_tostr s m #[(.ref b1)] below meth c [] T0 h0 0 0 := A0
  refine Run.st (T0.setTop (mkF m 0 #[.val (.ref b1)] [])) (fun _ k => castTop (ef_tostr m b1) k) ?_
  obtain ⟨a106, T106, h106, A106, E106, g106, Ex106, D106, st106⟩ := A0.newO hx (tw130 H.1) (tw2 H.1) (tw3 H.1) (g := (mkF m 0 #[.val (.ref b1)] [])) rfl (hb hby d23_0) (by decide) (by decide)
  refine Run.st (T106.setTop (mkF m 3 #[.val (.ref b1)] [(.ref a106)])) st106 ?_
  refine Run.st (T106.setTop (mkF m 5 #[.val (.ref b1)] [(.ref b1), (.ref a106), (.ref a106)])) (fun _ k => XS.dup A106.here hx rfl (hb hby d23_3) rfl rfl (XS.aloadN A106.here hx rfl (hb hby d23_4) rfl rfl k)) ?_
  have F108 : Fld Z h106 a106 "java/lang/String" "value" "[B" .null := D106 (Or.inr (tw29 H.1)) (ty := (.array .byte)) (by decide)
  have F109 : Fld Z h106 a106 "java/lang/String" "coder" "B" (.int 0) := D106 (Or.inr (tw27 H.1)) (ty := .byte) (by decide)
  have X110 : Ext h0 h106 := E106
  have f111 := B1.ext X110
  obtain ⟨v107, T107, h107, AA107, K107, ⟨L107, Q107⟩, st107⟩ := A106.callI hx (y := (⟨"java/lang/String", "<init>", "(Ljava/lang/StringBuilder;)V"⟩ : MethodName)) rfl (tw131 H.1) (tw132 H.1) (tw133 H.1) (by decide) (g := (mkF m 5 #[.val (.ref b1)] [(.ref b1), (.ref a106), (.ref a106)])) rfl (by rw [hml]; rfl) a106 [(.ref b1)] [(.ref a106)] (lenOf pd_16 rfl) rfl (Wd := 1) (by show 2 * 0 + _ ≤ _; exact Nat.le_of_eq rfl) (hb hby d23_5) (by decide) (by decide) [a106] (fun _ _ _ q => q.2) (allS (List.mem_of_getElem? (i := 0) rfl) all0) (fun vm0 hZ => payN (ct_sini1 H a106 b1 t1 xs .null (.int 0) A106.old Ex106 (A106.nle (List.mem_of_getElem? (i := 0) rfl)) Ex106.lt F108 F109 f111 hne) (tw133 H.1) (tw3 H.1) (by decide) (by decide) hZ)
  obtain ⟨Q107, N107, -⟩ := Q107
  obtain ⟨rfl, S107⟩ := Q107
  have A107 := AA107 [] all0
  refine Run.st (T107.setTop (mkF m 8 #[.val (.ref b1)] [(.ref a106)])) st107 ?_
  exact A107.leaveN hlk (some (.ref a106)) (fun q => by rw [hrt] at q; cases q) (by decide) (by decide) ⟨a106, rfl, keepE A107.keep, S107⟩ (fun X hr => retOut X hx (w := (.ref a106)) (t := (.object "java/lang/String")) hrt rfl (Or.inr (Or.inr (Or.inr (Or.inr ⟨rfl, rfl, rfl⟩)))) (hb hby d23_8) hr)
theorem ef_rec (m : MethodId) (y0 : Addr) : entryFrame m #[(.ref y0)] 1 = mkF m 0 #[.val (.ref y0)] [] := by first | (simp [entryFrame, mkF, argsToLocals, Value.category, maxLocals]; done) | rfl
def Q_rec (Z : State) (a1 : Addr) (h0 : Heap) (v : Option Value) (h : Heap) : Prop := v = none ∧ h = h0
def rm_rec : Room := { frames := 1, cells := 0, slots := 0, locals := 12 }
set_option maxRecDepth 65536 in
set_option maxHeartbeats 40000000 in
theorem ct_rec {l : Launch} {Z : State} {a0 : Array Value} (H : Ev Z a0) (a1 : Addr) {h0 : Heap} {n0 : Nat} (O0 : Old Z n0 h0) : CtrN l Z (⟨"java/lang/Record", "<init>", "()V"⟩ : MethodName) jdk_30_method_1_code 1 none [] rm_rec #[(.ref a1)] h0 [] n0 (Q_rec Z a1 h0) := by
  refine enterN (a0 := a0) (plainFor_of_name pn_5) O0 all0 ?_
  intro p e s m below meth c T0 hx hby hml hrt hnm hlk A0
  replace A0 : Wk false Z a0 [] n0 h0 [] "java/lang/Record" p l e rm_rec s m #[(.ref a1)] below meth c [] T0 h0 0 0 := A0
  refine Run.st (T0.setTop (mkF m 0 #[.val (.ref a1)] [])) (fun _ k => castTop (ef_rec m a1) k) ?_
  refine Run.st (T0.setTop (mkF m 1 #[.val (.ref a1)] [(.ref a1)])) (fun _ k => XS.aloadN A0.here hx rfl (hb hby d24_0) rfl rfl k) ?_
  obtain ⟨T112, A112, st112⟩ := A0.initO hx (tw45 H.1) (tw12 H.1) (tw13 H.1) (g := (mkF m 1 #[.val (.ref a1)] [(.ref a1)])) rfl (by rw [hml]; rfl) rfl (hb hby d24_1) (by decide) (Wd := 0) (by show 2 * 0 + _ ≤ _; exact Nat.le_of_eq rfl) (by decide)
  refine Run.st (T112.setTop (mkF m 4 #[.val (.ref a1)] [])) st112 ?_
  exact A112.leaveN hlk none (fun _ => rfl) (by decide) (by decide) ⟨rfl, rfl⟩ (fun X hr => X.returnOut hx hrt (hb hby d24_4) hr)
theorem ef_cmp (m : MethodId) (y0 : Addr) (y1 : Addr) (y2 : Value) (c_y2 : y2.category = 1) : entryFrame m #[(.ref y0), (.ref y1), y2] 3 = mkF m 0 #[.val (.ref y0), .val (.ref y1), .val y2] [] := by first | (simp [entryFrame, mkF, argsToLocals, cat_r, cat_i, cat_l, cat_n, maxLocals, c_y2]; done) | rfl
def Q_cmp (Z : State) (a1 : Addr) (b1 : Addr) (w2 : Value) (u_type : Value) (u_collation : Value) (h0 : Heap) (v : Option Value) (h : Heap) : Prop := v = none ∧ Exa Z h a1 "org/grantpath/TableSchema$Comparison" ∧ Fld Z h a1 "org/grantpath/TableSchema$Comparison" "type" "Ljava/lang/String;" (.ref b1) ∧ Fld Z h a1 "org/grantpath/TableSchema$Comparison" "collation" "Ljava/lang/String;" w2
def rm_cmp : Room := { frames := 2, cells := 0, slots := 0, locals := 24 }
set_option maxRecDepth 65536 in
set_option maxHeartbeats 40000000 in
theorem ct_cmp {l : Launch} {Z : State} {a0 : Array Value} (H : Ev Z a0) (a1 : Addr) (b1 : Addr) (w2 : Value) (u_type : Value) (u_collation : Value) {h0 : Heap} {n0 : Nat} (O0 : Old Z n0 h0) (E1 : Exa Z h0 a1 "org/grantpath/TableSchema$Comparison") (g_a1 : n0 ≤ a1) (z_a1 : a1 < h0.size) (F_type : Fld Z h0 a1 "org/grantpath/TableSchema$Comparison" "type" "Ljava/lang/String;" u_type) (F_collation : Fld Z h0 a1 "org/grantpath/TableSchema$Comparison" "collation" "Ljava/lang/String;" u_collation) (r2 : w2.isRef = true) : CtrN l Z (⟨"org/grantpath/TableSchema$Comparison", "<init>", "(Ljava/lang/String;Ljava/lang/String;)V"⟩ : MethodName) prog_35_method_1_code 3 none [] rm_cmp #[(.ref a1), (.ref b1), w2] h0 [a1] n0 (Q_cmp Z a1 b1 w2 u_type u_collation h0) := by
  refine enterN (a0 := a0) (plainFor_of_name pn_6) O0 (allS ⟨g_a1, z_a1⟩ all0) ?_
  intro p e s m below meth c T0 hx hby hml hrt hnm hlk A0
  replace A0 : Wk false Z a0 [] n0 h0 [a1] "org/grantpath/TableSchema$Comparison" p l e rm_cmp s m #[(.ref a1), (.ref b1), w2] below meth c [a1] T0 h0 0 0 := A0
  refine Run.st (T0.setTop (mkF m 0 #[.val (.ref a1), .val (.ref b1), .val w2] [])) (fun _ k => castTop (ef_cmp m a1 b1 w2 (catR r2)) k) ?_
  refine Run.st (T0.setTop (mkF m 1 #[.val (.ref a1), .val (.ref b1), .val w2] [(.ref a1)])) (fun _ k => XS.aloadN A0.here hx rfl (hb hby d25_0) rfl rfl k) ?_
  obtain ⟨v113, T113, h113, AA113, K113, ⟨L113, Q113⟩, st113⟩ := A0.callI hx (y := (⟨"java/lang/Record", "<init>", "()V"⟩ : MethodName)) rfl (tw40 H.1) (tw41 H.1) (tw44 H.1) (by decide) (g := (mkF m 1 #[.val (.ref a1), .val (.ref b1), .val w2] [(.ref a1)])) rfl (by rw [hml]; rfl) a1 [] [] (lenOf pd_17 rfl) rfl (Wd := 0) (by show 2 * 0 + _ ≤ _; exact Nat.le_of_eq rfl) (hb hby d25_1) (by decide) (by decide) [] (fun _ _ _ q => q.2) all0 (fun vm0 hZ => payN (ct_rec H a1 A0.old) (tw44 H.1) (tw43 H.1) (by decide) (by decide) hZ)
  obtain ⟨Q113, N113, -⟩ := Q113
  obtain ⟨rfl, q113⟩ := Q113
  have q113 := q113.symm
  subst q113
  have A113 := AA113 [] all0
  refine Run.st (T113.setTop (mkF m 4 #[.val (.ref a1), .val (.ref b1), .val w2] [])) st113 ?_
  refine Run.st (T113.setTop (mkF m 6 #[.val (.ref a1), .val (.ref b1), .val w2] [(.ref b1), (.ref a1)])) (fun _ k => XS.aloadN A113.here hx rfl (hb hby d25_4) rfl rfl (XS.aloadN A113.here hx rfl (hb hby d25_5) rfl rfl k)) ?_
  obtain ⟨T114, h114, A114, K114, W114, st114⟩ := A113.putF hx (tw46 H.1) Via.refl (a := a1) (List.mem_of_getElem? (i := 0) rfl) (v' := (.ref b1)) F_type E1 (Or.inr ⟨(tw47 H.1), rfl, hnm⟩) (tw35 H.1) (ty := (.object "java/lang/String")) (by decide) rfl rfl (g := (mkF m 6 #[.val (.ref a1), .val (.ref b1), .val w2] [(.ref b1), (.ref a1)])) rfl rfl (hb hby d25_6)
  have F114 : Fld Z h114 a1 "org/grantpath/TableSchema$Comparison" "type" "Ljava/lang/String;" (.ref b1) := F_type.same W114
  refine Run.st (T114.setTop (mkF m 9 #[.val (.ref a1), .val (.ref b1), .val w2] [])) st114 ?_
  refine Run.st (T114.setTop (mkF m 11 #[.val (.ref a1), .val (.ref b1), .val w2] [w2, (.ref a1)])) (fun _ k => XS.aloadN A114.here hx rfl (hb hby d25_9) rfl rfl (XS.aloadN A114.here hx rfl (hb hby d25_10) rfl r2 k)) ?_
  have f116 := (F_collation.other W114 (Or.inr (slot_ne (Or.inr (tw49 H.1)) (Or.inr (tw47 H.1)) (by decide) (t := (.object "java/lang/String")) (t' := (.object "java/lang/String")) (by decide) (by decide))))
  have f117 := (E1.wr W114)
  obtain ⟨T115, h115, A115, K115, W115, st115⟩ := A114.putF hx (tw48 H.1) Via.refl (a := a1) (List.mem_of_getElem? (i := 0) rfl) (v' := w2) f116 f117 (Or.inr ⟨(tw49 H.1), rfl, hnm⟩) (tw35 H.1) (ty := (.object "java/lang/String")) (by decide) (narR r2 rfl) (fitR r2 rfl) (g := (mkF m 11 #[.val (.ref a1), .val (.ref b1), .val w2] [w2, (.ref a1)])) rfl rfl (hb hby d25_11)
  have F115 : Fld Z h115 a1 "org/grantpath/TableSchema$Comparison" "collation" "Ljava/lang/String;" w2 := f116.same W115
  refine Run.st (T115.setTop (mkF m 14 #[.val (.ref a1), .val (.ref b1), .val w2] [])) st115 ?_
  have f118 := ((E1.wr W114).wr W115)
  have f119 := (F114.other W115 (Or.inr (slot_ne (Or.inr (tw47 H.1)) (Or.inr (tw49 H.1)) (by decide) (t := (.object "java/lang/String")) (t' := (.object "java/lang/String")) (by decide) (by decide))))
  exact A115.leaveN hlk none (fun _ => rfl) (by decide) (by decide) ⟨rfl, f118, f119, F115⟩ (fun X hr => X.returnOut hx hrt (hb hby d25_14) hr)
theorem ef_of0 (m : MethodId) (y0 : Addr) (y1 : Addr) : entryFrame m #[(.ref y0), (.ref y1)] 3 = mkF m 0 #[.val (.ref y0), .val (.ref y1), .unset] [] := by first | (simp [entryFrame, mkF, argsToLocals, Value.category, maxLocals]; done) | rfl
def Q_of0 (Z : State) (a1 : Addr) (e1 : Addr) (x0 : Int32) (x1 : Int32) (t1 : Addr) (y0 : Int32) (y1 : Int32) (h0 : Heap) (v : Option Value) (h : Heap) : Prop := ∃ a : Addr, v = some (.ref a) ∧ Ext h0 h ∧ StrA Z h a ((67 : Int32) :: 65 :: 83 :: 84 :: 40 :: x0 :: x1 :: 32 :: 65 :: 83 :: 32 :: y0 :: y1 :: 41 :: [])
def rm_of0 : Room := { frames := 6, cells := 15, slots := 280, locals := 91 }
set_option maxRecDepth 65536 in
set_option maxHeartbeats 40000000 in
theorem ct_of0 {l : Launch} {Z : State} {a0 : Array Value} (H : Ev Z a0) (a1 : Addr) (e1 : Addr) (x0 : Int32) (x1 : Int32) (t1 : Addr) (y0 : Int32) (y1 : Int32) {h0 : Heap} {n0 : Nat} (O0 : Old Z n0 h0) (Ft : Fld Z h0 a1 "org/grantpath/TableSchema$Comparison" "type" "Ljava/lang/String;" (.ref t1)) (Fk : Fld Z h0 a1 "org/grantpath/TableSchema$Comparison" "collation" "Ljava/lang/String;" .null) (Se : StrA Z h0 e1 [x0, x1]) (St : StrA Z h0 t1 [y0, y1]) : CtrW l Z EL (⟨"org/grantpath/TableSchema$Comparison", "of", "(Ljava/lang/String;)Ljava/lang/String;"⟩ : MethodName) prog_35_method_2_code 3 (some (.object "java/lang/String")) [] rm_of0 #[(.ref a1), (.ref e1)] h0 [] n0 (Q_of0 Z a1 e1 x0 x1 t1 y0 y1 h0) := by
  refine enterW (a0 := a0) (plainFor_of_name pn_6) (elA H) O0 all0 ?_
  intro p e s m below meth c T0 hx hby hml hrt hnm hlk hh0 A0
  replace A0 : Wk true Z a0 EL n0 h0 [] "org/grantpath/TableSchema$Comparison" p l e rm_of0 s m #[(.ref a1), (.ref e1)] below meth c [] T0 h0 0 0 := A0
  refine Run.st (T0.setTop (mkF m 0 #[.val (.ref a1), .val (.ref e1), .unset] [])) (fun _ k => castTop (ef_of0 m a1 e1) k) ?_
  obtain ⟨a120, T120, h120, A120, E120, g120, Ex120, D120, st120⟩ := A0.newO hx (tw55 H.1) (tw56 H.1) (tw57 H.1) (g := (mkF m 0 #[.val (.ref a1), .val (.ref e1), .unset] [])) rfl (hb hby d26_0) (by decide) (by decide)
  refine Run.st (T120.setTop (mkF m 3 #[.val (.ref a1), .val (.ref e1), .unset] [(.ref a120)])) st120 ?_
  refine Run.st (T120.setTop (mkF m 4 #[.val (.ref a1), .val (.ref e1), .unset] [(.ref a120), (.ref a120)])) (fun _ k => XS.dup A120.here hx rfl (hb hby d26_3) rfl rfl k) ?_
  have F122 : Fld Z h120 a120 "java/lang/AbstractStringBuilder" "count" "I" (.int 0) := D120 (Or.inl (tw97 H.1)) (ty := .int) (by decide)
  have F123 : Fld Z h120 a120 "java/lang/AbstractStringBuilder" "coder" "B" (.int 0) := D120 (Or.inl (tw72 H.1)) (ty := .byte) (by decide)
  have F124 : Fld Z h120 a120 "java/lang/AbstractStringBuilder" "value" "[B" .null := D120 (Or.inl (tw70 H.1)) (ty := (.array .byte)) (by decide)
  obtain ⟨v121, T121, h121, AA121, K121, ⟨L121, Q121⟩, st121⟩ := A120.callI hx (y := (⟨"java/lang/StringBuilder", "<init>", "()V"⟩ : MethodName)) rfl (tw58 H.1) (tw59 H.1) (tw60 H.1) (by decide) (g := (mkF m 4 #[.val (.ref a1), .val (.ref e1), .unset] [(.ref a120), (.ref a120)])) rfl (by rw [hml]; rfl) a120 [] [(.ref a120)] (lenOf pd_17 rfl) rfl (Wd := 1) (by show 2 * 0 + _ ≤ _; exact Nat.le_of_eq rfl) (hb hby d26_4) (by decide) (by decide) [a120] (fun _ _ _ q => q.2) (allS (List.mem_of_getElem? (i := 0) rfl) all0) (fun vm0 hZ => payN (ct_sbini H a120 (.int 0) .null A120.old Ex120 (A120.nle (List.mem_of_getElem? (i := 0) rfl)) Ex120.lt F122 F123 F124) (tw60 H.1) (tw57 H.1) (by decide) (by decide) hZ)
  obtain ⟨Q121, N121, -⟩ := Q121
  obtain ⟨rfl, t121, hf121, B121⟩ := Q121
  have A121 := AA121 [t121] (allS (Or.inr hf121) all0)
  refine Run.st (T121.setTop (mkF m 7 #[.val (.ref a1), .val (.ref e1), .unset] [(.ref a120)])) st121 ?_
  obtain ⟨a125, b125, kA125, T125, h125, A125, E125, Ex125, Fc125, Fv125, Va125, ne125, st125⟩ := A121.ldc hx (tw73 H.1) (strsA H) (List.mem_of_getElem? (i := 0) rfl) (vs := (([(67 : Int32), (65 : Int32), (83 : Int32), (84 : Int32), (40 : Int32)] : List Int32).map fun c => c.toInt8.toInt32).map Value.int) (z := (5 : Int32)) ⟨by decide, by decide +kernel⟩ (by decide) (by decide +kernel) (g := (mkF m 7 #[.val (.ref a1), .val (.ref e1), .unset] [(.ref a120)])) rfl (hb hby d26_7) (q := 20) (by decide) (by decide) (by decide) (by decide)
  have S125 : StrA Z h125 a125 [(67 : Int32), (65 : Int32), (83 : Int32), (84 : Int32), (40 : Int32)] := ⟨Ex125, Fc125, ⟨b125, kA125, Fv125, Va125⟩, by decide, by decide⟩
  refine Run.st (T125.setTop (mkF m 9 #[.val (.ref a1), .val (.ref e1), .unset] [(.ref a125), (.ref a120)])) st125 ?_
  have X127 : Ext h121 h125 := E125
  have f128 := B121.ext X127
  have f129 := B121.1.ext X127
  obtain ⟨v126, T126, h126, AA126, K126, ⟨L126, Q126⟩, st126⟩ := A125.callV hx (y := (⟨"java/lang/StringBuilder", "append", "(Ljava/lang/String;)Ljava/lang/StringBuilder;"⟩ : MethodName)) (z := (⟨"java/lang/StringBuilder", "append", "(Ljava/lang/String;)Ljava/lang/StringBuilder;"⟩ : MethodName)) (tw76 H.1) (tw77 H.1) (tw79 H.1) (tw78 H.1) (nfSel (tw79 H.1)) (by decide) f129 (g := (mkF m 9 #[.val (.ref a1), .val (.ref e1), .unset] [(.ref a125), (.ref a120)])) rfl (by rw [hml]; rfl) [(.ref a125)] [] (lenOf pd_18 rfl) rfl (Wd := 0) (by show 2 * 0 + _ ≤ _; exact Nat.le_of_eq rfl) (hb hby d26_9) (by decide) (by decide) [a120, t121] (fun _ _ _ q => q.2) (allS (List.mem_of_getElem? (i := 1) rfl) (allS (List.mem_of_getElem? (i := 0) rfl) all0)) (fun vm0 hZ => payN (ct_sbapp H a120 t121 [] a125 [(67 : Int32), (65 : Int32), (83 : Int32), (84 : Int32), (40 : Int32)] A125.old f128 S125 (Nat.le_of_ble_eq_true rfl) (A125.nle (List.mem_of_getElem? (i := 1) rfl)) f128.lt (A125.nle (List.mem_of_getElem? (i := 0) rfl)) f128.tlt) (tw80 H.1) (tw57 H.1) (by decide) (by decide) hZ)
  obtain ⟨Q126, N126, -⟩ := Q126
  obtain ⟨rfl, t126, ho126, B126⟩ := Q126
  have Z130 : h120.size ≤ h121.size := K121.1
  have Z131 : h120.size ≤ h125.size := Nat.le_trans Z130 E125.1
  have gt126 : h120.size ≤ t126 := ho126.elim (fun e => e ▸ hf121.1) (fun q => Nat.le_trans Z131 q.1)
  have A126 := AA126 [t126] (allS (tcase ho126 (List.mem_of_getElem? (i := 0) rfl)) all0)
  refine Run.st (T126.setTop (mkF m 12 #[.val (.ref a1), .val (.ref e1), .unset] [(.ref a120)])) st126 ?_
  refine Run.st (T126.setTop (mkF m 13 #[.val (.ref a1), .val (.ref e1), .unset] [(.ref e1), (.ref a120)])) (fun _ k => XS.aloadN A126.here hx rfl (hb hby d26_12) rfl rfl k) ?_
  have Z133 : h0.size ≤ h120.size := E120.1
  have X134 : Ext h0 h120 := E120
  have X135 : Ext h0 h121 := extK X134 K121 (allS (Nat.le_of_eq g120) all0)
  have X136 : Ext h0 h125 := (extT X135 E125)
  have X137 : Ext h0 h126 := extK X136 K126 (allS (Nat.le_of_eq g120) (allS (Nat.le_trans Z133 hf121.1) all0))
  have f138 := Se.ext X137
  obtain ⟨v132, T132, h132, AA132, K132, ⟨L132, Q132⟩, st132⟩ := A126.callV hx (y := (⟨"java/lang/StringBuilder", "append", "(Ljava/lang/String;)Ljava/lang/StringBuilder;"⟩ : MethodName)) (z := (⟨"java/lang/StringBuilder", "append", "(Ljava/lang/String;)Ljava/lang/StringBuilder;"⟩ : MethodName)) (tw76 H.1) (tw77 H.1) (tw79 H.1) (tw78 H.1) (nfSel (tw79 H.1)) (by decide) B126.1 (g := (mkF m 13 #[.val (.ref a1), .val (.ref e1), .unset] [(.ref e1), (.ref a120)])) rfl (by rw [hml]; rfl) [(.ref e1)] [] (lenOf pd_18 rfl) rfl (Wd := 0) (by show 2 * 0 + _ ≤ _; exact Nat.le_of_eq rfl) (hb hby d26_13) (by decide) (by decide) [a120, t126] (fun _ _ _ q => q.2) (allS (List.mem_of_getElem? (i := 2) rfl) (allS (List.mem_of_getElem? (i := 0) rfl) all0)) (fun vm0 hZ => payN (ct_sbapp H a120 t126 ([] ++ [(67 : Int32), (65 : Int32), (83 : Int32), (84 : Int32), (40 : Int32)]) e1 [x0, x1] A126.old B126 f138 (Nat.le_of_ble_eq_true rfl) (A126.nle (List.mem_of_getElem? (i := 2) rfl)) B126.lt (A126.nle (List.mem_of_getElem? (i := 0) rfl)) B126.tlt) (tw80 H.1) (tw57 H.1) (by decide) (by decide) hZ)
  obtain ⟨Q132, N132, -⟩ := Q132
  obtain ⟨rfl, t132, ho132, B132⟩ := Q132
  have Z139 : h120.size ≤ h126.size := Nat.le_trans Z131 K126.1
  have gt132 : h120.size ≤ t132 := ho132.elim (fun e => e ▸ gt126) (fun q => Nat.le_trans Z139 q.1)
  have A132 := AA132 [t132] (allS (tcase ho132 (List.mem_of_getElem? (i := 0) rfl)) all0)
  refine Run.st (T132.setTop (mkF m 16 #[.val (.ref a1), .val (.ref e1), .unset] [(.ref a120)])) st132 ?_
  obtain ⟨a140, b140, kA140, T140, h140, A140, E140, Ex140, Fc140, Fv140, Va140, ne140, st140⟩ := A132.ldc hx (tw123 H.1) (strsA H) (List.mem_of_getElem? (i := 1) rfl) (vs := (([(32 : Int32), (65 : Int32), (83 : Int32), (32 : Int32)] : List Int32).map fun c => c.toInt8.toInt32).map Value.int) (z := (4 : Int32)) ⟨by decide, by decide +kernel⟩ (by decide) (by decide +kernel) (g := (mkF m 16 #[.val (.ref a1), .val (.ref e1), .unset] [(.ref a120)])) rfl (hb hby d26_16) (q := 16) (by decide) (by decide) (by decide) (by decide)
  have S140 : StrA Z h140 a140 [(32 : Int32), (65 : Int32), (83 : Int32), (32 : Int32)] := ⟨Ex140, Fc140, ⟨b140, kA140, Fv140, Va140⟩, by decide, by decide⟩
  refine Run.st (T140.setTop (mkF m 18 #[.val (.ref a1), .val (.ref e1), .unset] [(.ref a140), (.ref a120)])) st140 ?_
  have X142 : Ext h132 h140 := E140
  have f143 := B132.ext X142
  have f144 := B132.1.ext X142
  obtain ⟨v141, T141, h141, AA141, K141, ⟨L141, Q141⟩, st141⟩ := A140.callV hx (y := (⟨"java/lang/StringBuilder", "append", "(Ljava/lang/String;)Ljava/lang/StringBuilder;"⟩ : MethodName)) (z := (⟨"java/lang/StringBuilder", "append", "(Ljava/lang/String;)Ljava/lang/StringBuilder;"⟩ : MethodName)) (tw76 H.1) (tw77 H.1) (tw79 H.1) (tw78 H.1) (nfSel (tw79 H.1)) (by decide) f144 (g := (mkF m 18 #[.val (.ref a1), .val (.ref e1), .unset] [(.ref a140), (.ref a120)])) rfl (by rw [hml]; rfl) [(.ref a140)] [] (lenOf pd_18 rfl) rfl (Wd := 0) (by show 2 * 0 + _ ≤ _; exact Nat.le_of_eq rfl) (hb hby d26_18) (by decide) (by decide) [a120, t132] (fun _ _ _ q => q.2) (allS (List.mem_of_getElem? (i := 3) rfl) (allS (List.mem_of_getElem? (i := 0) rfl) all0)) (fun vm0 hZ => payN (ct_sbapp H a120 t132 (([] ++ [(67 : Int32), (65 : Int32), (83 : Int32), (84 : Int32), (40 : Int32)]) ++ [x0, x1]) a140 [(32 : Int32), (65 : Int32), (83 : Int32), (32 : Int32)] A140.old f143 S140 (Nat.le_of_ble_eq_true rfl) (A140.nle (List.mem_of_getElem? (i := 3) rfl)) f143.lt (A140.nle (List.mem_of_getElem? (i := 0) rfl)) f143.tlt) (tw80 H.1) (tw57 H.1) (by decide) (by decide) hZ)
  obtain ⟨Q141, N141, -⟩ := Q141
  obtain ⟨rfl, t141, ho141, B141⟩ := Q141
  have Z145 : h120.size ≤ h132.size := Nat.le_trans Z139 K132.1
  have Z146 : h120.size ≤ h140.size := Nat.le_trans Z145 E140.1
  have gt141 : h120.size ≤ t141 := ho141.elim (fun e => e ▸ gt132) (fun q => Nat.le_trans Z146 q.1)
  have A141 := AA141 [t141] (allS (tcase ho141 (List.mem_of_getElem? (i := 0) rfl)) all0)
  refine Run.st (T141.setTop (mkF m 21 #[.val (.ref a1), .val (.ref e1), .unset] [(.ref a120)])) st141 ?_
  refine Run.st (T141.setTop (mkF m 22 #[.val (.ref a1), .val (.ref e1), .unset] [(.ref a1), (.ref a120)])) (fun _ k => XS.aloadN A141.here hx rfl (hb hby d26_21) rfl rfl k) ?_
  have X148 : Ext h0 h132 := extK X137 K132 (allS (Nat.le_of_eq g120) (allS (Nat.le_trans Z133 gt126) all0))
  have X149 : Ext h0 h140 := (extT X148 E140)
  have X150 : Ext h0 h141 := extK X149 K141 (allS (Nat.le_of_eq g120) (allS (Nat.le_trans Z133 gt132) all0))
  have f151 := Ft.ext X150
  obtain ⟨T147, A147, st147⟩ := A141.getF hx (tw46 H.1) Via.refl f151 (g := (mkF m 22 #[.val (.ref a1), .val (.ref e1), .unset] [(.ref a1), (.ref a120)])) rfl rfl (hb hby d26_22)
  refine Run.st (T147.setTop (mkF m 25 #[.val (.ref a1), .val (.ref e1), .unset] [(.ref t1), (.ref a120)])) st147 ?_
  have f153 := St.ext X150
  obtain ⟨v152, T152, h152, AA152, K152, ⟨L152, Q152⟩, st152⟩ := A147.callV hx (y := (⟨"java/lang/StringBuilder", "append", "(Ljava/lang/String;)Ljava/lang/StringBuilder;"⟩ : MethodName)) (z := (⟨"java/lang/StringBuilder", "append", "(Ljava/lang/String;)Ljava/lang/StringBuilder;"⟩ : MethodName)) (tw76 H.1) (tw77 H.1) (tw79 H.1) (tw78 H.1) (nfSel (tw79 H.1)) (by decide) B141.1 (g := (mkF m 25 #[.val (.ref a1), .val (.ref e1), .unset] [(.ref t1), (.ref a120)])) rfl (by rw [hml]; rfl) [(.ref t1)] [] (lenOf pd_18 rfl) rfl (Wd := 0) (by show 2 * 0 + _ ≤ _; exact Nat.le_of_eq rfl) (hb hby d26_25) (by decide) (by decide) [a120, t141] (fun _ _ _ q => q.2) (allS (List.mem_of_getElem? (i := 4) rfl) (allS (List.mem_of_getElem? (i := 0) rfl) all0)) (fun vm0 hZ => payN (ct_sbapp H a120 t141 ((([] ++ [(67 : Int32), (65 : Int32), (83 : Int32), (84 : Int32), (40 : Int32)]) ++ [x0, x1]) ++ [(32 : Int32), (65 : Int32), (83 : Int32), (32 : Int32)]) t1 [y0, y1] A147.old B141 f153 (Nat.le_of_ble_eq_true rfl) (A147.nle (List.mem_of_getElem? (i := 4) rfl)) B141.lt (A147.nle (List.mem_of_getElem? (i := 0) rfl)) B141.tlt) (tw80 H.1) (tw57 H.1) (by decide) (by decide) hZ)
  obtain ⟨Q152, N152, -⟩ := Q152
  obtain ⟨rfl, t152, ho152, B152⟩ := Q152
  have Z154 : h120.size ≤ h141.size := Nat.le_trans Z146 K141.1
  have gt152 : h120.size ≤ t152 := ho152.elim (fun e => e ▸ gt141) (fun q => Nat.le_trans Z154 q.1)
  have A152 := AA152 [t152] (allS (tcase ho152 (List.mem_of_getElem? (i := 0) rfl)) all0)
  refine Run.st (T152.setTop (mkF m 28 #[.val (.ref a1), .val (.ref e1), .unset] [(.ref a120)])) st152 ?_
  obtain ⟨a155, b155, kA155, T155, h155, A155, E155, Ex155, Fc155, Fv155, Va155, ne155, st155⟩ := A152.ldc hx (tw124 H.1) (strsA H) (List.mem_of_getElem? (i := 2) rfl) (vs := (([(41 : Int32)] : List Int32).map fun c => c.toInt8.toInt32).map Value.int) (z := (1 : Int32)) ⟨by decide, by decide +kernel⟩ (by decide) (by decide +kernel) (g := (mkF m 28 #[.val (.ref a1), .val (.ref e1), .unset] [(.ref a120)])) rfl (hb hby d26_28) (q := 4) (by decide) (by decide) (by decide) (by decide)
  have S155 : StrA Z h155 a155 [(41 : Int32)] := ⟨Ex155, Fc155, ⟨b155, kA155, Fv155, Va155⟩, by decide, by decide⟩
  refine Run.st (T155.setTop (mkF m 30 #[.val (.ref a1), .val (.ref e1), .unset] [(.ref a155), (.ref a120)])) st155 ?_
  have X157 : Ext h152 h155 := E155
  have f158 := B152.ext X157
  have f159 := B152.1.ext X157
  obtain ⟨v156, T156, h156, AA156, K156, ⟨L156, Q156⟩, st156⟩ := A155.callV hx (y := (⟨"java/lang/StringBuilder", "append", "(Ljava/lang/String;)Ljava/lang/StringBuilder;"⟩ : MethodName)) (z := (⟨"java/lang/StringBuilder", "append", "(Ljava/lang/String;)Ljava/lang/StringBuilder;"⟩ : MethodName)) (tw76 H.1) (tw77 H.1) (tw79 H.1) (tw78 H.1) (nfSel (tw79 H.1)) (by decide) f159 (g := (mkF m 30 #[.val (.ref a1), .val (.ref e1), .unset] [(.ref a155), (.ref a120)])) rfl (by rw [hml]; rfl) [(.ref a155)] [] (lenOf pd_18 rfl) rfl (Wd := 0) (by show 2 * 0 + _ ≤ _; exact Nat.le_of_eq rfl) (hb hby d26_30) (by decide) (by decide) [a120, t152] (fun _ _ _ q => q.2) (allS (List.mem_of_getElem? (i := 5) rfl) (allS (List.mem_of_getElem? (i := 0) rfl) all0)) (fun vm0 hZ => payN (ct_sbapp H a120 t152 (((([] ++ [(67 : Int32), (65 : Int32), (83 : Int32), (84 : Int32), (40 : Int32)]) ++ [x0, x1]) ++ [(32 : Int32), (65 : Int32), (83 : Int32), (32 : Int32)]) ++ [y0, y1]) a155 [(41 : Int32)] A155.old f158 S155 (Nat.le_of_ble_eq_true rfl) (A155.nle (List.mem_of_getElem? (i := 5) rfl)) f158.lt (A155.nle (List.mem_of_getElem? (i := 0) rfl)) f158.tlt) (tw80 H.1) (tw57 H.1) (by decide) (by decide) hZ)
  obtain ⟨Q156, N156, -⟩ := Q156
  obtain ⟨rfl, t156, ho156, B156⟩ := Q156
  have Z160 : h120.size ≤ h152.size := Nat.le_trans Z154 K152.1
  have Z161 : h120.size ≤ h155.size := Nat.le_trans Z160 E155.1
  have gt156 : h120.size ≤ t156 := ho156.elim (fun e => e ▸ gt152) (fun q => Nat.le_trans Z161 q.1)
  have A156 := AA156 [t156] (allS (tcase ho156 (List.mem_of_getElem? (i := 0) rfl)) all0)
  refine Run.st (T156.setTop (mkF m 33 #[.val (.ref a1), .val (.ref e1), .unset] [(.ref a120)])) st156 ?_
  obtain ⟨v162, T162, h162, AA162, K162, ⟨L162, Q162⟩, st162⟩ := A156.callV hx (y := (⟨"java/lang/StringBuilder", "toString", "()Ljava/lang/String;"⟩ : MethodName)) (z := (⟨"java/lang/StringBuilder", "toString", "()Ljava/lang/String;"⟩ : MethodName)) (tw125 H.1) (tw126 H.1) (tw128 H.1) (tw127 H.1) (nfSel (tw128 H.1)) (by decide) B156.1 (g := (mkF m 33 #[.val (.ref a1), .val (.ref e1), .unset] [(.ref a120)])) rfl (by rw [hml]; rfl) [] [] (lenOf pd_19 rfl) rfl (Wd := 0) (by show 2 * 0 + _ ≤ _; exact Nat.le_of_eq rfl) (hb hby d26_33) (by decide) (by decide) [] (fun _ _ _ q => q.2) all0 (fun vm0 hZ => payN (ct_tostr H a120 t156 ((((([] ++ [(67 : Int32), (65 : Int32), (83 : Int32), (84 : Int32), (40 : Int32)]) ++ [x0, x1]) ++ [(32 : Int32), (65 : Int32), (83 : Int32), (32 : Int32)]) ++ [y0, y1]) ++ [(41 : Int32)]) A156.old B156 (hneK (k := 14) rfl (by decide) (by decide))) (tw129 H.1) (tw57 H.1) (by decide) (by decide) hZ)
  obtain ⟨Q162, N162, -⟩ := Q162
  obtain ⟨a162, rfl, X162, S162⟩ := Q162
  have A162 := AA162 [] all0
  refine Run.st (T162.setTop (mkF m 36 #[.val (.ref a1), .val (.ref e1), .unset] [(.ref a162)])) st162 ?_
  refine Run.st (T162.setTop (mkF m 38 #[.val (.ref a1), .val (.ref e1), .val (.ref a162)] [(.ref a1)])) (fun _ k => XS.astoreN A162.here hx rfl (hb hby d26_36) rfl rfl (l' := #[.val (.ref a1), .val (.ref e1), .val (.ref a162)]) rfl (XS.aloadN A162.here hx rfl (hb hby d26_37) rfl rfl k)) ?_
  have X164 : Ext h0 h152 := extK X150 K152 (allS (Nat.le_of_eq g120) (allS (Nat.le_trans Z133 gt141) all0))
  have X165 : Ext h0 h155 := (extT X164 E155)
  have X166 : Ext h0 h156 := extK X165 K156 (allS (Nat.le_of_eq g120) (allS (Nat.le_trans Z133 gt152) all0))
  have X167 : Ext h0 h162 := (extT X166 X162)
  have f168 := Fk.ext X167
  obtain ⟨T163, A163, st163⟩ := A162.getF hx (tw48 H.1) Via.refl f168 (g := (mkF m 38 #[.val (.ref a1), .val (.ref e1), .val (.ref a162)] [(.ref a1)])) rfl rfl (hb hby d26_38)
  refine Run.st (T163.setTop (mkF m 41 #[.val (.ref a1), .val (.ref e1), .val (.ref a162)] [.null])) st163 ?_
  refine Run.st (T163.setTop (mkF m 74 #[.val (.ref a1), .val (.ref e1), .val (.ref a162)] [(.ref a162)])) (fun _ k => XS.ifnonnullNo A163.here hx rfl (hb hby d26_41) rfl (XS.aloadN A163.here hx rfl (hb hby d26_44) rfl rfl (XS.goto A163.here hx rfl (pc0 := 45) (pc' := 74) rfl (hb hby d26_45) (by decide) (by decide) k))) ?_
  exact A163.leaveW hlk hh0 (some (.ref a162)) (fun q => by rw [hrt] at q; cases q) (by decide) (by decide) ⟨a162, rfl, keepE A163.keep, S162⟩ (fun X hr => retOut X hx (w := (.ref a162)) (t := (.object "java/lang/String")) hrt rfl (Or.inr (Or.inr (Or.inr (Or.inr ⟨rfl, rfl, rfl⟩)))) (hb hby d26_74) hr)
theorem ef_of1 (m : MethodId) (y0 : Addr) (y1 : Addr) : entryFrame m #[(.ref y0), (.ref y1)] 3 = mkF m 0 #[.val (.ref y0), .val (.ref y1), .unset] [] := by first | (simp [entryFrame, mkF, argsToLocals, Value.category, maxLocals]; done) | rfl
def Q_of1 (Z : State) (a1 : Addr) (e1 : Addr) (x0 : Int32) (x1 : Int32) (t1 : Addr) (y0 : Int32) (y1 : Int32) (k1 : Addr) (z0 : Int32) (z1 : Int32) (h0 : Heap) (v : Option Value) (h : Heap) : Prop := ∃ a : Addr, v = some (.ref a) ∧ Ext h0 h ∧ StrA Z h a ((67 : Int32) :: 65 :: 83 :: 84 :: 40 :: x0 :: x1 :: 32 :: 65 :: 83 :: 32 :: y0 :: y1 :: 41 :: 32 :: 67 :: 79 :: 76 :: 76 :: 65 :: 84 :: 69 :: 32 :: z0 :: z1 :: [])
def rm_of1 : Room := { frames := 6, cells := 24, slots := 480, locals := 91 }
set_option maxRecDepth 65536 in
set_option maxHeartbeats 40000000 in
theorem ct_of1 {l : Launch} {Z : State} {a0 : Array Value} (H : Ev Z a0) (a1 : Addr) (e1 : Addr) (x0 : Int32) (x1 : Int32) (t1 : Addr) (y0 : Int32) (y1 : Int32) (k1 : Addr) (z0 : Int32) (z1 : Int32) {h0 : Heap} {n0 : Nat} (O0 : Old Z n0 h0) (Ft : Fld Z h0 a1 "org/grantpath/TableSchema$Comparison" "type" "Ljava/lang/String;" (.ref t1)) (Fk : Fld Z h0 a1 "org/grantpath/TableSchema$Comparison" "collation" "Ljava/lang/String;" (.ref k1)) (Se : StrA Z h0 e1 [x0, x1]) (St : StrA Z h0 t1 [y0, y1]) (Sk : StrA Z h0 k1 [z0, z1]) : CtrW l Z EL (⟨"org/grantpath/TableSchema$Comparison", "of", "(Ljava/lang/String;)Ljava/lang/String;"⟩ : MethodName) prog_35_method_2_code 3 (some (.object "java/lang/String")) [] rm_of1 #[(.ref a1), (.ref e1)] h0 [] n0 (Q_of1 Z a1 e1 x0 x1 t1 y0 y1 k1 z0 z1 h0) := by
  refine enterW (a0 := a0) (plainFor_of_name pn_6) (elA H) O0 all0 ?_
  intro p e s m below meth c T0 hx hby hml hrt hnm hlk hh0 A0
  replace A0 : Wk true Z a0 EL n0 h0 [] "org/grantpath/TableSchema$Comparison" p l e rm_of1 s m #[(.ref a1), (.ref e1)] below meth c [] T0 h0 0 0 := A0
  refine Run.st (T0.setTop (mkF m 0 #[.val (.ref a1), .val (.ref e1), .unset] [])) (fun _ k => castTop (ef_of1 m a1 e1) k) ?_
  obtain ⟨a169, T169, h169, A169, E169, g169, Ex169, D169, st169⟩ := A0.newO hx (tw55 H.1) (tw56 H.1) (tw57 H.1) (g := (mkF m 0 #[.val (.ref a1), .val (.ref e1), .unset] [])) rfl (hb hby d26_0) (by decide) (by decide)
  refine Run.st (T169.setTop (mkF m 3 #[.val (.ref a1), .val (.ref e1), .unset] [(.ref a169)])) st169 ?_
  refine Run.st (T169.setTop (mkF m 4 #[.val (.ref a1), .val (.ref e1), .unset] [(.ref a169), (.ref a169)])) (fun _ k => XS.dup A169.here hx rfl (hb hby d26_3) rfl rfl k) ?_
  have F171 : Fld Z h169 a169 "java/lang/AbstractStringBuilder" "count" "I" (.int 0) := D169 (Or.inl (tw97 H.1)) (ty := .int) (by decide)
  have F172 : Fld Z h169 a169 "java/lang/AbstractStringBuilder" "coder" "B" (.int 0) := D169 (Or.inl (tw72 H.1)) (ty := .byte) (by decide)
  have F173 : Fld Z h169 a169 "java/lang/AbstractStringBuilder" "value" "[B" .null := D169 (Or.inl (tw70 H.1)) (ty := (.array .byte)) (by decide)
  obtain ⟨v170, T170, h170, AA170, K170, ⟨L170, Q170⟩, st170⟩ := A169.callI hx (y := (⟨"java/lang/StringBuilder", "<init>", "()V"⟩ : MethodName)) rfl (tw58 H.1) (tw59 H.1) (tw60 H.1) (by decide) (g := (mkF m 4 #[.val (.ref a1), .val (.ref e1), .unset] [(.ref a169), (.ref a169)])) rfl (by rw [hml]; rfl) a169 [] [(.ref a169)] (lenOf pd_17 rfl) rfl (Wd := 1) (by show 2 * 0 + _ ≤ _; exact Nat.le_of_eq rfl) (hb hby d26_4) (by decide) (by decide) [a169] (fun _ _ _ q => q.2) (allS (List.mem_of_getElem? (i := 0) rfl) all0) (fun vm0 hZ => payN (ct_sbini H a169 (.int 0) .null A169.old Ex169 (A169.nle (List.mem_of_getElem? (i := 0) rfl)) Ex169.lt F171 F172 F173) (tw60 H.1) (tw57 H.1) (by decide) (by decide) hZ)
  obtain ⟨Q170, N170, -⟩ := Q170
  obtain ⟨rfl, t170, hf170, B170⟩ := Q170
  have A170 := AA170 [t170] (allS (Or.inr hf170) all0)
  refine Run.st (T170.setTop (mkF m 7 #[.val (.ref a1), .val (.ref e1), .unset] [(.ref a169)])) st170 ?_
  obtain ⟨a174, b174, kA174, T174, h174, A174, E174, Ex174, Fc174, Fv174, Va174, ne174, st174⟩ := A170.ldc hx (tw73 H.1) (strsA H) (List.mem_of_getElem? (i := 0) rfl) (vs := (([(67 : Int32), (65 : Int32), (83 : Int32), (84 : Int32), (40 : Int32)] : List Int32).map fun c => c.toInt8.toInt32).map Value.int) (z := (5 : Int32)) ⟨by decide, by decide +kernel⟩ (by decide) (by decide +kernel) (g := (mkF m 7 #[.val (.ref a1), .val (.ref e1), .unset] [(.ref a169)])) rfl (hb hby d26_7) (q := 20) (by decide) (by decide) (by decide) (by decide)
  have S174 : StrA Z h174 a174 [(67 : Int32), (65 : Int32), (83 : Int32), (84 : Int32), (40 : Int32)] := ⟨Ex174, Fc174, ⟨b174, kA174, Fv174, Va174⟩, by decide, by decide⟩
  refine Run.st (T174.setTop (mkF m 9 #[.val (.ref a1), .val (.ref e1), .unset] [(.ref a174), (.ref a169)])) st174 ?_
  have X176 : Ext h170 h174 := E174
  have f177 := B170.ext X176
  have f178 := B170.1.ext X176
  obtain ⟨v175, T175, h175, AA175, K175, ⟨L175, Q175⟩, st175⟩ := A174.callV hx (y := (⟨"java/lang/StringBuilder", "append", "(Ljava/lang/String;)Ljava/lang/StringBuilder;"⟩ : MethodName)) (z := (⟨"java/lang/StringBuilder", "append", "(Ljava/lang/String;)Ljava/lang/StringBuilder;"⟩ : MethodName)) (tw76 H.1) (tw77 H.1) (tw79 H.1) (tw78 H.1) (nfSel (tw79 H.1)) (by decide) f178 (g := (mkF m 9 #[.val (.ref a1), .val (.ref e1), .unset] [(.ref a174), (.ref a169)])) rfl (by rw [hml]; rfl) [(.ref a174)] [] (lenOf pd_18 rfl) rfl (Wd := 0) (by show 2 * 0 + _ ≤ _; exact Nat.le_of_eq rfl) (hb hby d26_9) (by decide) (by decide) [a169, t170] (fun _ _ _ q => q.2) (allS (List.mem_of_getElem? (i := 1) rfl) (allS (List.mem_of_getElem? (i := 0) rfl) all0)) (fun vm0 hZ => payN (ct_sbapp H a169 t170 [] a174 [(67 : Int32), (65 : Int32), (83 : Int32), (84 : Int32), (40 : Int32)] A174.old f177 S174 (Nat.le_of_ble_eq_true rfl) (A174.nle (List.mem_of_getElem? (i := 1) rfl)) f177.lt (A174.nle (List.mem_of_getElem? (i := 0) rfl)) f177.tlt) (tw80 H.1) (tw57 H.1) (by decide) (by decide) hZ)
  obtain ⟨Q175, N175, -⟩ := Q175
  obtain ⟨rfl, t175, ho175, B175⟩ := Q175
  have Z179 : h169.size ≤ h170.size := K170.1
  have Z180 : h169.size ≤ h174.size := Nat.le_trans Z179 E174.1
  have gt175 : h169.size ≤ t175 := ho175.elim (fun e => e ▸ hf170.1) (fun q => Nat.le_trans Z180 q.1)
  have A175 := AA175 [t175] (allS (tcase ho175 (List.mem_of_getElem? (i := 0) rfl)) all0)
  refine Run.st (T175.setTop (mkF m 12 #[.val (.ref a1), .val (.ref e1), .unset] [(.ref a169)])) st175 ?_
  refine Run.st (T175.setTop (mkF m 13 #[.val (.ref a1), .val (.ref e1), .unset] [(.ref e1), (.ref a169)])) (fun _ k => XS.aloadN A175.here hx rfl (hb hby d26_12) rfl rfl k) ?_
  have Z182 : h0.size ≤ h169.size := E169.1
  have X183 : Ext h0 h169 := E169
  have X184 : Ext h0 h170 := extK X183 K170 (allS (Nat.le_of_eq g169) all0)
  have X185 : Ext h0 h174 := (extT X184 E174)
  have X186 : Ext h0 h175 := extK X185 K175 (allS (Nat.le_of_eq g169) (allS (Nat.le_trans Z182 hf170.1) all0))
  have f187 := Se.ext X186
  obtain ⟨v181, T181, h181, AA181, K181, ⟨L181, Q181⟩, st181⟩ := A175.callV hx (y := (⟨"java/lang/StringBuilder", "append", "(Ljava/lang/String;)Ljava/lang/StringBuilder;"⟩ : MethodName)) (z := (⟨"java/lang/StringBuilder", "append", "(Ljava/lang/String;)Ljava/lang/StringBuilder;"⟩ : MethodName)) (tw76 H.1) (tw77 H.1) (tw79 H.1) (tw78 H.1) (nfSel (tw79 H.1)) (by decide) B175.1 (g := (mkF m 13 #[.val (.ref a1), .val (.ref e1), .unset] [(.ref e1), (.ref a169)])) rfl (by rw [hml]; rfl) [(.ref e1)] [] (lenOf pd_18 rfl) rfl (Wd := 0) (by show 2 * 0 + _ ≤ _; exact Nat.le_of_eq rfl) (hb hby d26_13) (by decide) (by decide) [a169, t175] (fun _ _ _ q => q.2) (allS (List.mem_of_getElem? (i := 2) rfl) (allS (List.mem_of_getElem? (i := 0) rfl) all0)) (fun vm0 hZ => payN (ct_sbapp H a169 t175 ([] ++ [(67 : Int32), (65 : Int32), (83 : Int32), (84 : Int32), (40 : Int32)]) e1 [x0, x1] A175.old B175 f187 (Nat.le_of_ble_eq_true rfl) (A175.nle (List.mem_of_getElem? (i := 2) rfl)) B175.lt (A175.nle (List.mem_of_getElem? (i := 0) rfl)) B175.tlt) (tw80 H.1) (tw57 H.1) (by decide) (by decide) hZ)
  obtain ⟨Q181, N181, -⟩ := Q181
  obtain ⟨rfl, t181, ho181, B181⟩ := Q181
  have Z188 : h169.size ≤ h175.size := Nat.le_trans Z180 K175.1
  have gt181 : h169.size ≤ t181 := ho181.elim (fun e => e ▸ gt175) (fun q => Nat.le_trans Z188 q.1)
  have A181 := AA181 [t181] (allS (tcase ho181 (List.mem_of_getElem? (i := 0) rfl)) all0)
  refine Run.st (T181.setTop (mkF m 16 #[.val (.ref a1), .val (.ref e1), .unset] [(.ref a169)])) st181 ?_
  obtain ⟨a189, b189, kA189, T189, h189, A189, E189, Ex189, Fc189, Fv189, Va189, ne189, st189⟩ := A181.ldc hx (tw123 H.1) (strsA H) (List.mem_of_getElem? (i := 1) rfl) (vs := (([(32 : Int32), (65 : Int32), (83 : Int32), (32 : Int32)] : List Int32).map fun c => c.toInt8.toInt32).map Value.int) (z := (4 : Int32)) ⟨by decide, by decide +kernel⟩ (by decide) (by decide +kernel) (g := (mkF m 16 #[.val (.ref a1), .val (.ref e1), .unset] [(.ref a169)])) rfl (hb hby d26_16) (q := 16) (by decide) (by decide) (by decide) (by decide)
  have S189 : StrA Z h189 a189 [(32 : Int32), (65 : Int32), (83 : Int32), (32 : Int32)] := ⟨Ex189, Fc189, ⟨b189, kA189, Fv189, Va189⟩, by decide, by decide⟩
  refine Run.st (T189.setTop (mkF m 18 #[.val (.ref a1), .val (.ref e1), .unset] [(.ref a189), (.ref a169)])) st189 ?_
  have X191 : Ext h181 h189 := E189
  have f192 := B181.ext X191
  have f193 := B181.1.ext X191
  obtain ⟨v190, T190, h190, AA190, K190, ⟨L190, Q190⟩, st190⟩ := A189.callV hx (y := (⟨"java/lang/StringBuilder", "append", "(Ljava/lang/String;)Ljava/lang/StringBuilder;"⟩ : MethodName)) (z := (⟨"java/lang/StringBuilder", "append", "(Ljava/lang/String;)Ljava/lang/StringBuilder;"⟩ : MethodName)) (tw76 H.1) (tw77 H.1) (tw79 H.1) (tw78 H.1) (nfSel (tw79 H.1)) (by decide) f193 (g := (mkF m 18 #[.val (.ref a1), .val (.ref e1), .unset] [(.ref a189), (.ref a169)])) rfl (by rw [hml]; rfl) [(.ref a189)] [] (lenOf pd_18 rfl) rfl (Wd := 0) (by show 2 * 0 + _ ≤ _; exact Nat.le_of_eq rfl) (hb hby d26_18) (by decide) (by decide) [a169, t181] (fun _ _ _ q => q.2) (allS (List.mem_of_getElem? (i := 3) rfl) (allS (List.mem_of_getElem? (i := 0) rfl) all0)) (fun vm0 hZ => payN (ct_sbapp H a169 t181 (([] ++ [(67 : Int32), (65 : Int32), (83 : Int32), (84 : Int32), (40 : Int32)]) ++ [x0, x1]) a189 [(32 : Int32), (65 : Int32), (83 : Int32), (32 : Int32)] A189.old f192 S189 (Nat.le_of_ble_eq_true rfl) (A189.nle (List.mem_of_getElem? (i := 3) rfl)) f192.lt (A189.nle (List.mem_of_getElem? (i := 0) rfl)) f192.tlt) (tw80 H.1) (tw57 H.1) (by decide) (by decide) hZ)
  obtain ⟨Q190, N190, -⟩ := Q190
  obtain ⟨rfl, t190, ho190, B190⟩ := Q190
  have Z194 : h169.size ≤ h181.size := Nat.le_trans Z188 K181.1
  have Z195 : h169.size ≤ h189.size := Nat.le_trans Z194 E189.1
  have gt190 : h169.size ≤ t190 := ho190.elim (fun e => e ▸ gt181) (fun q => Nat.le_trans Z195 q.1)
  have A190 := AA190 [t190] (allS (tcase ho190 (List.mem_of_getElem? (i := 0) rfl)) all0)
  refine Run.st (T190.setTop (mkF m 21 #[.val (.ref a1), .val (.ref e1), .unset] [(.ref a169)])) st190 ?_
  refine Run.st (T190.setTop (mkF m 22 #[.val (.ref a1), .val (.ref e1), .unset] [(.ref a1), (.ref a169)])) (fun _ k => XS.aloadN A190.here hx rfl (hb hby d26_21) rfl rfl k) ?_
  have X197 : Ext h0 h181 := extK X186 K181 (allS (Nat.le_of_eq g169) (allS (Nat.le_trans Z182 gt175) all0))
  have X198 : Ext h0 h189 := (extT X197 E189)
  have X199 : Ext h0 h190 := extK X198 K190 (allS (Nat.le_of_eq g169) (allS (Nat.le_trans Z182 gt181) all0))
  have f200 := Ft.ext X199
  obtain ⟨T196, A196, st196⟩ := A190.getF hx (tw46 H.1) Via.refl f200 (g := (mkF m 22 #[.val (.ref a1), .val (.ref e1), .unset] [(.ref a1), (.ref a169)])) rfl rfl (hb hby d26_22)
  refine Run.st (T196.setTop (mkF m 25 #[.val (.ref a1), .val (.ref e1), .unset] [(.ref t1), (.ref a169)])) st196 ?_
  have f202 := St.ext X199
  obtain ⟨v201, T201, h201, AA201, K201, ⟨L201, Q201⟩, st201⟩ := A196.callV hx (y := (⟨"java/lang/StringBuilder", "append", "(Ljava/lang/String;)Ljava/lang/StringBuilder;"⟩ : MethodName)) (z := (⟨"java/lang/StringBuilder", "append", "(Ljava/lang/String;)Ljava/lang/StringBuilder;"⟩ : MethodName)) (tw76 H.1) (tw77 H.1) (tw79 H.1) (tw78 H.1) (nfSel (tw79 H.1)) (by decide) B190.1 (g := (mkF m 25 #[.val (.ref a1), .val (.ref e1), .unset] [(.ref t1), (.ref a169)])) rfl (by rw [hml]; rfl) [(.ref t1)] [] (lenOf pd_18 rfl) rfl (Wd := 0) (by show 2 * 0 + _ ≤ _; exact Nat.le_of_eq rfl) (hb hby d26_25) (by decide) (by decide) [a169, t190] (fun _ _ _ q => q.2) (allS (List.mem_of_getElem? (i := 4) rfl) (allS (List.mem_of_getElem? (i := 0) rfl) all0)) (fun vm0 hZ => payN (ct_sbapp H a169 t190 ((([] ++ [(67 : Int32), (65 : Int32), (83 : Int32), (84 : Int32), (40 : Int32)]) ++ [x0, x1]) ++ [(32 : Int32), (65 : Int32), (83 : Int32), (32 : Int32)]) t1 [y0, y1] A196.old B190 f202 (Nat.le_of_ble_eq_true rfl) (A196.nle (List.mem_of_getElem? (i := 4) rfl)) B190.lt (A196.nle (List.mem_of_getElem? (i := 0) rfl)) B190.tlt) (tw80 H.1) (tw57 H.1) (by decide) (by decide) hZ)
  obtain ⟨Q201, N201, -⟩ := Q201
  obtain ⟨rfl, t201, ho201, B201⟩ := Q201
  have Z203 : h169.size ≤ h190.size := Nat.le_trans Z195 K190.1
  have gt201 : h169.size ≤ t201 := ho201.elim (fun e => e ▸ gt190) (fun q => Nat.le_trans Z203 q.1)
  have A201 := AA201 [t201] (allS (tcase ho201 (List.mem_of_getElem? (i := 0) rfl)) all0)
  refine Run.st (T201.setTop (mkF m 28 #[.val (.ref a1), .val (.ref e1), .unset] [(.ref a169)])) st201 ?_
  obtain ⟨a204, b204, kA204, T204, h204, A204, E204, Ex204, Fc204, Fv204, Va204, ne204, st204⟩ := A201.ldc hx (tw124 H.1) (strsA H) (List.mem_of_getElem? (i := 2) rfl) (vs := (([(41 : Int32)] : List Int32).map fun c => c.toInt8.toInt32).map Value.int) (z := (1 : Int32)) ⟨by decide, by decide +kernel⟩ (by decide) (by decide +kernel) (g := (mkF m 28 #[.val (.ref a1), .val (.ref e1), .unset] [(.ref a169)])) rfl (hb hby d26_28) (q := 4) (by decide) (by decide) (by decide) (by decide)
  have S204 : StrA Z h204 a204 [(41 : Int32)] := ⟨Ex204, Fc204, ⟨b204, kA204, Fv204, Va204⟩, by decide, by decide⟩
  refine Run.st (T204.setTop (mkF m 30 #[.val (.ref a1), .val (.ref e1), .unset] [(.ref a204), (.ref a169)])) st204 ?_
  have X206 : Ext h201 h204 := E204
  have f207 := B201.ext X206
  have f208 := B201.1.ext X206
  obtain ⟨v205, T205, h205, AA205, K205, ⟨L205, Q205⟩, st205⟩ := A204.callV hx (y := (⟨"java/lang/StringBuilder", "append", "(Ljava/lang/String;)Ljava/lang/StringBuilder;"⟩ : MethodName)) (z := (⟨"java/lang/StringBuilder", "append", "(Ljava/lang/String;)Ljava/lang/StringBuilder;"⟩ : MethodName)) (tw76 H.1) (tw77 H.1) (tw79 H.1) (tw78 H.1) (nfSel (tw79 H.1)) (by decide) f208 (g := (mkF m 30 #[.val (.ref a1), .val (.ref e1), .unset] [(.ref a204), (.ref a169)])) rfl (by rw [hml]; rfl) [(.ref a204)] [] (lenOf pd_18 rfl) rfl (Wd := 0) (by show 2 * 0 + _ ≤ _; exact Nat.le_of_eq rfl) (hb hby d26_30) (by decide) (by decide) [a169, t201] (fun _ _ _ q => q.2) (allS (List.mem_of_getElem? (i := 5) rfl) (allS (List.mem_of_getElem? (i := 0) rfl) all0)) (fun vm0 hZ => payN (ct_sbapp H a169 t201 (((([] ++ [(67 : Int32), (65 : Int32), (83 : Int32), (84 : Int32), (40 : Int32)]) ++ [x0, x1]) ++ [(32 : Int32), (65 : Int32), (83 : Int32), (32 : Int32)]) ++ [y0, y1]) a204 [(41 : Int32)] A204.old f207 S204 (Nat.le_of_ble_eq_true rfl) (A204.nle (List.mem_of_getElem? (i := 5) rfl)) f207.lt (A204.nle (List.mem_of_getElem? (i := 0) rfl)) f207.tlt) (tw80 H.1) (tw57 H.1) (by decide) (by decide) hZ)
  obtain ⟨Q205, N205, -⟩ := Q205
  obtain ⟨rfl, t205, ho205, B205⟩ := Q205
  have Z209 : h169.size ≤ h201.size := Nat.le_trans Z203 K201.1
  have Z210 : h169.size ≤ h204.size := Nat.le_trans Z209 E204.1
  have gt205 : h169.size ≤ t205 := ho205.elim (fun e => e ▸ gt201) (fun q => Nat.le_trans Z210 q.1)
  have A205 := AA205 [t205] (allS (tcase ho205 (List.mem_of_getElem? (i := 0) rfl)) all0)
  refine Run.st (T205.setTop (mkF m 33 #[.val (.ref a1), .val (.ref e1), .unset] [(.ref a169)])) st205 ?_
  obtain ⟨v211, T211, h211, AA211, K211, ⟨L211, Q211⟩, st211⟩ := A205.callV hx (y := (⟨"java/lang/StringBuilder", "toString", "()Ljava/lang/String;"⟩ : MethodName)) (z := (⟨"java/lang/StringBuilder", "toString", "()Ljava/lang/String;"⟩ : MethodName)) (tw125 H.1) (tw126 H.1) (tw128 H.1) (tw127 H.1) (nfSel (tw128 H.1)) (by decide) B205.1 (g := (mkF m 33 #[.val (.ref a1), .val (.ref e1), .unset] [(.ref a169)])) rfl (by rw [hml]; rfl) [] [] (lenOf pd_19 rfl) rfl (Wd := 0) (by show 2 * 0 + _ ≤ _; exact Nat.le_of_eq rfl) (hb hby d26_33) (by decide) (by decide) [] (fun _ _ _ q => q.2) all0 (fun vm0 hZ => payN (ct_tostr H a169 t205 ((((([] ++ [(67 : Int32), (65 : Int32), (83 : Int32), (84 : Int32), (40 : Int32)]) ++ [x0, x1]) ++ [(32 : Int32), (65 : Int32), (83 : Int32), (32 : Int32)]) ++ [y0, y1]) ++ [(41 : Int32)]) A205.old B205 (hneK (k := 14) rfl (by decide) (by decide))) (tw129 H.1) (tw57 H.1) (by decide) (by decide) hZ)
  obtain ⟨Q211, N211, -⟩ := Q211
  obtain ⟨a211, rfl, X211, S211⟩ := Q211
  have A211 := AA211 [] all0
  refine Run.st (T211.setTop (mkF m 36 #[.val (.ref a1), .val (.ref e1), .unset] [(.ref a211)])) st211 ?_
  refine Run.st (T211.setTop (mkF m 38 #[.val (.ref a1), .val (.ref e1), .val (.ref a211)] [(.ref a1)])) (fun _ k => XS.astoreN A211.here hx rfl (hb hby d26_36) rfl rfl (l' := #[.val (.ref a1), .val (.ref e1), .val (.ref a211)]) rfl (XS.aloadN A211.here hx rfl (hb hby d26_37) rfl rfl k)) ?_
  have X213 : Ext h0 h201 := extK X199 K201 (allS (Nat.le_of_eq g169) (allS (Nat.le_trans Z182 gt190) all0))
  have X214 : Ext h0 h204 := (extT X213 E204)
  have X215 : Ext h0 h205 := extK X214 K205 (allS (Nat.le_of_eq g169) (allS (Nat.le_trans Z182 gt201) all0))
  have X216 : Ext h0 h211 := (extT X215 X211)
  have f217 := Fk.ext X216
  obtain ⟨T212, A212, st212⟩ := A211.getF hx (tw48 H.1) Via.refl f217 (g := (mkF m 38 #[.val (.ref a1), .val (.ref e1), .val (.ref a211)] [(.ref a1)])) rfl rfl (hb hby d26_38)
  refine Run.st (T212.setTop (mkF m 41 #[.val (.ref a1), .val (.ref e1), .val (.ref a211)] [(.ref k1)])) st212 ?_
  refine Run.st (T212.setTop (mkF m 48 #[.val (.ref a1), .val (.ref e1), .val (.ref a211)] [])) (fun _ k => XS.ifnonnullYes A212.here hx rfl (pc0 := 41) (pc' := 48) rfl (hb hby d26_41) rfl (by decide) (by decide) k) ?_
  obtain ⟨a218, T218, h218, A218, E218, g218, Ex218, D218, st218⟩ := A212.newO hx (tw55 H.1) (tw56 H.1) (tw57 H.1) (g := (mkF m 48 #[.val (.ref a1), .val (.ref e1), .val (.ref a211)] [])) rfl (hb hby d26_48) (by decide) (by decide)
  refine Run.st (T218.setTop (mkF m 51 #[.val (.ref a1), .val (.ref e1), .val (.ref a211)] [(.ref a218)])) st218 ?_
  refine Run.st (T218.setTop (mkF m 52 #[.val (.ref a1), .val (.ref e1), .val (.ref a211)] [(.ref a218), (.ref a218)])) (fun _ k => XS.dup A218.here hx rfl (hb hby d26_51) rfl rfl k) ?_
  have F220 : Fld Z h218 a218 "java/lang/AbstractStringBuilder" "count" "I" (.int 0) := D218 (Or.inl (tw97 H.1)) (ty := .int) (by decide)
  have F221 : Fld Z h218 a218 "java/lang/AbstractStringBuilder" "coder" "B" (.int 0) := D218 (Or.inl (tw72 H.1)) (ty := .byte) (by decide)
  have F222 : Fld Z h218 a218 "java/lang/AbstractStringBuilder" "value" "[B" .null := D218 (Or.inl (tw70 H.1)) (ty := (.array .byte)) (by decide)
  obtain ⟨v219, T219, h219, AA219, K219, ⟨L219, Q219⟩, st219⟩ := A218.callI hx (y := (⟨"java/lang/StringBuilder", "<init>", "()V"⟩ : MethodName)) rfl (tw58 H.1) (tw59 H.1) (tw60 H.1) (by decide) (g := (mkF m 52 #[.val (.ref a1), .val (.ref e1), .val (.ref a211)] [(.ref a218), (.ref a218)])) rfl (by rw [hml]; rfl) a218 [] [(.ref a218)] (lenOf pd_17 rfl) rfl (Wd := 1) (by show 2 * 0 + _ ≤ _; exact Nat.le_of_eq rfl) (hb hby d26_52) (by decide) (by decide) [a218] (fun _ _ _ q => q.2) (allS (List.mem_of_getElem? (i := 0) rfl) all0) (fun vm0 hZ => payN (ct_sbini H a218 (.int 0) .null A218.old Ex218 (A218.nle (List.mem_of_getElem? (i := 0) rfl)) Ex218.lt F220 F221 F222) (tw60 H.1) (tw57 H.1) (by decide) (by decide) hZ)
  obtain ⟨Q219, N219, -⟩ := Q219
  obtain ⟨rfl, t219, hf219, B219⟩ := Q219
  have A219 := AA219 [t219] (allS (Or.inr hf219) all0)
  refine Run.st (T219.setTop (mkF m 55 #[.val (.ref a1), .val (.ref e1), .val (.ref a211)] [(.ref a218)])) st219 ?_
  refine Run.st (T219.setTop (mkF m 56 #[.val (.ref a1), .val (.ref e1), .val (.ref a211)] [(.ref a211), (.ref a218)])) (fun _ k => XS.aloadN A219.here hx rfl (hb hby d26_55) rfl rfl k) ?_
  have X224 : Ext h211 h218 := E218
  have X225 : Ext h211 h219 := extK X224 K219 (allS (Nat.le_of_eq g218) all0)
  have f226 := S211.ext X225
  obtain ⟨v223, T223, h223, AA223, K223, ⟨L223, Q223⟩, st223⟩ := A219.callV hx (y := (⟨"java/lang/StringBuilder", "append", "(Ljava/lang/String;)Ljava/lang/StringBuilder;"⟩ : MethodName)) (z := (⟨"java/lang/StringBuilder", "append", "(Ljava/lang/String;)Ljava/lang/StringBuilder;"⟩ : MethodName)) (tw76 H.1) (tw77 H.1) (tw79 H.1) (tw78 H.1) (nfSel (tw79 H.1)) (by decide) B219.1 (g := (mkF m 56 #[.val (.ref a1), .val (.ref e1), .val (.ref a211)] [(.ref a211), (.ref a218)])) rfl (by rw [hml]; rfl) [(.ref a211)] [] (lenOf pd_18 rfl) rfl (Wd := 0) (by show 2 * 0 + _ ≤ _; exact Nat.le_of_eq rfl) (hb hby d26_56) (by decide) (by decide) [a218, t219] (fun _ _ _ q => q.2) (allS (List.mem_of_getElem? (i := 1) rfl) (allS (List.mem_of_getElem? (i := 0) rfl) all0)) (fun vm0 hZ => payN (ct_sbapp H a218 t219 [] a211 ((((([] ++ [(67 : Int32), (65 : Int32), (83 : Int32), (84 : Int32), (40 : Int32)]) ++ [x0, x1]) ++ [(32 : Int32), (65 : Int32), (83 : Int32), (32 : Int32)]) ++ [y0, y1]) ++ [(41 : Int32)]) A219.old B219 f226 (Nat.le_of_ble_eq_true rfl) (A219.nle (List.mem_of_getElem? (i := 1) rfl)) B219.lt (A219.nle (List.mem_of_getElem? (i := 0) rfl)) B219.tlt) (tw80 H.1) (tw57 H.1) (by decide) (by decide) hZ)
  obtain ⟨Q223, N223, -⟩ := Q223
  obtain ⟨rfl, t223, ho223, B223⟩ := Q223
  have Z227 : h218.size ≤ h219.size := K219.1
  have gt223 : h218.size ≤ t223 := ho223.elim (fun e => e ▸ hf219.1) (fun q => Nat.le_trans Z227 q.1)
  have A223 := AA223 [t223] (allS (tcase ho223 (List.mem_of_getElem? (i := 0) rfl)) all0)
  refine Run.st (T223.setTop (mkF m 59 #[.val (.ref a1), .val (.ref e1), .val (.ref a211)] [(.ref a218)])) st223 ?_
  obtain ⟨a228, b228, kA228, T228, h228, A228, E228, Ex228, Fc228, Fv228, Va228, ne228, st228⟩ := A223.ldc hx (tw170 H.1) (strsA H) (List.mem_of_getElem? (i := 3) rfl) (vs := (([(32 : Int32), (67 : Int32), (79 : Int32), (76 : Int32), (76 : Int32), (65 : Int32), (84 : Int32), (69 : Int32), (32 : Int32)] : List Int32).map fun c => c.toInt8.toInt32).map Value.int) (z := (9 : Int32)) ⟨by decide, by decide +kernel⟩ (by decide) (by decide +kernel) (g := (mkF m 59 #[.val (.ref a1), .val (.ref e1), .val (.ref a211)] [(.ref a218)])) rfl (hb hby d26_59) (q := 36) (by decide) (by decide) (by decide) (by decide)
  have S228 : StrA Z h228 a228 [(32 : Int32), (67 : Int32), (79 : Int32), (76 : Int32), (76 : Int32), (65 : Int32), (84 : Int32), (69 : Int32), (32 : Int32)] := ⟨Ex228, Fc228, ⟨b228, kA228, Fv228, Va228⟩, by decide, by decide⟩
  refine Run.st (T228.setTop (mkF m 61 #[.val (.ref a1), .val (.ref e1), .val (.ref a211)] [(.ref a228), (.ref a218)])) st228 ?_
  have X230 : Ext h223 h228 := E228
  have f231 := B223.ext X230
  have f232 := B223.1.ext X230
  obtain ⟨v229, T229, h229, AA229, K229, ⟨L229, Q229⟩, st229⟩ := A228.callV hx (y := (⟨"java/lang/StringBuilder", "append", "(Ljava/lang/String;)Ljava/lang/StringBuilder;"⟩ : MethodName)) (z := (⟨"java/lang/StringBuilder", "append", "(Ljava/lang/String;)Ljava/lang/StringBuilder;"⟩ : MethodName)) (tw76 H.1) (tw77 H.1) (tw79 H.1) (tw78 H.1) (nfSel (tw79 H.1)) (by decide) f232 (g := (mkF m 61 #[.val (.ref a1), .val (.ref e1), .val (.ref a211)] [(.ref a228), (.ref a218)])) rfl (by rw [hml]; rfl) [(.ref a228)] [] (lenOf pd_18 rfl) rfl (Wd := 0) (by show 2 * 0 + _ ≤ _; exact Nat.le_of_eq rfl) (hb hby d26_61) (by decide) (by decide) [a218, t223] (fun _ _ _ q => q.2) (allS (List.mem_of_getElem? (i := 2) rfl) (allS (List.mem_of_getElem? (i := 0) rfl) all0)) (fun vm0 hZ => payN (ct_sbapp H a218 t223 ([] ++ ((((([] ++ [(67 : Int32), (65 : Int32), (83 : Int32), (84 : Int32), (40 : Int32)]) ++ [x0, x1]) ++ [(32 : Int32), (65 : Int32), (83 : Int32), (32 : Int32)]) ++ [y0, y1]) ++ [(41 : Int32)])) a228 [(32 : Int32), (67 : Int32), (79 : Int32), (76 : Int32), (76 : Int32), (65 : Int32), (84 : Int32), (69 : Int32), (32 : Int32)] A228.old f231 S228 (Nat.le_of_ble_eq_true rfl) (A228.nle (List.mem_of_getElem? (i := 2) rfl)) f231.lt (A228.nle (List.mem_of_getElem? (i := 0) rfl)) f231.tlt) (tw80 H.1) (tw57 H.1) (by decide) (by decide) hZ)
  obtain ⟨Q229, N229, -⟩ := Q229
  obtain ⟨rfl, t229, ho229, B229⟩ := Q229
  have Z233 : h218.size ≤ h223.size := Nat.le_trans Z227 K223.1
  have Z234 : h218.size ≤ h228.size := Nat.le_trans Z233 E228.1
  have gt229 : h218.size ≤ t229 := ho229.elim (fun e => e ▸ gt223) (fun q => Nat.le_trans Z234 q.1)
  have A229 := AA229 [t229] (allS (tcase ho229 (List.mem_of_getElem? (i := 0) rfl)) all0)
  refine Run.st (T229.setTop (mkF m 64 #[.val (.ref a1), .val (.ref e1), .val (.ref a211)] [(.ref a218)])) st229 ?_
  refine Run.st (T229.setTop (mkF m 65 #[.val (.ref a1), .val (.ref e1), .val (.ref a211)] [(.ref a1), (.ref a218)])) (fun _ k => XS.aloadN A229.here hx rfl (hb hby d26_64) rfl rfl k) ?_
  have Z236 : h0.size ≤ h170.size := Nat.le_trans Z182 K170.1
  have Z237 : h0.size ≤ h174.size := Nat.le_trans Z236 E174.1
  have Z238 : h0.size ≤ h175.size := Nat.le_trans Z237 K175.1
  have Z239 : h0.size ≤ h181.size := Nat.le_trans Z238 K181.1
  have Z240 : h0.size ≤ h189.size := Nat.le_trans Z239 E189.1
  have Z241 : h0.size ≤ h190.size := Nat.le_trans Z240 K190.1
  have Z242 : h0.size ≤ h201.size := Nat.le_trans Z241 K201.1
  have Z243 : h0.size ≤ h204.size := Nat.le_trans Z242 E204.1
  have Z244 : h0.size ≤ h205.size := Nat.le_trans Z243 K205.1
  have Z245 : h0.size ≤ h211.size := Nat.le_trans Z244 X211.1
  have Z246 : h0.size ≤ h218.size := Nat.le_trans Z245 E218.1
  have X247 : Ext h0 h218 := (extT X216 E218)
  have X248 : Ext h0 h219 := extK X247 K219 (allS (Nat.le_trans Z245 (Nat.le_of_eq g218)) all0)
  have X249 : Ext h0 h223 := extK X248 K223 (allS (Nat.le_trans Z245 (Nat.le_of_eq g218)) (allS (Nat.le_trans Z246 hf219.1) all0))
  have X250 : Ext h0 h228 := (extT X249 E228)
  have X251 : Ext h0 h229 := extK X250 K229 (allS (Nat.le_trans Z245 (Nat.le_of_eq g218)) (allS (Nat.le_trans Z246 gt223) all0))
  have f252 := Fk.ext X251
  obtain ⟨T235, A235, st235⟩ := A229.getF hx (tw48 H.1) Via.refl f252 (g := (mkF m 65 #[.val (.ref a1), .val (.ref e1), .val (.ref a211)] [(.ref a1), (.ref a218)])) rfl rfl (hb hby d26_65)
  refine Run.st (T235.setTop (mkF m 68 #[.val (.ref a1), .val (.ref e1), .val (.ref a211)] [(.ref k1), (.ref a218)])) st235 ?_
  have f254 := Sk.ext X251
  obtain ⟨v253, T253, h253, AA253, K253, ⟨L253, Q253⟩, st253⟩ := A235.callV hx (y := (⟨"java/lang/StringBuilder", "append", "(Ljava/lang/String;)Ljava/lang/StringBuilder;"⟩ : MethodName)) (z := (⟨"java/lang/StringBuilder", "append", "(Ljava/lang/String;)Ljava/lang/StringBuilder;"⟩ : MethodName)) (tw76 H.1) (tw77 H.1) (tw79 H.1) (tw78 H.1) (nfSel (tw79 H.1)) (by decide) B229.1 (g := (mkF m 68 #[.val (.ref a1), .val (.ref e1), .val (.ref a211)] [(.ref k1), (.ref a218)])) rfl (by rw [hml]; rfl) [(.ref k1)] [] (lenOf pd_18 rfl) rfl (Wd := 0) (by show 2 * 0 + _ ≤ _; exact Nat.le_of_eq rfl) (hb hby d26_68) (by decide) (by decide) [a218, t229] (fun _ _ _ q => q.2) (allS (List.mem_of_getElem? (i := 3) rfl) (allS (List.mem_of_getElem? (i := 0) rfl) all0)) (fun vm0 hZ => payN (ct_sbapp H a218 t229 (([] ++ ((((([] ++ [(67 : Int32), (65 : Int32), (83 : Int32), (84 : Int32), (40 : Int32)]) ++ [x0, x1]) ++ [(32 : Int32), (65 : Int32), (83 : Int32), (32 : Int32)]) ++ [y0, y1]) ++ [(41 : Int32)])) ++ [(32 : Int32), (67 : Int32), (79 : Int32), (76 : Int32), (76 : Int32), (65 : Int32), (84 : Int32), (69 : Int32), (32 : Int32)]) k1 [z0, z1] A235.old B229 f254 (Nat.le_of_ble_eq_true rfl) (A235.nle (List.mem_of_getElem? (i := 3) rfl)) B229.lt (A235.nle (List.mem_of_getElem? (i := 0) rfl)) B229.tlt) (tw80 H.1) (tw57 H.1) (by decide) (by decide) hZ)
  obtain ⟨Q253, N253, -⟩ := Q253
  obtain ⟨rfl, t253, ho253, B253⟩ := Q253
  have Z255 : h218.size ≤ h229.size := Nat.le_trans Z234 K229.1
  have gt253 : h218.size ≤ t253 := ho253.elim (fun e => e ▸ gt229) (fun q => Nat.le_trans Z255 q.1)
  have A253 := AA253 [t253] (allS (tcase ho253 (List.mem_of_getElem? (i := 0) rfl)) all0)
  refine Run.st (T253.setTop (mkF m 71 #[.val (.ref a1), .val (.ref e1), .val (.ref a211)] [(.ref a218)])) st253 ?_
  obtain ⟨v256, T256, h256, AA256, K256, ⟨L256, Q256⟩, st256⟩ := A253.callV hx (y := (⟨"java/lang/StringBuilder", "toString", "()Ljava/lang/String;"⟩ : MethodName)) (z := (⟨"java/lang/StringBuilder", "toString", "()Ljava/lang/String;"⟩ : MethodName)) (tw125 H.1) (tw126 H.1) (tw128 H.1) (tw127 H.1) (nfSel (tw128 H.1)) (by decide) B253.1 (g := (mkF m 71 #[.val (.ref a1), .val (.ref e1), .val (.ref a211)] [(.ref a218)])) rfl (by rw [hml]; rfl) [] [] (lenOf pd_19 rfl) rfl (Wd := 0) (by show 2 * 0 + _ ≤ _; exact Nat.le_of_eq rfl) (hb hby d26_71) (by decide) (by decide) [] (fun _ _ _ q => q.2) all0 (fun vm0 hZ => payN (ct_tostr H a218 t253 ((([] ++ ((((([] ++ [(67 : Int32), (65 : Int32), (83 : Int32), (84 : Int32), (40 : Int32)]) ++ [x0, x1]) ++ [(32 : Int32), (65 : Int32), (83 : Int32), (32 : Int32)]) ++ [y0, y1]) ++ [(41 : Int32)])) ++ [(32 : Int32), (67 : Int32), (79 : Int32), (76 : Int32), (76 : Int32), (65 : Int32), (84 : Int32), (69 : Int32), (32 : Int32)]) ++ [z0, z1]) A253.old B253 (hneK (k := 25) rfl (by decide) (by decide))) (tw129 H.1) (tw57 H.1) (by decide) (by decide) hZ)
  obtain ⟨Q256, N256, -⟩ := Q256
  obtain ⟨a256, rfl, X256, S256⟩ := Q256
  have A256 := AA256 [] all0
  refine Run.st (T256.setTop (mkF m 74 #[.val (.ref a1), .val (.ref e1), .val (.ref a211)] [(.ref a256)])) st256 ?_
  exact A256.leaveW hlk hh0 (some (.ref a256)) (fun q => by rw [hrt] at q; cases q) (by decide) (by decide) ⟨a256, rfl, keepE A256.keep, S256⟩ (fun X hr => retOut X hx (w := (.ref a256)) (t := (.object "java/lang/String")) hrt rfl (Or.inr (Or.inr (Or.inr (Or.inr ⟨rfl, rfl, rfl⟩)))) (hb hby d26_74) hr)
theorem ef_head14 (m : MethodId) (y0 : Addr) (y1 : Int32) (y2 : Int32) (y3 : Int32) (y4 : Int32) : entryFrame m #[(.ref y0), (.int y1), (.int y2), (.int y3), (.int y4)] 5 = mkF m 0 #[.val (.ref y0), .val (.int y1), .val (.int y2), .val (.int y3), .val (.int y4)] [] := by first | (simp [entryFrame, mkF, argsToLocals, Value.category, maxLocals]; done) | rfl
def Q_head14 (Z : State) (b1 : Addr) (kb : ClassId) (c1 : Int32) (c2 : Int32) (c3 : Int32) (c4 : Int32) (h0 : Heap) (v : Option Value) (h : Heap) : Prop := v = none ∧ Arv Z h b1 kb .char (14 : Int32) [(.int (nar .char (67 : Int32))), (.int (nar .char (65 : Int32))), (.int (nar .char (83 : Int32))), (.int (nar .char (84 : Int32))), (.int (nar .char (40 : Int32))), (.int (nar .char c1)), (.int (nar .char c2)), (.int (nar .char (32 : Int32))), (.int (nar .char (65 : Int32))), (.int (nar .char (83 : Int32))), (.int (nar .char (32 : Int32))), (.int (nar .char c3)), (.int (nar .char c4)), (.int (nar .char (41 : Int32)))] (.int (0 : Int32))
def rm_head14 : Room := { frames := 0, cells := 0, slots := 0, locals := 0 }
set_option maxRecDepth 65536 in
set_option maxHeartbeats 40000000 in
theorem ct_head14 {l : Launch} {Z : State} {a0 : Array Value} (H : Ev Z a0) (b1 : Addr) (kb : ClassId) (c1 : Int32) (c2 : Int32) (c3 : Int32) (c4 : Int32) {h0 : Heap} {n0 : Nat} (O0 : Old Z n0 h0) (Vb : Arv Z h0 b1 kb .char (14 : Int32) [(.int (0 : Int32)), (.int (0 : Int32)), (.int (0 : Int32)), (.int (0 : Int32)), (.int (0 : Int32)), (.int (0 : Int32)), (.int (0 : Int32)), (.int (0 : Int32)), (.int (0 : Int32)), (.int (0 : Int32)), (.int (0 : Int32)), (.int (0 : Int32)), (.int (0 : Int32)), (.int (0 : Int32))] (.int (0 : Int32))) (g_b1 : n0 ≤ b1) (z_b1 : b1 < h0.size) : CtrN l Z (⟨"org/grantpath/ComparisonOfPinLaw", "head", "([CCCCC)V"⟩ : MethodName) method_2_code 5 none [] rm_head14 #[(.ref b1), (.int c1), (.int c2), (.int c3), (.int c4)] h0 [b1] n0 (Q_head14 Z b1 kb c1 c2 c3 c4 h0) := by
  refine enterN (a0 := a0) (plainFor_of_name pn_7) O0 (allS ⟨g_b1, z_b1⟩ all0) ?_
  intro p e s m below meth c T0 hx hby hml hrt hnm hlk A0
  replace A0 : Wk false Z a0 [] n0 h0 [b1] "org/grantpath/ComparisonOfPinLaw" p l e rm_head14 s m #[(.ref b1), (.int c1), (.int c2), (.int c3), (.int c4)] below meth c [b1] T0 h0 0 0 := A0
  refine Run.st (T0.setTop (mkF m 0 #[.val (.ref b1), .val (.int c1), .val (.int c2), .val (.int c3), .val (.int c4)] [])) (fun _ k => castTop (ef_head14 m b1 c1 c2 c3 c4) k) ?_
  refine Run.st (T0.setTop (mkF m 4 #[.val (.ref b1), .val (.int c1), .val (.int c2), .val (.int c3), .val (.int c4)] [(.int (67 : Int32)), (.int (0 : Int32)), (.ref b1)])) (fun _ k => XS.aloadN A0.here hx rfl (hb hby d27_0) rfl rfl (XS.iconst A0.here hx rfl (hb hby d27_1) (XS.bipush A0.here hx rfl (hb hby d27_2) k))) ?_
  obtain ⟨T271, h271, A271, K271, V271, st271⟩ := A0.stC hx Vb (List.mem_of_getElem? (i := 0) rfl) (j := (0 : Int32)) 0 rfl ⟨by decide, by decide⟩ (Nat.le_of_ble_eq_true rfl) (g := (mkF m 4 #[.val (.ref b1), .val (.int c1), .val (.int c2), .val (.int c3), .val (.int c4)] [(.int (67 : Int32)), (.int (0 : Int32)), (.ref b1)])) rfl rfl (hb hby d27_4)
  refine Run.st (T271.setTop (mkF m 5 #[.val (.ref b1), .val (.int c1), .val (.int c2), .val (.int c3), .val (.int c4)] [])) st271 ?_
  refine Run.st (T271.setTop (mkF m 9 #[.val (.ref b1), .val (.int c1), .val (.int c2), .val (.int c3), .val (.int c4)] [(.int (65 : Int32)), (.int (1 : Int32)), (.ref b1)])) (fun _ k => XS.aloadN A271.here hx rfl (hb hby d27_5) rfl rfl (XS.iconst A271.here hx rfl (hb hby d27_6) (XS.bipush A271.here hx rfl (hb hby d27_7) k))) ?_
  obtain ⟨T272, h272, A272, K272, V272, st272⟩ := A271.stC hx V271 (List.mem_of_getElem? (i := 0) rfl) (j := (1 : Int32)) 1 rfl ⟨by decide, by decide⟩ (Nat.le_of_ble_eq_true rfl) (g := (mkF m 9 #[.val (.ref b1), .val (.int c1), .val (.int c2), .val (.int c3), .val (.int c4)] [(.int (65 : Int32)), (.int (1 : Int32)), (.ref b1)])) rfl rfl (hb hby d27_9)
  refine Run.st (T272.setTop (mkF m 10 #[.val (.ref b1), .val (.int c1), .val (.int c2), .val (.int c3), .val (.int c4)] [])) st272 ?_
  refine Run.st (T272.setTop (mkF m 14 #[.val (.ref b1), .val (.int c1), .val (.int c2), .val (.int c3), .val (.int c4)] [(.int (83 : Int32)), (.int (2 : Int32)), (.ref b1)])) (fun _ k => XS.aloadN A272.here hx rfl (hb hby d27_10) rfl rfl (XS.iconst A272.here hx rfl (hb hby d27_11) (XS.bipush A272.here hx rfl (hb hby d27_12) k))) ?_
  obtain ⟨T273, h273, A273, K273, V273, st273⟩ := A272.stC hx V272 (List.mem_of_getElem? (i := 0) rfl) (j := (2 : Int32)) 2 rfl ⟨by decide, by decide⟩ (Nat.le_of_ble_eq_true rfl) (g := (mkF m 14 #[.val (.ref b1), .val (.int c1), .val (.int c2), .val (.int c3), .val (.int c4)] [(.int (83 : Int32)), (.int (2 : Int32)), (.ref b1)])) rfl rfl (hb hby d27_14)
  refine Run.st (T273.setTop (mkF m 15 #[.val (.ref b1), .val (.int c1), .val (.int c2), .val (.int c3), .val (.int c4)] [])) st273 ?_
  refine Run.st (T273.setTop (mkF m 19 #[.val (.ref b1), .val (.int c1), .val (.int c2), .val (.int c3), .val (.int c4)] [(.int (84 : Int32)), (.int (3 : Int32)), (.ref b1)])) (fun _ k => XS.aloadN A273.here hx rfl (hb hby d27_15) rfl rfl (XS.iconst A273.here hx rfl (hb hby d27_16) (XS.bipush A273.here hx rfl (hb hby d27_17) k))) ?_
  obtain ⟨T274, h274, A274, K274, V274, st274⟩ := A273.stC hx V273 (List.mem_of_getElem? (i := 0) rfl) (j := (3 : Int32)) 3 rfl ⟨by decide, by decide⟩ (Nat.le_of_ble_eq_true rfl) (g := (mkF m 19 #[.val (.ref b1), .val (.int c1), .val (.int c2), .val (.int c3), .val (.int c4)] [(.int (84 : Int32)), (.int (3 : Int32)), (.ref b1)])) rfl rfl (hb hby d27_19)
  refine Run.st (T274.setTop (mkF m 20 #[.val (.ref b1), .val (.int c1), .val (.int c2), .val (.int c3), .val (.int c4)] [])) st274 ?_
  refine Run.st (T274.setTop (mkF m 24 #[.val (.ref b1), .val (.int c1), .val (.int c2), .val (.int c3), .val (.int c4)] [(.int (40 : Int32)), (.int (4 : Int32)), (.ref b1)])) (fun _ k => XS.aloadN A274.here hx rfl (hb hby d27_20) rfl rfl (XS.iconst A274.here hx rfl (hb hby d27_21) (XS.bipush A274.here hx rfl (hb hby d27_22) k))) ?_
  obtain ⟨T275, h275, A275, K275, V275, st275⟩ := A274.stC hx V274 (List.mem_of_getElem? (i := 0) rfl) (j := (4 : Int32)) 4 rfl ⟨by decide, by decide⟩ (Nat.le_of_ble_eq_true rfl) (g := (mkF m 24 #[.val (.ref b1), .val (.int c1), .val (.int c2), .val (.int c3), .val (.int c4)] [(.int (40 : Int32)), (.int (4 : Int32)), (.ref b1)])) rfl rfl (hb hby d27_24)
  refine Run.st (T275.setTop (mkF m 25 #[.val (.ref b1), .val (.int c1), .val (.int c2), .val (.int c3), .val (.int c4)] [])) st275 ?_
  refine Run.st (T275.setTop (mkF m 28 #[.val (.ref b1), .val (.int c1), .val (.int c2), .val (.int c3), .val (.int c4)] [(.int c1), (.int (5 : Int32)), (.ref b1)])) (fun _ k => XS.aloadN A275.here hx rfl (hb hby d27_25) rfl rfl (XS.iconst A275.here hx rfl (hb hby d27_26) (XS.iloadN A275.here hx rfl (hb hby d27_27) rfl k))) ?_
  obtain ⟨T276, h276, A276, K276, V276, st276⟩ := A275.stC hx V275 (List.mem_of_getElem? (i := 0) rfl) (j := (5 : Int32)) 5 rfl ⟨by decide, by decide⟩ (Nat.le_of_ble_eq_true rfl) (g := (mkF m 28 #[.val (.ref b1), .val (.int c1), .val (.int c2), .val (.int c3), .val (.int c4)] [(.int c1), (.int (5 : Int32)), (.ref b1)])) rfl rfl (hb hby d27_28)
  refine Run.st (T276.setTop (mkF m 29 #[.val (.ref b1), .val (.int c1), .val (.int c2), .val (.int c3), .val (.int c4)] [])) st276 ?_
  refine Run.st (T276.setTop (mkF m 33 #[.val (.ref b1), .val (.int c1), .val (.int c2), .val (.int c3), .val (.int c4)] [(.int c2), (.int (6 : Int32)), (.ref b1)])) (fun _ k => XS.aloadN A276.here hx rfl (hb hby d27_29) rfl rfl (XS.bipush A276.here hx rfl (hb hby d27_30) (XS.iloadN A276.here hx rfl (hb hby d27_32) rfl k))) ?_
  obtain ⟨T277, h277, A277, K277, V277, st277⟩ := A276.stC hx V276 (List.mem_of_getElem? (i := 0) rfl) (j := (6 : Int32)) 6 rfl ⟨by decide, by decide⟩ (Nat.le_of_ble_eq_true rfl) (g := (mkF m 33 #[.val (.ref b1), .val (.int c1), .val (.int c2), .val (.int c3), .val (.int c4)] [(.int c2), (.int (6 : Int32)), (.ref b1)])) rfl rfl (hb hby d27_33)
  refine Run.st (T277.setTop (mkF m 34 #[.val (.ref b1), .val (.int c1), .val (.int c2), .val (.int c3), .val (.int c4)] [])) st277 ?_
  refine Run.st (T277.setTop (mkF m 39 #[.val (.ref b1), .val (.int c1), .val (.int c2), .val (.int c3), .val (.int c4)] [(.int (32 : Int32)), (.int (7 : Int32)), (.ref b1)])) (fun _ k => XS.aloadN A277.here hx rfl (hb hby d27_34) rfl rfl (XS.bipush A277.here hx rfl (hb hby d27_35) (XS.bipush A277.here hx rfl (hb hby d27_37) k))) ?_
  obtain ⟨T278, h278, A278, K278, V278, st278⟩ := A277.stC hx V277 (List.mem_of_getElem? (i := 0) rfl) (j := (7 : Int32)) 7 rfl ⟨by decide, by decide⟩ (Nat.le_of_ble_eq_true rfl) (g := (mkF m 39 #[.val (.ref b1), .val (.int c1), .val (.int c2), .val (.int c3), .val (.int c4)] [(.int (32 : Int32)), (.int (7 : Int32)), (.ref b1)])) rfl rfl (hb hby d27_39)
  refine Run.st (T278.setTop (mkF m 40 #[.val (.ref b1), .val (.int c1), .val (.int c2), .val (.int c3), .val (.int c4)] [])) st278 ?_
  refine Run.st (T278.setTop (mkF m 45 #[.val (.ref b1), .val (.int c1), .val (.int c2), .val (.int c3), .val (.int c4)] [(.int (65 : Int32)), (.int (8 : Int32)), (.ref b1)])) (fun _ k => XS.aloadN A278.here hx rfl (hb hby d27_40) rfl rfl (XS.bipush A278.here hx rfl (hb hby d27_41) (XS.bipush A278.here hx rfl (hb hby d27_43) k))) ?_
  obtain ⟨T279, h279, A279, K279, V279, st279⟩ := A278.stC hx V278 (List.mem_of_getElem? (i := 0) rfl) (j := (8 : Int32)) 8 rfl ⟨by decide, by decide⟩ (Nat.le_of_ble_eq_true rfl) (g := (mkF m 45 #[.val (.ref b1), .val (.int c1), .val (.int c2), .val (.int c3), .val (.int c4)] [(.int (65 : Int32)), (.int (8 : Int32)), (.ref b1)])) rfl rfl (hb hby d27_45)
  refine Run.st (T279.setTop (mkF m 46 #[.val (.ref b1), .val (.int c1), .val (.int c2), .val (.int c3), .val (.int c4)] [])) st279 ?_
  refine Run.st (T279.setTop (mkF m 51 #[.val (.ref b1), .val (.int c1), .val (.int c2), .val (.int c3), .val (.int c4)] [(.int (83 : Int32)), (.int (9 : Int32)), (.ref b1)])) (fun _ k => XS.aloadN A279.here hx rfl (hb hby d27_46) rfl rfl (XS.bipush A279.here hx rfl (hb hby d27_47) (XS.bipush A279.here hx rfl (hb hby d27_49) k))) ?_
  obtain ⟨T280, h280, A280, K280, V280, st280⟩ := A279.stC hx V279 (List.mem_of_getElem? (i := 0) rfl) (j := (9 : Int32)) 9 rfl ⟨by decide, by decide⟩ (Nat.le_of_ble_eq_true rfl) (g := (mkF m 51 #[.val (.ref b1), .val (.int c1), .val (.int c2), .val (.int c3), .val (.int c4)] [(.int (83 : Int32)), (.int (9 : Int32)), (.ref b1)])) rfl rfl (hb hby d27_51)
  refine Run.st (T280.setTop (mkF m 52 #[.val (.ref b1), .val (.int c1), .val (.int c2), .val (.int c3), .val (.int c4)] [])) st280 ?_
  refine Run.st (T280.setTop (mkF m 57 #[.val (.ref b1), .val (.int c1), .val (.int c2), .val (.int c3), .val (.int c4)] [(.int (32 : Int32)), (.int (10 : Int32)), (.ref b1)])) (fun _ k => XS.aloadN A280.here hx rfl (hb hby d27_52) rfl rfl (XS.bipush A280.here hx rfl (hb hby d27_53) (XS.bipush A280.here hx rfl (hb hby d27_55) k))) ?_
  obtain ⟨T281, h281, A281, K281, V281, st281⟩ := A280.stC hx V280 (List.mem_of_getElem? (i := 0) rfl) (j := (10 : Int32)) 10 rfl ⟨by decide, by decide⟩ (Nat.le_of_ble_eq_true rfl) (g := (mkF m 57 #[.val (.ref b1), .val (.int c1), .val (.int c2), .val (.int c3), .val (.int c4)] [(.int (32 : Int32)), (.int (10 : Int32)), (.ref b1)])) rfl rfl (hb hby d27_57)
  refine Run.st (T281.setTop (mkF m 58 #[.val (.ref b1), .val (.int c1), .val (.int c2), .val (.int c3), .val (.int c4)] [])) st281 ?_
  refine Run.st (T281.setTop (mkF m 62 #[.val (.ref b1), .val (.int c1), .val (.int c2), .val (.int c3), .val (.int c4)] [(.int c3), (.int (11 : Int32)), (.ref b1)])) (fun _ k => XS.aloadN A281.here hx rfl (hb hby d27_58) rfl rfl (XS.bipush A281.here hx rfl (hb hby d27_59) (XS.iloadN A281.here hx rfl (hb hby d27_61) rfl k))) ?_
  obtain ⟨T282, h282, A282, K282, V282, st282⟩ := A281.stC hx V281 (List.mem_of_getElem? (i := 0) rfl) (j := (11 : Int32)) 11 rfl ⟨by decide, by decide⟩ (Nat.le_of_ble_eq_true rfl) (g := (mkF m 62 #[.val (.ref b1), .val (.int c1), .val (.int c2), .val (.int c3), .val (.int c4)] [(.int c3), (.int (11 : Int32)), (.ref b1)])) rfl rfl (hb hby d27_62)
  refine Run.st (T282.setTop (mkF m 63 #[.val (.ref b1), .val (.int c1), .val (.int c2), .val (.int c3), .val (.int c4)] [])) st282 ?_
  refine Run.st (T282.setTop (mkF m 68 #[.val (.ref b1), .val (.int c1), .val (.int c2), .val (.int c3), .val (.int c4)] [(.int c4), (.int (12 : Int32)), (.ref b1)])) (fun _ k => XS.aloadN A282.here hx rfl (hb hby d27_63) rfl rfl (XS.bipush A282.here hx rfl (hb hby d27_64) (XS.iload A282.here hx rfl (hb hby d27_66) rfl k))) ?_
  obtain ⟨T283, h283, A283, K283, V283, st283⟩ := A282.stC hx V282 (List.mem_of_getElem? (i := 0) rfl) (j := (12 : Int32)) 12 rfl ⟨by decide, by decide⟩ (Nat.le_of_ble_eq_true rfl) (g := (mkF m 68 #[.val (.ref b1), .val (.int c1), .val (.int c2), .val (.int c3), .val (.int c4)] [(.int c4), (.int (12 : Int32)), (.ref b1)])) rfl rfl (hb hby d27_68)
  refine Run.st (T283.setTop (mkF m 69 #[.val (.ref b1), .val (.int c1), .val (.int c2), .val (.int c3), .val (.int c4)] [])) st283 ?_
  refine Run.st (T283.setTop (mkF m 74 #[.val (.ref b1), .val (.int c1), .val (.int c2), .val (.int c3), .val (.int c4)] [(.int (41 : Int32)), (.int (13 : Int32)), (.ref b1)])) (fun _ k => XS.aloadN A283.here hx rfl (hb hby d27_69) rfl rfl (XS.bipush A283.here hx rfl (hb hby d27_70) (XS.bipush A283.here hx rfl (hb hby d27_72) k))) ?_
  obtain ⟨T284, h284, A284, K284, V284, st284⟩ := A283.stC hx V283 (List.mem_of_getElem? (i := 0) rfl) (j := (13 : Int32)) 13 rfl ⟨by decide, by decide⟩ (Nat.le_of_ble_eq_true rfl) (g := (mkF m 74 #[.val (.ref b1), .val (.int c1), .val (.int c2), .val (.int c3), .val (.int c4)] [(.int (41 : Int32)), (.int (13 : Int32)), (.ref b1)])) rfl rfl (hb hby d27_74)
  refine Run.st (T284.setTop (mkF m 75 #[.val (.ref b1), .val (.int c1), .val (.int c2), .val (.int c3), .val (.int c4)] [])) st284 ?_
  exact A284.leaveN hlk none (fun _ => rfl) (by decide) (by decide) ⟨rfl, V284⟩ (fun X hr => X.returnOut hx hrt (hb hby d27_75) hr)
theorem ef_head25 (m : MethodId) (y0 : Addr) (y1 : Int32) (y2 : Int32) (y3 : Int32) (y4 : Int32) : entryFrame m #[(.ref y0), (.int y1), (.int y2), (.int y3), (.int y4)] 5 = mkF m 0 #[.val (.ref y0), .val (.int y1), .val (.int y2), .val (.int y3), .val (.int y4)] [] := by first | (simp [entryFrame, mkF, argsToLocals, Value.category, maxLocals]; done) | rfl
def Q_head25 (Z : State) (b1 : Addr) (kb : ClassId) (c1 : Int32) (c2 : Int32) (c3 : Int32) (c4 : Int32) (h0 : Heap) (v : Option Value) (h : Heap) : Prop := v = none ∧ Arv Z h b1 kb .char (25 : Int32) [(.int (nar .char (67 : Int32))), (.int (nar .char (65 : Int32))), (.int (nar .char (83 : Int32))), (.int (nar .char (84 : Int32))), (.int (nar .char (40 : Int32))), (.int (nar .char c1)), (.int (nar .char c2)), (.int (nar .char (32 : Int32))), (.int (nar .char (65 : Int32))), (.int (nar .char (83 : Int32))), (.int (nar .char (32 : Int32))), (.int (nar .char c3)), (.int (nar .char c4)), (.int (nar .char (41 : Int32))), (.int (0 : Int32)), (.int (0 : Int32)), (.int (0 : Int32)), (.int (0 : Int32)), (.int (0 : Int32)), (.int (0 : Int32)), (.int (0 : Int32)), (.int (0 : Int32)), (.int (0 : Int32)), (.int (0 : Int32)), (.int (0 : Int32))] (.int (0 : Int32))
def rm_head25 : Room := { frames := 0, cells := 0, slots := 0, locals := 0 }
set_option maxRecDepth 65536 in
set_option maxHeartbeats 40000000 in
theorem ct_head25 {l : Launch} {Z : State} {a0 : Array Value} (H : Ev Z a0) (b1 : Addr) (kb : ClassId) (c1 : Int32) (c2 : Int32) (c3 : Int32) (c4 : Int32) {h0 : Heap} {n0 : Nat} (O0 : Old Z n0 h0) (Vb : Arv Z h0 b1 kb .char (25 : Int32) [(.int (0 : Int32)), (.int (0 : Int32)), (.int (0 : Int32)), (.int (0 : Int32)), (.int (0 : Int32)), (.int (0 : Int32)), (.int (0 : Int32)), (.int (0 : Int32)), (.int (0 : Int32)), (.int (0 : Int32)), (.int (0 : Int32)), (.int (0 : Int32)), (.int (0 : Int32)), (.int (0 : Int32)), (.int (0 : Int32)), (.int (0 : Int32)), (.int (0 : Int32)), (.int (0 : Int32)), (.int (0 : Int32)), (.int (0 : Int32)), (.int (0 : Int32)), (.int (0 : Int32)), (.int (0 : Int32)), (.int (0 : Int32)), (.int (0 : Int32))] (.int (0 : Int32))) (g_b1 : n0 ≤ b1) (z_b1 : b1 < h0.size) : CtrN l Z (⟨"org/grantpath/ComparisonOfPinLaw", "head", "([CCCCC)V"⟩ : MethodName) method_2_code 5 none [] rm_head25 #[(.ref b1), (.int c1), (.int c2), (.int c3), (.int c4)] h0 [b1] n0 (Q_head25 Z b1 kb c1 c2 c3 c4 h0) := by
  refine enterN (a0 := a0) (plainFor_of_name pn_7) O0 (allS ⟨g_b1, z_b1⟩ all0) ?_
  intro p e s m below meth c T0 hx hby hml hrt hnm hlk A0
  replace A0 : Wk false Z a0 [] n0 h0 [b1] "org/grantpath/ComparisonOfPinLaw" p l e rm_head25 s m #[(.ref b1), (.int c1), (.int c2), (.int c3), (.int c4)] below meth c [b1] T0 h0 0 0 := A0
  refine Run.st (T0.setTop (mkF m 0 #[.val (.ref b1), .val (.int c1), .val (.int c2), .val (.int c3), .val (.int c4)] [])) (fun _ k => castTop (ef_head25 m b1 c1 c2 c3 c4) k) ?_
  refine Run.st (T0.setTop (mkF m 4 #[.val (.ref b1), .val (.int c1), .val (.int c2), .val (.int c3), .val (.int c4)] [(.int (67 : Int32)), (.int (0 : Int32)), (.ref b1)])) (fun _ k => XS.aloadN A0.here hx rfl (hb hby d27_0) rfl rfl (XS.iconst A0.here hx rfl (hb hby d27_1) (XS.bipush A0.here hx rfl (hb hby d27_2) k))) ?_
  obtain ⟨T299, h299, A299, K299, V299, st299⟩ := A0.stC hx Vb (List.mem_of_getElem? (i := 0) rfl) (j := (0 : Int32)) 0 rfl ⟨by decide, by decide⟩ (Nat.le_of_ble_eq_true rfl) (g := (mkF m 4 #[.val (.ref b1), .val (.int c1), .val (.int c2), .val (.int c3), .val (.int c4)] [(.int (67 : Int32)), (.int (0 : Int32)), (.ref b1)])) rfl rfl (hb hby d27_4)
  refine Run.st (T299.setTop (mkF m 5 #[.val (.ref b1), .val (.int c1), .val (.int c2), .val (.int c3), .val (.int c4)] [])) st299 ?_
  refine Run.st (T299.setTop (mkF m 9 #[.val (.ref b1), .val (.int c1), .val (.int c2), .val (.int c3), .val (.int c4)] [(.int (65 : Int32)), (.int (1 : Int32)), (.ref b1)])) (fun _ k => XS.aloadN A299.here hx rfl (hb hby d27_5) rfl rfl (XS.iconst A299.here hx rfl (hb hby d27_6) (XS.bipush A299.here hx rfl (hb hby d27_7) k))) ?_
  obtain ⟨T300, h300, A300, K300, V300, st300⟩ := A299.stC hx V299 (List.mem_of_getElem? (i := 0) rfl) (j := (1 : Int32)) 1 rfl ⟨by decide, by decide⟩ (Nat.le_of_ble_eq_true rfl) (g := (mkF m 9 #[.val (.ref b1), .val (.int c1), .val (.int c2), .val (.int c3), .val (.int c4)] [(.int (65 : Int32)), (.int (1 : Int32)), (.ref b1)])) rfl rfl (hb hby d27_9)
  refine Run.st (T300.setTop (mkF m 10 #[.val (.ref b1), .val (.int c1), .val (.int c2), .val (.int c3), .val (.int c4)] [])) st300 ?_
  refine Run.st (T300.setTop (mkF m 14 #[.val (.ref b1), .val (.int c1), .val (.int c2), .val (.int c3), .val (.int c4)] [(.int (83 : Int32)), (.int (2 : Int32)), (.ref b1)])) (fun _ k => XS.aloadN A300.here hx rfl (hb hby d27_10) rfl rfl (XS.iconst A300.here hx rfl (hb hby d27_11) (XS.bipush A300.here hx rfl (hb hby d27_12) k))) ?_
  obtain ⟨T301, h301, A301, K301, V301, st301⟩ := A300.stC hx V300 (List.mem_of_getElem? (i := 0) rfl) (j := (2 : Int32)) 2 rfl ⟨by decide, by decide⟩ (Nat.le_of_ble_eq_true rfl) (g := (mkF m 14 #[.val (.ref b1), .val (.int c1), .val (.int c2), .val (.int c3), .val (.int c4)] [(.int (83 : Int32)), (.int (2 : Int32)), (.ref b1)])) rfl rfl (hb hby d27_14)
  refine Run.st (T301.setTop (mkF m 15 #[.val (.ref b1), .val (.int c1), .val (.int c2), .val (.int c3), .val (.int c4)] [])) st301 ?_
  refine Run.st (T301.setTop (mkF m 19 #[.val (.ref b1), .val (.int c1), .val (.int c2), .val (.int c3), .val (.int c4)] [(.int (84 : Int32)), (.int (3 : Int32)), (.ref b1)])) (fun _ k => XS.aloadN A301.here hx rfl (hb hby d27_15) rfl rfl (XS.iconst A301.here hx rfl (hb hby d27_16) (XS.bipush A301.here hx rfl (hb hby d27_17) k))) ?_
  obtain ⟨T302, h302, A302, K302, V302, st302⟩ := A301.stC hx V301 (List.mem_of_getElem? (i := 0) rfl) (j := (3 : Int32)) 3 rfl ⟨by decide, by decide⟩ (Nat.le_of_ble_eq_true rfl) (g := (mkF m 19 #[.val (.ref b1), .val (.int c1), .val (.int c2), .val (.int c3), .val (.int c4)] [(.int (84 : Int32)), (.int (3 : Int32)), (.ref b1)])) rfl rfl (hb hby d27_19)
  refine Run.st (T302.setTop (mkF m 20 #[.val (.ref b1), .val (.int c1), .val (.int c2), .val (.int c3), .val (.int c4)] [])) st302 ?_
  refine Run.st (T302.setTop (mkF m 24 #[.val (.ref b1), .val (.int c1), .val (.int c2), .val (.int c3), .val (.int c4)] [(.int (40 : Int32)), (.int (4 : Int32)), (.ref b1)])) (fun _ k => XS.aloadN A302.here hx rfl (hb hby d27_20) rfl rfl (XS.iconst A302.here hx rfl (hb hby d27_21) (XS.bipush A302.here hx rfl (hb hby d27_22) k))) ?_
  obtain ⟨T303, h303, A303, K303, V303, st303⟩ := A302.stC hx V302 (List.mem_of_getElem? (i := 0) rfl) (j := (4 : Int32)) 4 rfl ⟨by decide, by decide⟩ (Nat.le_of_ble_eq_true rfl) (g := (mkF m 24 #[.val (.ref b1), .val (.int c1), .val (.int c2), .val (.int c3), .val (.int c4)] [(.int (40 : Int32)), (.int (4 : Int32)), (.ref b1)])) rfl rfl (hb hby d27_24)
  refine Run.st (T303.setTop (mkF m 25 #[.val (.ref b1), .val (.int c1), .val (.int c2), .val (.int c3), .val (.int c4)] [])) st303 ?_
  refine Run.st (T303.setTop (mkF m 28 #[.val (.ref b1), .val (.int c1), .val (.int c2), .val (.int c3), .val (.int c4)] [(.int c1), (.int (5 : Int32)), (.ref b1)])) (fun _ k => XS.aloadN A303.here hx rfl (hb hby d27_25) rfl rfl (XS.iconst A303.here hx rfl (hb hby d27_26) (XS.iloadN A303.here hx rfl (hb hby d27_27) rfl k))) ?_
  obtain ⟨T304, h304, A304, K304, V304, st304⟩ := A303.stC hx V303 (List.mem_of_getElem? (i := 0) rfl) (j := (5 : Int32)) 5 rfl ⟨by decide, by decide⟩ (Nat.le_of_ble_eq_true rfl) (g := (mkF m 28 #[.val (.ref b1), .val (.int c1), .val (.int c2), .val (.int c3), .val (.int c4)] [(.int c1), (.int (5 : Int32)), (.ref b1)])) rfl rfl (hb hby d27_28)
  refine Run.st (T304.setTop (mkF m 29 #[.val (.ref b1), .val (.int c1), .val (.int c2), .val (.int c3), .val (.int c4)] [])) st304 ?_
  refine Run.st (T304.setTop (mkF m 33 #[.val (.ref b1), .val (.int c1), .val (.int c2), .val (.int c3), .val (.int c4)] [(.int c2), (.int (6 : Int32)), (.ref b1)])) (fun _ k => XS.aloadN A304.here hx rfl (hb hby d27_29) rfl rfl (XS.bipush A304.here hx rfl (hb hby d27_30) (XS.iloadN A304.here hx rfl (hb hby d27_32) rfl k))) ?_
  obtain ⟨T305, h305, A305, K305, V305, st305⟩ := A304.stC hx V304 (List.mem_of_getElem? (i := 0) rfl) (j := (6 : Int32)) 6 rfl ⟨by decide, by decide⟩ (Nat.le_of_ble_eq_true rfl) (g := (mkF m 33 #[.val (.ref b1), .val (.int c1), .val (.int c2), .val (.int c3), .val (.int c4)] [(.int c2), (.int (6 : Int32)), (.ref b1)])) rfl rfl (hb hby d27_33)
  refine Run.st (T305.setTop (mkF m 34 #[.val (.ref b1), .val (.int c1), .val (.int c2), .val (.int c3), .val (.int c4)] [])) st305 ?_
  refine Run.st (T305.setTop (mkF m 39 #[.val (.ref b1), .val (.int c1), .val (.int c2), .val (.int c3), .val (.int c4)] [(.int (32 : Int32)), (.int (7 : Int32)), (.ref b1)])) (fun _ k => XS.aloadN A305.here hx rfl (hb hby d27_34) rfl rfl (XS.bipush A305.here hx rfl (hb hby d27_35) (XS.bipush A305.here hx rfl (hb hby d27_37) k))) ?_
  obtain ⟨T306, h306, A306, K306, V306, st306⟩ := A305.stC hx V305 (List.mem_of_getElem? (i := 0) rfl) (j := (7 : Int32)) 7 rfl ⟨by decide, by decide⟩ (Nat.le_of_ble_eq_true rfl) (g := (mkF m 39 #[.val (.ref b1), .val (.int c1), .val (.int c2), .val (.int c3), .val (.int c4)] [(.int (32 : Int32)), (.int (7 : Int32)), (.ref b1)])) rfl rfl (hb hby d27_39)
  refine Run.st (T306.setTop (mkF m 40 #[.val (.ref b1), .val (.int c1), .val (.int c2), .val (.int c3), .val (.int c4)] [])) st306 ?_
  refine Run.st (T306.setTop (mkF m 45 #[.val (.ref b1), .val (.int c1), .val (.int c2), .val (.int c3), .val (.int c4)] [(.int (65 : Int32)), (.int (8 : Int32)), (.ref b1)])) (fun _ k => XS.aloadN A306.here hx rfl (hb hby d27_40) rfl rfl (XS.bipush A306.here hx rfl (hb hby d27_41) (XS.bipush A306.here hx rfl (hb hby d27_43) k))) ?_
  obtain ⟨T307, h307, A307, K307, V307, st307⟩ := A306.stC hx V306 (List.mem_of_getElem? (i := 0) rfl) (j := (8 : Int32)) 8 rfl ⟨by decide, by decide⟩ (Nat.le_of_ble_eq_true rfl) (g := (mkF m 45 #[.val (.ref b1), .val (.int c1), .val (.int c2), .val (.int c3), .val (.int c4)] [(.int (65 : Int32)), (.int (8 : Int32)), (.ref b1)])) rfl rfl (hb hby d27_45)
  refine Run.st (T307.setTop (mkF m 46 #[.val (.ref b1), .val (.int c1), .val (.int c2), .val (.int c3), .val (.int c4)] [])) st307 ?_
  refine Run.st (T307.setTop (mkF m 51 #[.val (.ref b1), .val (.int c1), .val (.int c2), .val (.int c3), .val (.int c4)] [(.int (83 : Int32)), (.int (9 : Int32)), (.ref b1)])) (fun _ k => XS.aloadN A307.here hx rfl (hb hby d27_46) rfl rfl (XS.bipush A307.here hx rfl (hb hby d27_47) (XS.bipush A307.here hx rfl (hb hby d27_49) k))) ?_
  obtain ⟨T308, h308, A308, K308, V308, st308⟩ := A307.stC hx V307 (List.mem_of_getElem? (i := 0) rfl) (j := (9 : Int32)) 9 rfl ⟨by decide, by decide⟩ (Nat.le_of_ble_eq_true rfl) (g := (mkF m 51 #[.val (.ref b1), .val (.int c1), .val (.int c2), .val (.int c3), .val (.int c4)] [(.int (83 : Int32)), (.int (9 : Int32)), (.ref b1)])) rfl rfl (hb hby d27_51)
  refine Run.st (T308.setTop (mkF m 52 #[.val (.ref b1), .val (.int c1), .val (.int c2), .val (.int c3), .val (.int c4)] [])) st308 ?_
  refine Run.st (T308.setTop (mkF m 57 #[.val (.ref b1), .val (.int c1), .val (.int c2), .val (.int c3), .val (.int c4)] [(.int (32 : Int32)), (.int (10 : Int32)), (.ref b1)])) (fun _ k => XS.aloadN A308.here hx rfl (hb hby d27_52) rfl rfl (XS.bipush A308.here hx rfl (hb hby d27_53) (XS.bipush A308.here hx rfl (hb hby d27_55) k))) ?_
  obtain ⟨T309, h309, A309, K309, V309, st309⟩ := A308.stC hx V308 (List.mem_of_getElem? (i := 0) rfl) (j := (10 : Int32)) 10 rfl ⟨by decide, by decide⟩ (Nat.le_of_ble_eq_true rfl) (g := (mkF m 57 #[.val (.ref b1), .val (.int c1), .val (.int c2), .val (.int c3), .val (.int c4)] [(.int (32 : Int32)), (.int (10 : Int32)), (.ref b1)])) rfl rfl (hb hby d27_57)
  refine Run.st (T309.setTop (mkF m 58 #[.val (.ref b1), .val (.int c1), .val (.int c2), .val (.int c3), .val (.int c4)] [])) st309 ?_
  refine Run.st (T309.setTop (mkF m 62 #[.val (.ref b1), .val (.int c1), .val (.int c2), .val (.int c3), .val (.int c4)] [(.int c3), (.int (11 : Int32)), (.ref b1)])) (fun _ k => XS.aloadN A309.here hx rfl (hb hby d27_58) rfl rfl (XS.bipush A309.here hx rfl (hb hby d27_59) (XS.iloadN A309.here hx rfl (hb hby d27_61) rfl k))) ?_
  obtain ⟨T310, h310, A310, K310, V310, st310⟩ := A309.stC hx V309 (List.mem_of_getElem? (i := 0) rfl) (j := (11 : Int32)) 11 rfl ⟨by decide, by decide⟩ (Nat.le_of_ble_eq_true rfl) (g := (mkF m 62 #[.val (.ref b1), .val (.int c1), .val (.int c2), .val (.int c3), .val (.int c4)] [(.int c3), (.int (11 : Int32)), (.ref b1)])) rfl rfl (hb hby d27_62)
  refine Run.st (T310.setTop (mkF m 63 #[.val (.ref b1), .val (.int c1), .val (.int c2), .val (.int c3), .val (.int c4)] [])) st310 ?_
  refine Run.st (T310.setTop (mkF m 68 #[.val (.ref b1), .val (.int c1), .val (.int c2), .val (.int c3), .val (.int c4)] [(.int c4), (.int (12 : Int32)), (.ref b1)])) (fun _ k => XS.aloadN A310.here hx rfl (hb hby d27_63) rfl rfl (XS.bipush A310.here hx rfl (hb hby d27_64) (XS.iload A310.here hx rfl (hb hby d27_66) rfl k))) ?_
  obtain ⟨T311, h311, A311, K311, V311, st311⟩ := A310.stC hx V310 (List.mem_of_getElem? (i := 0) rfl) (j := (12 : Int32)) 12 rfl ⟨by decide, by decide⟩ (Nat.le_of_ble_eq_true rfl) (g := (mkF m 68 #[.val (.ref b1), .val (.int c1), .val (.int c2), .val (.int c3), .val (.int c4)] [(.int c4), (.int (12 : Int32)), (.ref b1)])) rfl rfl (hb hby d27_68)
  refine Run.st (T311.setTop (mkF m 69 #[.val (.ref b1), .val (.int c1), .val (.int c2), .val (.int c3), .val (.int c4)] [])) st311 ?_
  refine Run.st (T311.setTop (mkF m 74 #[.val (.ref b1), .val (.int c1), .val (.int c2), .val (.int c3), .val (.int c4)] [(.int (41 : Int32)), (.int (13 : Int32)), (.ref b1)])) (fun _ k => XS.aloadN A311.here hx rfl (hb hby d27_69) rfl rfl (XS.bipush A311.here hx rfl (hb hby d27_70) (XS.bipush A311.here hx rfl (hb hby d27_72) k))) ?_
  obtain ⟨T312, h312, A312, K312, V312, st312⟩ := A311.stC hx V311 (List.mem_of_getElem? (i := 0) rfl) (j := (13 : Int32)) 13 rfl ⟨by decide, by decide⟩ (Nat.le_of_ble_eq_true rfl) (g := (mkF m 74 #[.val (.ref b1), .val (.int c1), .val (.int c2), .val (.int c3), .val (.int c4)] [(.int (41 : Int32)), (.int (13 : Int32)), (.ref b1)])) rfl rfl (hb hby d27_74)
  refine Run.st (T312.setTop (mkF m 75 #[.val (.ref b1), .val (.int c1), .val (.int c2), .val (.int c3), .val (.int c4)] [])) st312 ?_
  exact A312.leaveN hlk none (fun _ => rfl) (by decide) (by decide) ⟨rfl, V312⟩ (fun X hr => X.returnOut hx hrt (hb hby d27_75) hr)
theorem ef_law (m : MethodId) (y0 : Int32) (y1 : Int32) (y2 : Int32) (y3 : Int32) : entryFrame m #[(.int y0), (.int y1), (.int y2), (.int y3)] maxLocals = mkF m 0 #[.val (.int y0), .val (.int y1), .val (.int y2), .val (.int y3), .unset, .unset, .unset, .unset, .unset, .unset, .unset, .unset, .unset, .unset, .unset, .unset, .unset, .unset, .unset, .unset, .unset, .unset] [] := by first | (simp [entryFrame, mkF, argsToLocals, Value.category, maxLocals]; done) | rfl
def Q_law (Z : State) (p0 : Int32) (p1 : Int32) (p2 : Int32) (p3 : Int32) (h0 : Heap) (v : Option Value) (h : Heap) : Prop := v = some (.int 1)
set_option maxRecDepth 65536 in
set_option maxHeartbeats 40000000 in
theorem ct_law {l : Launch} {Z : State} {a0 : Array Value} (H : Ev Z a0) (p0 : Int32) (p1 : Int32) (p2 : Int32) (p3 : Int32) {h0 : Heap} {n0 : Nat} (O0 : Old Z n0 h0) : CtrW l Z EL x code maxLocals ret tables_1 room_1 #[(.int p0), (.int p1), (.int p2), (.int p3)] h0 [] n0 (Q_law Z p0 p1 p2 p3 h0) := by
  refine enterW (a0 := a0) (plainFor_of_name pn_7) (elA H) O0 all0 ?_
  intro p e s m below meth c T0 hx hby hml hrt hnm hlk hh0 A0
  replace A0 : Wk true Z a0 EL n0 h0 [] "org/grantpath/ComparisonOfPinLaw" p l e room_1 s m #[(.int p0), (.int p1), (.int p2), (.int p3)] below meth c [] T0 h0 0 0 := A0
  refine Run.st (T0.setTop (mkF m 0 #[.val (.int p0), .val (.int p1), .val (.int p2), .val (.int p3), .unset, .unset, .unset, .unset, .unset, .unset, .unset, .unset, .unset, .unset, .unset, .unset, .unset, .unset, .unset, .unset, .unset, .unset] [])) (fun _ k => castTop (ef_law m p0 p1 p2 p3) k) ?_
  refine Run.st (T0.setTop (mkF m 15 #[.val (.int p0), .val (.int p1), .val (.int p2), .val (.int p3), .val (.int ((p0 &&& (255 : Int32)).toUInt32.toUInt16.toUInt32.toInt32)), .unset, .unset, .unset, .unset, .unset, .unset, .unset, .unset, .unset, .unset, .unset, .unset, .unset, .unset, .unset, .unset, .unset] [(.int (255 : Int32)), (.int (XT.ushr p0 (8 : Int32)))])) (fun _ k => XS.iloadN A0.here hx rfl (hb hby at_0) rfl (XS.sipush A0.here hx rfl (hb hby at_1) (XS.iand A0.here hx rfl (hb hby at_4) rfl (XS.i2c A0.here hx rfl (hb hby at_5) rfl (XS.istore A0.here hx rfl (hb hby at_6) rfl (l' := #[.val (.int p0), .val (.int p1), .val (.int p2), .val (.int p3), .val (.int ((p0 &&& (255 : Int32)).toUInt32.toUInt16.toUInt32.toInt32)), .unset, .unset, .unset, .unset, .unset, .unset, .unset, .unset, .unset, .unset, .unset, .unset, .unset, .unset, .unset, .unset, .unset]) rfl (XS.iloadN A0.here hx rfl (hb hby at_8) rfl (XS.bipush A0.here hx rfl (hb hby at_9) (XT.iushr A0.here hx rfl (hb hby at_11) rfl (XS.sipush A0.here hx rfl (hb hby at_12) k))))))))) ?_
  refine Run.st (T0.setTop (mkF m 28 #[.val (.int p0), .val (.int p1), .val (.int p2), .val (.int p3), .val (.int ((p0 &&& (255 : Int32)).toUInt32.toUInt16.toUInt32.toInt32)), .val (.int (((XT.ushr p0 (8 : Int32)) &&& (255 : Int32)).toUInt32.toUInt16.toUInt32.toInt32)), .val (.int ((p1 &&& (255 : Int32)).toUInt32.toUInt16.toUInt32.toInt32)), .unset, .unset, .unset, .unset, .unset, .unset, .unset, .unset, .unset, .unset, .unset, .unset, .unset, .unset, .unset] [(.int p1)])) (fun _ k => XS.iand A0.here hx rfl (hb hby at_15) rfl (XS.i2c A0.here hx rfl (hb hby at_16) rfl (XS.istore A0.here hx rfl (hb hby at_17) rfl (l' := #[.val (.int p0), .val (.int p1), .val (.int p2), .val (.int p3), .val (.int ((p0 &&& (255 : Int32)).toUInt32.toUInt16.toUInt32.toInt32)), .val (.int (((XT.ushr p0 (8 : Int32)) &&& (255 : Int32)).toUInt32.toUInt16.toUInt32.toInt32)), .unset, .unset, .unset, .unset, .unset, .unset, .unset, .unset, .unset, .unset, .unset, .unset, .unset, .unset, .unset, .unset]) rfl (XS.iloadN A0.here hx rfl (hb hby at_19) rfl (XS.sipush A0.here hx rfl (hb hby at_20) (XS.iand A0.here hx rfl (hb hby at_23) rfl (XS.i2c A0.here hx rfl (hb hby at_24) rfl (XS.istore A0.here hx rfl (hb hby at_25) rfl (l' := #[.val (.int p0), .val (.int p1), .val (.int p2), .val (.int p3), .val (.int ((p0 &&& (255 : Int32)).toUInt32.toUInt16.toUInt32.toInt32)), .val (.int (((XT.ushr p0 (8 : Int32)) &&& (255 : Int32)).toUInt32.toUInt16.toUInt32.toInt32)), .val (.int ((p1 &&& (255 : Int32)).toUInt32.toUInt16.toUInt32.toInt32)), .unset, .unset, .unset, .unset, .unset, .unset, .unset, .unset, .unset, .unset, .unset, .unset, .unset, .unset, .unset]) rfl (XS.iloadN A0.here hx rfl (hb hby at_27) rfl k))))))))) ?_
  refine Run.st (T0.setTop (mkF m 43 #[.val (.int p0), .val (.int p1), .val (.int p2), .val (.int p3), .val (.int ((p0 &&& (255 : Int32)).toUInt32.toUInt16.toUInt32.toInt32)), .val (.int (((XT.ushr p0 (8 : Int32)) &&& (255 : Int32)).toUInt32.toUInt16.toUInt32.toInt32)), .val (.int ((p1 &&& (255 : Int32)).toUInt32.toUInt16.toUInt32.toInt32)), .val (.int (((XT.ushr p1 (8 : Int32)) &&& (255 : Int32)).toUInt32.toUInt16.toUInt32.toInt32)), .unset, .unset, .unset, .unset, .unset, .unset, .unset, .unset, .unset, .unset, .unset, .unset, .unset, .unset] [(.int (p2 &&& (255 : Int32)))])) (fun _ k => XS.bipush A0.here hx rfl (hb hby at_28) (XT.iushr A0.here hx rfl (hb hby at_30) rfl (XS.sipush A0.here hx rfl (hb hby at_31) (XS.iand A0.here hx rfl (hb hby at_34) rfl (XS.i2c A0.here hx rfl (hb hby at_35) rfl (XS.istore A0.here hx rfl (hb hby at_36) rfl (l' := #[.val (.int p0), .val (.int p1), .val (.int p2), .val (.int p3), .val (.int ((p0 &&& (255 : Int32)).toUInt32.toUInt16.toUInt32.toInt32)), .val (.int (((XT.ushr p0 (8 : Int32)) &&& (255 : Int32)).toUInt32.toUInt16.toUInt32.toInt32)), .val (.int ((p1 &&& (255 : Int32)).toUInt32.toUInt16.toUInt32.toInt32)), .val (.int (((XT.ushr p1 (8 : Int32)) &&& (255 : Int32)).toUInt32.toUInt16.toUInt32.toInt32)), .unset, .unset, .unset, .unset, .unset, .unset, .unset, .unset, .unset, .unset, .unset, .unset, .unset, .unset]) rfl (XS.iloadN A0.here hx rfl (hb hby at_38) rfl (XS.sipush A0.here hx rfl (hb hby at_39) (XS.iand A0.here hx rfl (hb hby at_42) rfl k))))))))) ?_
  refine Run.st (T0.setTop (mkF m 57 #[.val (.int p0), .val (.int p1), .val (.int p2), .val (.int p3), .val (.int ((p0 &&& (255 : Int32)).toUInt32.toUInt16.toUInt32.toInt32)), .val (.int (((XT.ushr p0 (8 : Int32)) &&& (255 : Int32)).toUInt32.toUInt16.toUInt32.toInt32)), .val (.int ((p1 &&& (255 : Int32)).toUInt32.toUInt16.toUInt32.toInt32)), .val (.int (((XT.ushr p1 (8 : Int32)) &&& (255 : Int32)).toUInt32.toUInt16.toUInt32.toInt32)), .val (.int ((p2 &&& (255 : Int32)).toUInt32.toUInt16.toUInt32.toInt32)), .val (.int (((XT.ushr p2 (8 : Int32)) &&& (255 : Int32)).toUInt32.toUInt16.toUInt32.toInt32)), .unset, .unset, .unset, .unset, .unset, .unset, .unset, .unset, .unset, .unset, .unset, .unset] [])) (fun _ k => XS.i2c A0.here hx rfl (hb hby at_43) rfl (XS.istore A0.here hx rfl (hb hby at_44) rfl (l' := #[.val (.int p0), .val (.int p1), .val (.int p2), .val (.int p3), .val (.int ((p0 &&& (255 : Int32)).toUInt32.toUInt16.toUInt32.toInt32)), .val (.int (((XT.ushr p0 (8 : Int32)) &&& (255 : Int32)).toUInt32.toUInt16.toUInt32.toInt32)), .val (.int ((p1 &&& (255 : Int32)).toUInt32.toUInt16.toUInt32.toInt32)), .val (.int (((XT.ushr p1 (8 : Int32)) &&& (255 : Int32)).toUInt32.toUInt16.toUInt32.toInt32)), .val (.int ((p2 &&& (255 : Int32)).toUInt32.toUInt16.toUInt32.toInt32)), .unset, .unset, .unset, .unset, .unset, .unset, .unset, .unset, .unset, .unset, .unset, .unset, .unset]) rfl (XS.iloadN A0.here hx rfl (hb hby at_46) rfl (XS.bipush A0.here hx rfl (hb hby at_47) (XT.iushr A0.here hx rfl (hb hby at_49) rfl (XS.sipush A0.here hx rfl (hb hby at_50) (XS.iand A0.here hx rfl (hb hby at_53) rfl (XS.i2c A0.here hx rfl (hb hby at_54) rfl (XS.istore A0.here hx rfl (hb hby at_55) rfl (l' := #[.val (.int p0), .val (.int p1), .val (.int p2), .val (.int p3), .val (.int ((p0 &&& (255 : Int32)).toUInt32.toUInt16.toUInt32.toInt32)), .val (.int (((XT.ushr p0 (8 : Int32)) &&& (255 : Int32)).toUInt32.toUInt16.toUInt32.toInt32)), .val (.int ((p1 &&& (255 : Int32)).toUInt32.toUInt16.toUInt32.toInt32)), .val (.int (((XT.ushr p1 (8 : Int32)) &&& (255 : Int32)).toUInt32.toUInt16.toUInt32.toInt32)), .val (.int ((p2 &&& (255 : Int32)).toUInt32.toUInt16.toUInt32.toInt32)), .val (.int (((XT.ushr p2 (8 : Int32)) &&& (255 : Int32)).toUInt32.toUInt16.toUInt32.toInt32)), .unset, .unset, .unset, .unset, .unset, .unset, .unset, .unset, .unset, .unset, .unset, .unset]) rfl k))))))))) ?_
  refine Run.st (T0.setTop (mkF m 60 #[.val (.int p0), .val (.int p1), .val (.int p2), .val (.int p3), .val (.int ((p0 &&& (255 : Int32)).toUInt32.toUInt16.toUInt32.toInt32)), .val (.int (((XT.ushr p0 (8 : Int32)) &&& (255 : Int32)).toUInt32.toUInt16.toUInt32.toInt32)), .val (.int ((p1 &&& (255 : Int32)).toUInt32.toUInt16.toUInt32.toInt32)), .val (.int (((XT.ushr p1 (8 : Int32)) &&& (255 : Int32)).toUInt32.toUInt16.toUInt32.toInt32)), .val (.int ((p2 &&& (255 : Int32)).toUInt32.toUInt16.toUInt32.toInt32)), .val (.int (((XT.ushr p2 (8 : Int32)) &&& (255 : Int32)).toUInt32.toUInt16.toUInt32.toInt32)), .unset, .unset, .unset, .unset, .unset, .unset, .unset, .unset, .unset, .unset, .unset, .unset] [(.int (p3 &&& (1 : Int32)))])) (fun _ k => XS.iloadN A0.here hx rfl (hb hby at_57) rfl (XS.iconst A0.here hx rfl (hb hby at_58) (XS.iand A0.here hx rfl (hb hby at_59) rfl k))) ?_
  by_cases c313 : (p3 &&& (1 : Int32)) = (0 : Int32)
  · refine Run.st (T0.setTop (mkF m 71 #[.val (.int p0), .val (.int p1), .val (.int p2), .val (.int p3), .val (.int ((p0 &&& (255 : Int32)).toUInt32.toUInt16.toUInt32.toInt32)), .val (.int (((XT.ushr p0 (8 : Int32)) &&& (255 : Int32)).toUInt32.toUInt16.toUInt32.toInt32)), .val (.int ((p1 &&& (255 : Int32)).toUInt32.toUInt16.toUInt32.toInt32)), .val (.int (((XT.ushr p1 (8 : Int32)) &&& (255 : Int32)).toUInt32.toUInt16.toUInt32.toInt32)), .val (.int ((p2 &&& (255 : Int32)).toUInt32.toUInt16.toUInt32.toInt32)), .val (.int (((XT.ushr p2 (8 : Int32)) &&& (255 : Int32)).toUInt32.toUInt16.toUInt32.toInt32)), .val (.int (0 : Int32)), .unset, .unset, .unset, .unset, .unset, .unset, .unset, .unset, .unset, .unset, .unset] [(.int (2 : Int32))])) (fun _ k => XS.ifYes A0.here hx rfl (pc0 := 60) (pc' := 67) rfl (hb hby at_60) rfl (by rw [if0]; exact (teq c313).1) (by decide) (by decide) (XS.iconst A0.here hx rfl (hb hby at_67) (XS.istore A0.here hx rfl (hb hby at_68) rfl (l' := #[.val (.int p0), .val (.int p1), .val (.int p2), .val (.int p3), .val (.int ((p0 &&& (255 : Int32)).toUInt32.toUInt16.toUInt32.toInt32)), .val (.int (((XT.ushr p0 (8 : Int32)) &&& (255 : Int32)).toUInt32.toUInt16.toUInt32.toInt32)), .val (.int ((p1 &&& (255 : Int32)).toUInt32.toUInt16.toUInt32.toInt32)), .val (.int (((XT.ushr p1 (8 : Int32)) &&& (255 : Int32)).toUInt32.toUInt16.toUInt32.toInt32)), .val (.int ((p2 &&& (255 : Int32)).toUInt32.toUInt16.toUInt32.toInt32)), .val (.int (((XT.ushr p2 (8 : Int32)) &&& (255 : Int32)).toUInt32.toUInt16.toUInt32.toInt32)), .val (.int (0 : Int32)), .unset, .unset, .unset, .unset, .unset, .unset, .unset, .unset, .unset, .unset, .unset]) rfl (XS.iconst A0.here hx rfl (hb hby at_70) k)))) ?_
    obtain ⟨a314, T314, h314, kA314, A314, E314, g314, V314, st314⟩ := A0.newP hx (aty := .char) (N := (2 : Int32)) (tw0 H.1) (g := (mkF m 71 #[.val (.int p0), .val (.int p1), .val (.int p2), .val (.int p3), .val (.int ((p0 &&& (255 : Int32)).toUInt32.toUInt16.toUInt32.toInt32)), .val (.int (((XT.ushr p0 (8 : Int32)) &&& (255 : Int32)).toUInt32.toUInt16.toUInt32.toInt32)), .val (.int ((p1 &&& (255 : Int32)).toUInt32.toUInt16.toUInt32.toInt32)), .val (.int (((XT.ushr p1 (8 : Int32)) &&& (255 : Int32)).toUInt32.toUInt16.toUInt32.toInt32)), .val (.int ((p2 &&& (255 : Int32)).toUInt32.toUInt16.toUInt32.toInt32)), .val (.int (((XT.ushr p2 (8 : Int32)) &&& (255 : Int32)).toUInt32.toUInt16.toUInt32.toInt32)), .val (.int (0 : Int32)), .unset, .unset, .unset, .unset, .unset, .unset, .unset, .unset, .unset, .unset, .unset] [(.int (2 : Int32))])) rfl (hb hby at_71) rfl (by decide) (cap := 2) (by decide) (by decide) (by decide) (by decide)
    refine Run.st (T314.setTop (mkF m 73 #[.val (.int p0), .val (.int p1), .val (.int p2), .val (.int p3), .val (.int ((p0 &&& (255 : Int32)).toUInt32.toUInt16.toUInt32.toInt32)), .val (.int (((XT.ushr p0 (8 : Int32)) &&& (255 : Int32)).toUInt32.toUInt16.toUInt32.toInt32)), .val (.int ((p1 &&& (255 : Int32)).toUInt32.toUInt16.toUInt32.toInt32)), .val (.int (((XT.ushr p1 (8 : Int32)) &&& (255 : Int32)).toUInt32.toUInt16.toUInt32.toInt32)), .val (.int ((p2 &&& (255 : Int32)).toUInt32.toUInt16.toUInt32.toInt32)), .val (.int (((XT.ushr p2 (8 : Int32)) &&& (255 : Int32)).toUInt32.toUInt16.toUInt32.toInt32)), .val (.int (0 : Int32)), .unset, .unset, .unset, .unset, .unset, .unset, .unset, .unset, .unset, .unset, .unset] [(.ref a314)])) st314 ?_
    refine Run.st (T314.setTop (mkF m 80 #[.val (.int p0), .val (.int p1), .val (.int p2), .val (.int p3), .val (.int ((p0 &&& (255 : Int32)).toUInt32.toUInt16.toUInt32.toInt32)), .val (.int (((XT.ushr p0 (8 : Int32)) &&& (255 : Int32)).toUInt32.toUInt16.toUInt32.toInt32)), .val (.int ((p1 &&& (255 : Int32)).toUInt32.toUInt16.toUInt32.toInt32)), .val (.int (((XT.ushr p1 (8 : Int32)) &&& (255 : Int32)).toUInt32.toUInt16.toUInt32.toInt32)), .val (.int ((p2 &&& (255 : Int32)).toUInt32.toUInt16.toUInt32.toInt32)), .val (.int (((XT.ushr p2 (8 : Int32)) &&& (255 : Int32)).toUInt32.toUInt16.toUInt32.toInt32)), .val (.int (0 : Int32)), .val (.ref a314), .unset, .unset, .unset, .unset, .unset, .unset, .unset, .unset, .unset, .unset] [(.int ((p0 &&& (255 : Int32)).toUInt32.toUInt16.toUInt32.toInt32)), (.int (0 : Int32)), (.ref a314)])) (fun _ k => XS.astore A314.here hx rfl (hb hby at_73) rfl rfl (l' := #[.val (.int p0), .val (.int p1), .val (.int p2), .val (.int p3), .val (.int ((p0 &&& (255 : Int32)).toUInt32.toUInt16.toUInt32.toInt32)), .val (.int (((XT.ushr p0 (8 : Int32)) &&& (255 : Int32)).toUInt32.toUInt16.toUInt32.toInt32)), .val (.int ((p1 &&& (255 : Int32)).toUInt32.toUInt16.toUInt32.toInt32)), .val (.int (((XT.ushr p1 (8 : Int32)) &&& (255 : Int32)).toUInt32.toUInt16.toUInt32.toInt32)), .val (.int ((p2 &&& (255 : Int32)).toUInt32.toUInt16.toUInt32.toInt32)), .val (.int (((XT.ushr p2 (8 : Int32)) &&& (255 : Int32)).toUInt32.toUInt16.toUInt32.toInt32)), .val (.int (0 : Int32)), .val (.ref a314), .unset, .unset, .unset, .unset, .unset, .unset, .unset, .unset, .unset, .unset]) rfl (XS.aload A314.here hx rfl (hb hby at_75) rfl rfl (XS.iconst A314.here hx rfl (hb hby at_77) (XS.iload A314.here hx rfl (hb hby at_78) rfl k)))) ?_
    obtain ⟨T315, h315, A315, K315, V315, st315⟩ := A314.stC hx V314 (List.mem_of_getElem? (i := 0) rfl) (j := (0 : Int32)) 0 rfl ⟨by decide, by decide⟩ (Nat.le_of_ble_eq_true rfl) (g := (mkF m 80 #[.val (.int p0), .val (.int p1), .val (.int p2), .val (.int p3), .val (.int ((p0 &&& (255 : Int32)).toUInt32.toUInt16.toUInt32.toInt32)), .val (.int (((XT.ushr p0 (8 : Int32)) &&& (255 : Int32)).toUInt32.toUInt16.toUInt32.toInt32)), .val (.int ((p1 &&& (255 : Int32)).toUInt32.toUInt16.toUInt32.toInt32)), .val (.int (((XT.ushr p1 (8 : Int32)) &&& (255 : Int32)).toUInt32.toUInt16.toUInt32.toInt32)), .val (.int ((p2 &&& (255 : Int32)).toUInt32.toUInt16.toUInt32.toInt32)), .val (.int (((XT.ushr p2 (8 : Int32)) &&& (255 : Int32)).toUInt32.toUInt16.toUInt32.toInt32)), .val (.int (0 : Int32)), .val (.ref a314), .unset, .unset, .unset, .unset, .unset, .unset, .unset, .unset, .unset, .unset] [(.int ((p0 &&& (255 : Int32)).toUInt32.toUInt16.toUInt32.toInt32)), (.int (0 : Int32)), (.ref a314)])) rfl rfl (hb hby at_80)
    refine Run.st (T315.setTop (mkF m 81 #[.val (.int p0), .val (.int p1), .val (.int p2), .val (.int p3), .val (.int ((p0 &&& (255 : Int32)).toUInt32.toUInt16.toUInt32.toInt32)), .val (.int (((XT.ushr p0 (8 : Int32)) &&& (255 : Int32)).toUInt32.toUInt16.toUInt32.toInt32)), .val (.int ((p1 &&& (255 : Int32)).toUInt32.toUInt16.toUInt32.toInt32)), .val (.int (((XT.ushr p1 (8 : Int32)) &&& (255 : Int32)).toUInt32.toUInt16.toUInt32.toInt32)), .val (.int ((p2 &&& (255 : Int32)).toUInt32.toUInt16.toUInt32.toInt32)), .val (.int (((XT.ushr p2 (8 : Int32)) &&& (255 : Int32)).toUInt32.toUInt16.toUInt32.toInt32)), .val (.int (0 : Int32)), .val (.ref a314), .unset, .unset, .unset, .unset, .unset, .unset, .unset, .unset, .unset, .unset] [])) st315 ?_
    refine Run.st (T315.setTop (mkF m 86 #[.val (.int p0), .val (.int p1), .val (.int p2), .val (.int p3), .val (.int ((p0 &&& (255 : Int32)).toUInt32.toUInt16.toUInt32.toInt32)), .val (.int (((XT.ushr p0 (8 : Int32)) &&& (255 : Int32)).toUInt32.toUInt16.toUInt32.toInt32)), .val (.int ((p1 &&& (255 : Int32)).toUInt32.toUInt16.toUInt32.toInt32)), .val (.int (((XT.ushr p1 (8 : Int32)) &&& (255 : Int32)).toUInt32.toUInt16.toUInt32.toInt32)), .val (.int ((p2 &&& (255 : Int32)).toUInt32.toUInt16.toUInt32.toInt32)), .val (.int (((XT.ushr p2 (8 : Int32)) &&& (255 : Int32)).toUInt32.toUInt16.toUInt32.toInt32)), .val (.int (0 : Int32)), .val (.ref a314), .unset, .unset, .unset, .unset, .unset, .unset, .unset, .unset, .unset, .unset] [(.int (((XT.ushr p0 (8 : Int32)) &&& (255 : Int32)).toUInt32.toUInt16.toUInt32.toInt32)), (.int (1 : Int32)), (.ref a314)])) (fun _ k => XS.aload A315.here hx rfl (hb hby at_81) rfl rfl (XS.iconst A315.here hx rfl (hb hby at_83) (XS.iload A315.here hx rfl (hb hby at_84) rfl k))) ?_
    obtain ⟨T316, h316, A316, K316, V316, st316⟩ := A315.stC hx V315 (List.mem_of_getElem? (i := 0) rfl) (j := (1 : Int32)) 1 rfl ⟨by decide, by decide⟩ (Nat.le_of_ble_eq_true rfl) (g := (mkF m 86 #[.val (.int p0), .val (.int p1), .val (.int p2), .val (.int p3), .val (.int ((p0 &&& (255 : Int32)).toUInt32.toUInt16.toUInt32.toInt32)), .val (.int (((XT.ushr p0 (8 : Int32)) &&& (255 : Int32)).toUInt32.toUInt16.toUInt32.toInt32)), .val (.int ((p1 &&& (255 : Int32)).toUInt32.toUInt16.toUInt32.toInt32)), .val (.int (((XT.ushr p1 (8 : Int32)) &&& (255 : Int32)).toUInt32.toUInt16.toUInt32.toInt32)), .val (.int ((p2 &&& (255 : Int32)).toUInt32.toUInt16.toUInt32.toInt32)), .val (.int (((XT.ushr p2 (8 : Int32)) &&& (255 : Int32)).toUInt32.toUInt16.toUInt32.toInt32)), .val (.int (0 : Int32)), .val (.ref a314), .unset, .unset, .unset, .unset, .unset, .unset, .unset, .unset, .unset, .unset] [(.int (((XT.ushr p0 (8 : Int32)) &&& (255 : Int32)).toUInt32.toUInt16.toUInt32.toInt32)), (.int (1 : Int32)), (.ref a314)])) rfl rfl (hb hby at_86)
    refine Run.st (T316.setTop (mkF m 87 #[.val (.int p0), .val (.int p1), .val (.int p2), .val (.int p3), .val (.int ((p0 &&& (255 : Int32)).toUInt32.toUInt16.toUInt32.toInt32)), .val (.int (((XT.ushr p0 (8 : Int32)) &&& (255 : Int32)).toUInt32.toUInt16.toUInt32.toInt32)), .val (.int ((p1 &&& (255 : Int32)).toUInt32.toUInt16.toUInt32.toInt32)), .val (.int (((XT.ushr p1 (8 : Int32)) &&& (255 : Int32)).toUInt32.toUInt16.toUInt32.toInt32)), .val (.int ((p2 &&& (255 : Int32)).toUInt32.toUInt16.toUInt32.toInt32)), .val (.int (((XT.ushr p2 (8 : Int32)) &&& (255 : Int32)).toUInt32.toUInt16.toUInt32.toInt32)), .val (.int (0 : Int32)), .val (.ref a314), .unset, .unset, .unset, .unset, .unset, .unset, .unset, .unset, .unset, .unset] [])) st316 ?_
    refine Run.st (T316.setTop (mkF m 88 #[.val (.int p0), .val (.int p1), .val (.int p2), .val (.int p3), .val (.int ((p0 &&& (255 : Int32)).toUInt32.toUInt16.toUInt32.toInt32)), .val (.int (((XT.ushr p0 (8 : Int32)) &&& (255 : Int32)).toUInt32.toUInt16.toUInt32.toInt32)), .val (.int ((p1 &&& (255 : Int32)).toUInt32.toUInt16.toUInt32.toInt32)), .val (.int (((XT.ushr p1 (8 : Int32)) &&& (255 : Int32)).toUInt32.toUInt16.toUInt32.toInt32)), .val (.int ((p2 &&& (255 : Int32)).toUInt32.toUInt16.toUInt32.toInt32)), .val (.int (((XT.ushr p2 (8 : Int32)) &&& (255 : Int32)).toUInt32.toUInt16.toUInt32.toInt32)), .val (.int (0 : Int32)), .val (.ref a314), .unset, .unset, .unset, .unset, .unset, .unset, .unset, .unset, .unset, .unset] [(.int (2 : Int32))])) (fun _ k => XS.iconst A316.here hx rfl (hb hby at_87) k) ?_
    obtain ⟨a317, T317, h317, kA317, A317, E317, g317, V317, st317⟩ := A316.newP hx (aty := .char) (N := (2 : Int32)) (tw0 H.1) (g := (mkF m 88 #[.val (.int p0), .val (.int p1), .val (.int p2), .val (.int p3), .val (.int ((p0 &&& (255 : Int32)).toUInt32.toUInt16.toUInt32.toInt32)), .val (.int (((XT.ushr p0 (8 : Int32)) &&& (255 : Int32)).toUInt32.toUInt16.toUInt32.toInt32)), .val (.int ((p1 &&& (255 : Int32)).toUInt32.toUInt16.toUInt32.toInt32)), .val (.int (((XT.ushr p1 (8 : Int32)) &&& (255 : Int32)).toUInt32.toUInt16.toUInt32.toInt32)), .val (.int ((p2 &&& (255 : Int32)).toUInt32.toUInt16.toUInt32.toInt32)), .val (.int (((XT.ushr p2 (8 : Int32)) &&& (255 : Int32)).toUInt32.toUInt16.toUInt32.toInt32)), .val (.int (0 : Int32)), .val (.ref a314), .unset, .unset, .unset, .unset, .unset, .unset, .unset, .unset, .unset, .unset] [(.int (2 : Int32))])) rfl (hb hby at_88) rfl (by decide) (cap := 2) (by decide) (by decide) (by decide) (by decide)
    refine Run.st (T317.setTop (mkF m 90 #[.val (.int p0), .val (.int p1), .val (.int p2), .val (.int p3), .val (.int ((p0 &&& (255 : Int32)).toUInt32.toUInt16.toUInt32.toInt32)), .val (.int (((XT.ushr p0 (8 : Int32)) &&& (255 : Int32)).toUInt32.toUInt16.toUInt32.toInt32)), .val (.int ((p1 &&& (255 : Int32)).toUInt32.toUInt16.toUInt32.toInt32)), .val (.int (((XT.ushr p1 (8 : Int32)) &&& (255 : Int32)).toUInt32.toUInt16.toUInt32.toInt32)), .val (.int ((p2 &&& (255 : Int32)).toUInt32.toUInt16.toUInt32.toInt32)), .val (.int (((XT.ushr p2 (8 : Int32)) &&& (255 : Int32)).toUInt32.toUInt16.toUInt32.toInt32)), .val (.int (0 : Int32)), .val (.ref a314), .unset, .unset, .unset, .unset, .unset, .unset, .unset, .unset, .unset, .unset] [(.ref a317)])) st317 ?_
    refine Run.st (T317.setTop (mkF m 97 #[.val (.int p0), .val (.int p1), .val (.int p2), .val (.int p3), .val (.int ((p0 &&& (255 : Int32)).toUInt32.toUInt16.toUInt32.toInt32)), .val (.int (((XT.ushr p0 (8 : Int32)) &&& (255 : Int32)).toUInt32.toUInt16.toUInt32.toInt32)), .val (.int ((p1 &&& (255 : Int32)).toUInt32.toUInt16.toUInt32.toInt32)), .val (.int (((XT.ushr p1 (8 : Int32)) &&& (255 : Int32)).toUInt32.toUInt16.toUInt32.toInt32)), .val (.int ((p2 &&& (255 : Int32)).toUInt32.toUInt16.toUInt32.toInt32)), .val (.int (((XT.ushr p2 (8 : Int32)) &&& (255 : Int32)).toUInt32.toUInt16.toUInt32.toInt32)), .val (.int (0 : Int32)), .val (.ref a314), .val (.ref a317), .unset, .unset, .unset, .unset, .unset, .unset, .unset, .unset, .unset] [(.int ((p1 &&& (255 : Int32)).toUInt32.toUInt16.toUInt32.toInt32)), (.int (0 : Int32)), (.ref a317)])) (fun _ k => XS.astore A317.here hx rfl (hb hby at_90) rfl rfl (l' := #[.val (.int p0), .val (.int p1), .val (.int p2), .val (.int p3), .val (.int ((p0 &&& (255 : Int32)).toUInt32.toUInt16.toUInt32.toInt32)), .val (.int (((XT.ushr p0 (8 : Int32)) &&& (255 : Int32)).toUInt32.toUInt16.toUInt32.toInt32)), .val (.int ((p1 &&& (255 : Int32)).toUInt32.toUInt16.toUInt32.toInt32)), .val (.int (((XT.ushr p1 (8 : Int32)) &&& (255 : Int32)).toUInt32.toUInt16.toUInt32.toInt32)), .val (.int ((p2 &&& (255 : Int32)).toUInt32.toUInt16.toUInt32.toInt32)), .val (.int (((XT.ushr p2 (8 : Int32)) &&& (255 : Int32)).toUInt32.toUInt16.toUInt32.toInt32)), .val (.int (0 : Int32)), .val (.ref a314), .val (.ref a317), .unset, .unset, .unset, .unset, .unset, .unset, .unset, .unset, .unset]) rfl (XS.aload A317.here hx rfl (hb hby at_92) rfl rfl (XS.iconst A317.here hx rfl (hb hby at_94) (XS.iload A317.here hx rfl (hb hby at_95) rfl k)))) ?_
    obtain ⟨T318, h318, A318, K318, V318, st318⟩ := A317.stC hx V317 (List.mem_of_getElem? (i := 0) rfl) (j := (0 : Int32)) 0 rfl ⟨by decide, by decide⟩ (Nat.le_of_ble_eq_true rfl) (g := (mkF m 97 #[.val (.int p0), .val (.int p1), .val (.int p2), .val (.int p3), .val (.int ((p0 &&& (255 : Int32)).toUInt32.toUInt16.toUInt32.toInt32)), .val (.int (((XT.ushr p0 (8 : Int32)) &&& (255 : Int32)).toUInt32.toUInt16.toUInt32.toInt32)), .val (.int ((p1 &&& (255 : Int32)).toUInt32.toUInt16.toUInt32.toInt32)), .val (.int (((XT.ushr p1 (8 : Int32)) &&& (255 : Int32)).toUInt32.toUInt16.toUInt32.toInt32)), .val (.int ((p2 &&& (255 : Int32)).toUInt32.toUInt16.toUInt32.toInt32)), .val (.int (((XT.ushr p2 (8 : Int32)) &&& (255 : Int32)).toUInt32.toUInt16.toUInt32.toInt32)), .val (.int (0 : Int32)), .val (.ref a314), .val (.ref a317), .unset, .unset, .unset, .unset, .unset, .unset, .unset, .unset, .unset] [(.int ((p1 &&& (255 : Int32)).toUInt32.toUInt16.toUInt32.toInt32)), (.int (0 : Int32)), (.ref a317)])) rfl rfl (hb hby at_97)
    refine Run.st (T318.setTop (mkF m 98 #[.val (.int p0), .val (.int p1), .val (.int p2), .val (.int p3), .val (.int ((p0 &&& (255 : Int32)).toUInt32.toUInt16.toUInt32.toInt32)), .val (.int (((XT.ushr p0 (8 : Int32)) &&& (255 : Int32)).toUInt32.toUInt16.toUInt32.toInt32)), .val (.int ((p1 &&& (255 : Int32)).toUInt32.toUInt16.toUInt32.toInt32)), .val (.int (((XT.ushr p1 (8 : Int32)) &&& (255 : Int32)).toUInt32.toUInt16.toUInt32.toInt32)), .val (.int ((p2 &&& (255 : Int32)).toUInt32.toUInt16.toUInt32.toInt32)), .val (.int (((XT.ushr p2 (8 : Int32)) &&& (255 : Int32)).toUInt32.toUInt16.toUInt32.toInt32)), .val (.int (0 : Int32)), .val (.ref a314), .val (.ref a317), .unset, .unset, .unset, .unset, .unset, .unset, .unset, .unset, .unset] [])) st318 ?_
    refine Run.st (T318.setTop (mkF m 103 #[.val (.int p0), .val (.int p1), .val (.int p2), .val (.int p3), .val (.int ((p0 &&& (255 : Int32)).toUInt32.toUInt16.toUInt32.toInt32)), .val (.int (((XT.ushr p0 (8 : Int32)) &&& (255 : Int32)).toUInt32.toUInt16.toUInt32.toInt32)), .val (.int ((p1 &&& (255 : Int32)).toUInt32.toUInt16.toUInt32.toInt32)), .val (.int (((XT.ushr p1 (8 : Int32)) &&& (255 : Int32)).toUInt32.toUInt16.toUInt32.toInt32)), .val (.int ((p2 &&& (255 : Int32)).toUInt32.toUInt16.toUInt32.toInt32)), .val (.int (((XT.ushr p2 (8 : Int32)) &&& (255 : Int32)).toUInt32.toUInt16.toUInt32.toInt32)), .val (.int (0 : Int32)), .val (.ref a314), .val (.ref a317), .unset, .unset, .unset, .unset, .unset, .unset, .unset, .unset, .unset] [(.int (((XT.ushr p1 (8 : Int32)) &&& (255 : Int32)).toUInt32.toUInt16.toUInt32.toInt32)), (.int (1 : Int32)), (.ref a317)])) (fun _ k => XS.aload A318.here hx rfl (hb hby at_98) rfl rfl (XS.iconst A318.here hx rfl (hb hby at_100) (XS.iload A318.here hx rfl (hb hby at_101) rfl k))) ?_
    obtain ⟨T319, h319, A319, K319, V319, st319⟩ := A318.stC hx V318 (List.mem_of_getElem? (i := 0) rfl) (j := (1 : Int32)) 1 rfl ⟨by decide, by decide⟩ (Nat.le_of_ble_eq_true rfl) (g := (mkF m 103 #[.val (.int p0), .val (.int p1), .val (.int p2), .val (.int p3), .val (.int ((p0 &&& (255 : Int32)).toUInt32.toUInt16.toUInt32.toInt32)), .val (.int (((XT.ushr p0 (8 : Int32)) &&& (255 : Int32)).toUInt32.toUInt16.toUInt32.toInt32)), .val (.int ((p1 &&& (255 : Int32)).toUInt32.toUInt16.toUInt32.toInt32)), .val (.int (((XT.ushr p1 (8 : Int32)) &&& (255 : Int32)).toUInt32.toUInt16.toUInt32.toInt32)), .val (.int ((p2 &&& (255 : Int32)).toUInt32.toUInt16.toUInt32.toInt32)), .val (.int (((XT.ushr p2 (8 : Int32)) &&& (255 : Int32)).toUInt32.toUInt16.toUInt32.toInt32)), .val (.int (0 : Int32)), .val (.ref a314), .val (.ref a317), .unset, .unset, .unset, .unset, .unset, .unset, .unset, .unset, .unset] [(.int (((XT.ushr p1 (8 : Int32)) &&& (255 : Int32)).toUInt32.toUInt16.toUInt32.toInt32)), (.int (1 : Int32)), (.ref a317)])) rfl rfl (hb hby at_103)
    refine Run.st (T319.setTop (mkF m 104 #[.val (.int p0), .val (.int p1), .val (.int p2), .val (.int p3), .val (.int ((p0 &&& (255 : Int32)).toUInt32.toUInt16.toUInt32.toInt32)), .val (.int (((XT.ushr p0 (8 : Int32)) &&& (255 : Int32)).toUInt32.toUInt16.toUInt32.toInt32)), .val (.int ((p1 &&& (255 : Int32)).toUInt32.toUInt16.toUInt32.toInt32)), .val (.int (((XT.ushr p1 (8 : Int32)) &&& (255 : Int32)).toUInt32.toUInt16.toUInt32.toInt32)), .val (.int ((p2 &&& (255 : Int32)).toUInt32.toUInt16.toUInt32.toInt32)), .val (.int (((XT.ushr p2 (8 : Int32)) &&& (255 : Int32)).toUInt32.toUInt16.toUInt32.toInt32)), .val (.int (0 : Int32)), .val (.ref a314), .val (.ref a317), .unset, .unset, .unset, .unset, .unset, .unset, .unset, .unset, .unset] [])) st319 ?_
    refine Run.st (T319.setTop (mkF m 105 #[.val (.int p0), .val (.int p1), .val (.int p2), .val (.int p3), .val (.int ((p0 &&& (255 : Int32)).toUInt32.toUInt16.toUInt32.toInt32)), .val (.int (((XT.ushr p0 (8 : Int32)) &&& (255 : Int32)).toUInt32.toUInt16.toUInt32.toInt32)), .val (.int ((p1 &&& (255 : Int32)).toUInt32.toUInt16.toUInt32.toInt32)), .val (.int (((XT.ushr p1 (8 : Int32)) &&& (255 : Int32)).toUInt32.toUInt16.toUInt32.toInt32)), .val (.int ((p2 &&& (255 : Int32)).toUInt32.toUInt16.toUInt32.toInt32)), .val (.int (((XT.ushr p2 (8 : Int32)) &&& (255 : Int32)).toUInt32.toUInt16.toUInt32.toInt32)), .val (.int (0 : Int32)), .val (.ref a314), .val (.ref a317), .unset, .unset, .unset, .unset, .unset, .unset, .unset, .unset, .unset] [(.int (2 : Int32))])) (fun _ k => XS.iconst A319.here hx rfl (hb hby at_104) k) ?_
    obtain ⟨a320, T320, h320, kA320, A320, E320, g320, V320, st320⟩ := A319.newP hx (aty := .char) (N := (2 : Int32)) (tw0 H.1) (g := (mkF m 105 #[.val (.int p0), .val (.int p1), .val (.int p2), .val (.int p3), .val (.int ((p0 &&& (255 : Int32)).toUInt32.toUInt16.toUInt32.toInt32)), .val (.int (((XT.ushr p0 (8 : Int32)) &&& (255 : Int32)).toUInt32.toUInt16.toUInt32.toInt32)), .val (.int ((p1 &&& (255 : Int32)).toUInt32.toUInt16.toUInt32.toInt32)), .val (.int (((XT.ushr p1 (8 : Int32)) &&& (255 : Int32)).toUInt32.toUInt16.toUInt32.toInt32)), .val (.int ((p2 &&& (255 : Int32)).toUInt32.toUInt16.toUInt32.toInt32)), .val (.int (((XT.ushr p2 (8 : Int32)) &&& (255 : Int32)).toUInt32.toUInt16.toUInt32.toInt32)), .val (.int (0 : Int32)), .val (.ref a314), .val (.ref a317), .unset, .unset, .unset, .unset, .unset, .unset, .unset, .unset, .unset] [(.int (2 : Int32))])) rfl (hb hby at_105) rfl (by decide) (cap := 2) (by decide) (by decide) (by decide) (by decide)
    refine Run.st (T320.setTop (mkF m 107 #[.val (.int p0), .val (.int p1), .val (.int p2), .val (.int p3), .val (.int ((p0 &&& (255 : Int32)).toUInt32.toUInt16.toUInt32.toInt32)), .val (.int (((XT.ushr p0 (8 : Int32)) &&& (255 : Int32)).toUInt32.toUInt16.toUInt32.toInt32)), .val (.int ((p1 &&& (255 : Int32)).toUInt32.toUInt16.toUInt32.toInt32)), .val (.int (((XT.ushr p1 (8 : Int32)) &&& (255 : Int32)).toUInt32.toUInt16.toUInt32.toInt32)), .val (.int ((p2 &&& (255 : Int32)).toUInt32.toUInt16.toUInt32.toInt32)), .val (.int (((XT.ushr p2 (8 : Int32)) &&& (255 : Int32)).toUInt32.toUInt16.toUInt32.toInt32)), .val (.int (0 : Int32)), .val (.ref a314), .val (.ref a317), .unset, .unset, .unset, .unset, .unset, .unset, .unset, .unset, .unset] [(.ref a320)])) st320 ?_
    refine Run.st (T320.setTop (mkF m 114 #[.val (.int p0), .val (.int p1), .val (.int p2), .val (.int p3), .val (.int ((p0 &&& (255 : Int32)).toUInt32.toUInt16.toUInt32.toInt32)), .val (.int (((XT.ushr p0 (8 : Int32)) &&& (255 : Int32)).toUInt32.toUInt16.toUInt32.toInt32)), .val (.int ((p1 &&& (255 : Int32)).toUInt32.toUInt16.toUInt32.toInt32)), .val (.int (((XT.ushr p1 (8 : Int32)) &&& (255 : Int32)).toUInt32.toUInt16.toUInt32.toInt32)), .val (.int ((p2 &&& (255 : Int32)).toUInt32.toUInt16.toUInt32.toInt32)), .val (.int (((XT.ushr p2 (8 : Int32)) &&& (255 : Int32)).toUInt32.toUInt16.toUInt32.toInt32)), .val (.int (0 : Int32)), .val (.ref a314), .val (.ref a317), .val (.ref a320), .unset, .unset, .unset, .unset, .unset, .unset, .unset, .unset] [(.int ((p2 &&& (255 : Int32)).toUInt32.toUInt16.toUInt32.toInt32)), (.int (0 : Int32)), (.ref a320)])) (fun _ k => XS.astore A320.here hx rfl (hb hby at_107) rfl rfl (l' := #[.val (.int p0), .val (.int p1), .val (.int p2), .val (.int p3), .val (.int ((p0 &&& (255 : Int32)).toUInt32.toUInt16.toUInt32.toInt32)), .val (.int (((XT.ushr p0 (8 : Int32)) &&& (255 : Int32)).toUInt32.toUInt16.toUInt32.toInt32)), .val (.int ((p1 &&& (255 : Int32)).toUInt32.toUInt16.toUInt32.toInt32)), .val (.int (((XT.ushr p1 (8 : Int32)) &&& (255 : Int32)).toUInt32.toUInt16.toUInt32.toInt32)), .val (.int ((p2 &&& (255 : Int32)).toUInt32.toUInt16.toUInt32.toInt32)), .val (.int (((XT.ushr p2 (8 : Int32)) &&& (255 : Int32)).toUInt32.toUInt16.toUInt32.toInt32)), .val (.int (0 : Int32)), .val (.ref a314), .val (.ref a317), .val (.ref a320), .unset, .unset, .unset, .unset, .unset, .unset, .unset, .unset]) rfl (XS.aload A320.here hx rfl (hb hby at_109) rfl rfl (XS.iconst A320.here hx rfl (hb hby at_111) (XS.iload A320.here hx rfl (hb hby at_112) rfl k)))) ?_
    obtain ⟨T321, h321, A321, K321, V321, st321⟩ := A320.stC hx V320 (List.mem_of_getElem? (i := 0) rfl) (j := (0 : Int32)) 0 rfl ⟨by decide, by decide⟩ (Nat.le_of_ble_eq_true rfl) (g := (mkF m 114 #[.val (.int p0), .val (.int p1), .val (.int p2), .val (.int p3), .val (.int ((p0 &&& (255 : Int32)).toUInt32.toUInt16.toUInt32.toInt32)), .val (.int (((XT.ushr p0 (8 : Int32)) &&& (255 : Int32)).toUInt32.toUInt16.toUInt32.toInt32)), .val (.int ((p1 &&& (255 : Int32)).toUInt32.toUInt16.toUInt32.toInt32)), .val (.int (((XT.ushr p1 (8 : Int32)) &&& (255 : Int32)).toUInt32.toUInt16.toUInt32.toInt32)), .val (.int ((p2 &&& (255 : Int32)).toUInt32.toUInt16.toUInt32.toInt32)), .val (.int (((XT.ushr p2 (8 : Int32)) &&& (255 : Int32)).toUInt32.toUInt16.toUInt32.toInt32)), .val (.int (0 : Int32)), .val (.ref a314), .val (.ref a317), .val (.ref a320), .unset, .unset, .unset, .unset, .unset, .unset, .unset, .unset] [(.int ((p2 &&& (255 : Int32)).toUInt32.toUInt16.toUInt32.toInt32)), (.int (0 : Int32)), (.ref a320)])) rfl rfl (hb hby at_114)
    refine Run.st (T321.setTop (mkF m 115 #[.val (.int p0), .val (.int p1), .val (.int p2), .val (.int p3), .val (.int ((p0 &&& (255 : Int32)).toUInt32.toUInt16.toUInt32.toInt32)), .val (.int (((XT.ushr p0 (8 : Int32)) &&& (255 : Int32)).toUInt32.toUInt16.toUInt32.toInt32)), .val (.int ((p1 &&& (255 : Int32)).toUInt32.toUInt16.toUInt32.toInt32)), .val (.int (((XT.ushr p1 (8 : Int32)) &&& (255 : Int32)).toUInt32.toUInt16.toUInt32.toInt32)), .val (.int ((p2 &&& (255 : Int32)).toUInt32.toUInt16.toUInt32.toInt32)), .val (.int (((XT.ushr p2 (8 : Int32)) &&& (255 : Int32)).toUInt32.toUInt16.toUInt32.toInt32)), .val (.int (0 : Int32)), .val (.ref a314), .val (.ref a317), .val (.ref a320), .unset, .unset, .unset, .unset, .unset, .unset, .unset, .unset] [])) st321 ?_
    refine Run.st (T321.setTop (mkF m 120 #[.val (.int p0), .val (.int p1), .val (.int p2), .val (.int p3), .val (.int ((p0 &&& (255 : Int32)).toUInt32.toUInt16.toUInt32.toInt32)), .val (.int (((XT.ushr p0 (8 : Int32)) &&& (255 : Int32)).toUInt32.toUInt16.toUInt32.toInt32)), .val (.int ((p1 &&& (255 : Int32)).toUInt32.toUInt16.toUInt32.toInt32)), .val (.int (((XT.ushr p1 (8 : Int32)) &&& (255 : Int32)).toUInt32.toUInt16.toUInt32.toInt32)), .val (.int ((p2 &&& (255 : Int32)).toUInt32.toUInt16.toUInt32.toInt32)), .val (.int (((XT.ushr p2 (8 : Int32)) &&& (255 : Int32)).toUInt32.toUInt16.toUInt32.toInt32)), .val (.int (0 : Int32)), .val (.ref a314), .val (.ref a317), .val (.ref a320), .unset, .unset, .unset, .unset, .unset, .unset, .unset, .unset] [(.int (((XT.ushr p2 (8 : Int32)) &&& (255 : Int32)).toUInt32.toUInt16.toUInt32.toInt32)), (.int (1 : Int32)), (.ref a320)])) (fun _ k => XS.aload A321.here hx rfl (hb hby at_115) rfl rfl (XS.iconst A321.here hx rfl (hb hby at_117) (XS.iload A321.here hx rfl (hb hby at_118) rfl k))) ?_
    obtain ⟨T322, h322, A322, K322, V322, st322⟩ := A321.stC hx V321 (List.mem_of_getElem? (i := 0) rfl) (j := (1 : Int32)) 1 rfl ⟨by decide, by decide⟩ (Nat.le_of_ble_eq_true rfl) (g := (mkF m 120 #[.val (.int p0), .val (.int p1), .val (.int p2), .val (.int p3), .val (.int ((p0 &&& (255 : Int32)).toUInt32.toUInt16.toUInt32.toInt32)), .val (.int (((XT.ushr p0 (8 : Int32)) &&& (255 : Int32)).toUInt32.toUInt16.toUInt32.toInt32)), .val (.int ((p1 &&& (255 : Int32)).toUInt32.toUInt16.toUInt32.toInt32)), .val (.int (((XT.ushr p1 (8 : Int32)) &&& (255 : Int32)).toUInt32.toUInt16.toUInt32.toInt32)), .val (.int ((p2 &&& (255 : Int32)).toUInt32.toUInt16.toUInt32.toInt32)), .val (.int (((XT.ushr p2 (8 : Int32)) &&& (255 : Int32)).toUInt32.toUInt16.toUInt32.toInt32)), .val (.int (0 : Int32)), .val (.ref a314), .val (.ref a317), .val (.ref a320), .unset, .unset, .unset, .unset, .unset, .unset, .unset, .unset] [(.int (((XT.ushr p2 (8 : Int32)) &&& (255 : Int32)).toUInt32.toUInt16.toUInt32.toInt32)), (.int (1 : Int32)), (.ref a320)])) rfl rfl (hb hby at_120)
    refine Run.st (T322.setTop (mkF m 121 #[.val (.int p0), .val (.int p1), .val (.int p2), .val (.int p3), .val (.int ((p0 &&& (255 : Int32)).toUInt32.toUInt16.toUInt32.toInt32)), .val (.int (((XT.ushr p0 (8 : Int32)) &&& (255 : Int32)).toUInt32.toUInt16.toUInt32.toInt32)), .val (.int ((p1 &&& (255 : Int32)).toUInt32.toUInt16.toUInt32.toInt32)), .val (.int (((XT.ushr p1 (8 : Int32)) &&& (255 : Int32)).toUInt32.toUInt16.toUInt32.toInt32)), .val (.int ((p2 &&& (255 : Int32)).toUInt32.toUInt16.toUInt32.toInt32)), .val (.int (((XT.ushr p2 (8 : Int32)) &&& (255 : Int32)).toUInt32.toUInt16.toUInt32.toInt32)), .val (.int (0 : Int32)), .val (.ref a314), .val (.ref a317), .val (.ref a320), .unset, .unset, .unset, .unset, .unset, .unset, .unset, .unset] [])) st322 ?_
    obtain ⟨a323, T323, h323, A323, E323, g323, Ex323, D323, st323⟩ := A322.newO hx (tw1 H.1) (tw2 H.1) (tw3 H.1) (g := (mkF m 121 #[.val (.int p0), .val (.int p1), .val (.int p2), .val (.int p3), .val (.int ((p0 &&& (255 : Int32)).toUInt32.toUInt16.toUInt32.toInt32)), .val (.int (((XT.ushr p0 (8 : Int32)) &&& (255 : Int32)).toUInt32.toUInt16.toUInt32.toInt32)), .val (.int ((p1 &&& (255 : Int32)).toUInt32.toUInt16.toUInt32.toInt32)), .val (.int (((XT.ushr p1 (8 : Int32)) &&& (255 : Int32)).toUInt32.toUInt16.toUInt32.toInt32)), .val (.int ((p2 &&& (255 : Int32)).toUInt32.toUInt16.toUInt32.toInt32)), .val (.int (((XT.ushr p2 (8 : Int32)) &&& (255 : Int32)).toUInt32.toUInt16.toUInt32.toInt32)), .val (.int (0 : Int32)), .val (.ref a314), .val (.ref a317), .val (.ref a320), .unset, .unset, .unset, .unset, .unset, .unset, .unset, .unset] [])) rfl (hb hby at_121) (by decide) (by decide)
    refine Run.st (T323.setTop (mkF m 124 #[.val (.int p0), .val (.int p1), .val (.int p2), .val (.int p3), .val (.int ((p0 &&& (255 : Int32)).toUInt32.toUInt16.toUInt32.toInt32)), .val (.int (((XT.ushr p0 (8 : Int32)) &&& (255 : Int32)).toUInt32.toUInt16.toUInt32.toInt32)), .val (.int ((p1 &&& (255 : Int32)).toUInt32.toUInt16.toUInt32.toInt32)), .val (.int (((XT.ushr p1 (8 : Int32)) &&& (255 : Int32)).toUInt32.toUInt16.toUInt32.toInt32)), .val (.int ((p2 &&& (255 : Int32)).toUInt32.toUInt16.toUInt32.toInt32)), .val (.int (((XT.ushr p2 (8 : Int32)) &&& (255 : Int32)).toUInt32.toUInt16.toUInt32.toInt32)), .val (.int (0 : Int32)), .val (.ref a314), .val (.ref a317), .val (.ref a320), .unset, .unset, .unset, .unset, .unset, .unset, .unset, .unset] [(.ref a323)])) st323 ?_
    refine Run.st (T323.setTop (mkF m 127 #[.val (.int p0), .val (.int p1), .val (.int p2), .val (.int p3), .val (.int ((p0 &&& (255 : Int32)).toUInt32.toUInt16.toUInt32.toInt32)), .val (.int (((XT.ushr p0 (8 : Int32)) &&& (255 : Int32)).toUInt32.toUInt16.toUInt32.toInt32)), .val (.int ((p1 &&& (255 : Int32)).toUInt32.toUInt16.toUInt32.toInt32)), .val (.int (((XT.ushr p1 (8 : Int32)) &&& (255 : Int32)).toUInt32.toUInt16.toUInt32.toInt32)), .val (.int ((p2 &&& (255 : Int32)).toUInt32.toUInt16.toUInt32.toInt32)), .val (.int (((XT.ushr p2 (8 : Int32)) &&& (255 : Int32)).toUInt32.toUInt16.toUInt32.toInt32)), .val (.int (0 : Int32)), .val (.ref a314), .val (.ref a317), .val (.ref a320), .unset, .unset, .unset, .unset, .unset, .unset, .unset, .unset] [(.ref a314), (.ref a323), (.ref a323)])) (fun _ k => XS.dup A323.here hx rfl (hb hby at_124) rfl rfl (XS.aload A323.here hx rfl (hb hby at_125) rfl rfl k)) ?_
    have Z325 : h316.size ≤ h317.size := E317.1
    have Z326 : h316.size ≤ h318.size := Nat.le_trans Z325 K318.1
    have Z327 : h316.size ≤ h319.size := Nat.le_trans Z326 K319.1
    have X328 : Ext h316 h317 := E317
    have X329 : Ext h316 h318 := extK X328 K318 (allS (Nat.le_of_eq g317) all0)
    have X330 : Ext h316 h319 := extK X329 K319 (allS (Nat.le_of_eq g317) all0)
    have X331 : Ext h316 h320 := (extT X330 E320)
    have X332 : Ext h316 h321 := extK X331 K321 (allS (Nat.le_trans Z327 (Nat.le_of_eq g320)) all0)
    have X333 : Ext h316 h322 := extK X332 K322 (allS (Nat.le_trans Z327 (Nat.le_of_eq g320)) all0)
    have X334 : Ext h316 h323 := (extT X333 E323)
    have f335 := V316.ext X334
    have V336 : Arv Z h323 a314 kA314 .char (2 : Int32) [(.int (nar .char ((p0 &&& (255 : Int32)).toUInt32.toUInt16.toUInt32.toInt32))), (.int (nar .char (((XT.ushr p0 (8 : Int32)) &&& (255 : Int32)).toUInt32.toUInt16.toUInt32.toInt32)))] (.int (0 : Int32)) := f335
    rw [c8n p0, c8n (XT.ushr p0 (8 : Int32))] at V336
    have F337 : Fld Z h323 a323 "java/lang/String" "value" "[B" .null := D323 (Or.inr (tw29 H.1)) (ty := (.array .byte)) (by decide)
    have F338 : Fld Z h323 a323 "java/lang/String" "coder" "B" (.int 0) := D323 (Or.inr (tw27 H.1)) (ty := .byte) (by decide)
    obtain ⟨v324, T324, h324, AA324, K324, ⟨L324, Q324⟩, st324⟩ := A323.callI hx (y := (⟨"java/lang/String", "<init>", "([C)V"⟩ : MethodName)) rfl (tw4 H.1) (tw5 H.1) (tw6 H.1) (by decide) (g := (mkF m 127 #[.val (.int p0), .val (.int p1), .val (.int p2), .val (.int p3), .val (.int ((p0 &&& (255 : Int32)).toUInt32.toUInt16.toUInt32.toInt32)), .val (.int (((XT.ushr p0 (8 : Int32)) &&& (255 : Int32)).toUInt32.toUInt16.toUInt32.toInt32)), .val (.int ((p1 &&& (255 : Int32)).toUInt32.toUInt16.toUInt32.toInt32)), .val (.int (((XT.ushr p1 (8 : Int32)) &&& (255 : Int32)).toUInt32.toUInt16.toUInt32.toInt32)), .val (.int ((p2 &&& (255 : Int32)).toUInt32.toUInt16.toUInt32.toInt32)), .val (.int (((XT.ushr p2 (8 : Int32)) &&& (255 : Int32)).toUInt32.toUInt16.toUInt32.toInt32)), .val (.int (0 : Int32)), .val (.ref a314), .val (.ref a317), .val (.ref a320), .unset, .unset, .unset, .unset, .unset, .unset, .unset, .unset] [(.ref a314), (.ref a323), (.ref a323)])) rfl (by rw [hml]; rfl) a323 [(.ref a314)] [(.ref a323)] (lenOf pd_20 rfl) rfl (Wd := 1) (by show 2 * 0 + _ ≤ _; exact Nat.le_of_eq rfl) (hb hby at_127) (by decide) (by decide) [a323] (fun _ _ _ q => q.2.1) (allS (List.mem_of_getElem? (i := 0) rfl) all0) (fun vm0 hZ => payStr (nn := 2) H A323.old (A323.nle (List.mem_of_getElem? (i := 0) rfl)) Ex323 F337 F338 (cs := [(p0 &&& (255 : Int32)), ((XT.ushr p0 (8 : Int32)) &&& (255 : Int32))]) V336 rfl rfl (by decide) (by decide) (chsS (c8r p0) (chsS (c8r (XT.ushr p0 (8 : Int32))) chs0)) (by decide) (by decide) hZ)
    obtain ⟨rfl, -, S324⟩ := Q324
    have A324 := AA324 [] all0
    refine Run.st (T324.setTop (mkF m 130 #[.val (.int p0), .val (.int p1), .val (.int p2), .val (.int p3), .val (.int ((p0 &&& (255 : Int32)).toUInt32.toUInt16.toUInt32.toInt32)), .val (.int (((XT.ushr p0 (8 : Int32)) &&& (255 : Int32)).toUInt32.toUInt16.toUInt32.toInt32)), .val (.int ((p1 &&& (255 : Int32)).toUInt32.toUInt16.toUInt32.toInt32)), .val (.int (((XT.ushr p1 (8 : Int32)) &&& (255 : Int32)).toUInt32.toUInt16.toUInt32.toInt32)), .val (.int ((p2 &&& (255 : Int32)).toUInt32.toUInt16.toUInt32.toInt32)), .val (.int (((XT.ushr p2 (8 : Int32)) &&& (255 : Int32)).toUInt32.toUInt16.toUInt32.toInt32)), .val (.int (0 : Int32)), .val (.ref a314), .val (.ref a317), .val (.ref a320), .unset, .unset, .unset, .unset, .unset, .unset, .unset, .unset] [(.ref a323)])) st324 ?_
    refine Run.st (T324.setTop (mkF m 132 #[.val (.int p0), .val (.int p1), .val (.int p2), .val (.int p3), .val (.int ((p0 &&& (255 : Int32)).toUInt32.toUInt16.toUInt32.toInt32)), .val (.int (((XT.ushr p0 (8 : Int32)) &&& (255 : Int32)).toUInt32.toUInt16.toUInt32.toInt32)), .val (.int ((p1 &&& (255 : Int32)).toUInt32.toUInt16.toUInt32.toInt32)), .val (.int (((XT.ushr p1 (8 : Int32)) &&& (255 : Int32)).toUInt32.toUInt16.toUInt32.toInt32)), .val (.int ((p2 &&& (255 : Int32)).toUInt32.toUInt16.toUInt32.toInt32)), .val (.int (((XT.ushr p2 (8 : Int32)) &&& (255 : Int32)).toUInt32.toUInt16.toUInt32.toInt32)), .val (.int (0 : Int32)), .val (.ref a314), .val (.ref a317), .val (.ref a320), .val (.ref a323), .unset, .unset, .unset, .unset, .unset, .unset, .unset] [])) (fun _ k => XS.astore A324.here hx rfl (hb hby at_130) rfl rfl (l' := #[.val (.int p0), .val (.int p1), .val (.int p2), .val (.int p3), .val (.int ((p0 &&& (255 : Int32)).toUInt32.toUInt16.toUInt32.toInt32)), .val (.int (((XT.ushr p0 (8 : Int32)) &&& (255 : Int32)).toUInt32.toUInt16.toUInt32.toInt32)), .val (.int ((p1 &&& (255 : Int32)).toUInt32.toUInt16.toUInt32.toInt32)), .val (.int (((XT.ushr p1 (8 : Int32)) &&& (255 : Int32)).toUInt32.toUInt16.toUInt32.toInt32)), .val (.int ((p2 &&& (255 : Int32)).toUInt32.toUInt16.toUInt32.toInt32)), .val (.int (((XT.ushr p2 (8 : Int32)) &&& (255 : Int32)).toUInt32.toUInt16.toUInt32.toInt32)), .val (.int (0 : Int32)), .val (.ref a314), .val (.ref a317), .val (.ref a320), .val (.ref a323), .unset, .unset, .unset, .unset, .unset, .unset, .unset]) rfl k) ?_
    obtain ⟨a339, T339, h339, A339, E339, g339, Ex339, D339, st339⟩ := A324.newO hx (tw1 H.1) (tw2 H.1) (tw3 H.1) (g := (mkF m 132 #[.val (.int p0), .val (.int p1), .val (.int p2), .val (.int p3), .val (.int ((p0 &&& (255 : Int32)).toUInt32.toUInt16.toUInt32.toInt32)), .val (.int (((XT.ushr p0 (8 : Int32)) &&& (255 : Int32)).toUInt32.toUInt16.toUInt32.toInt32)), .val (.int ((p1 &&& (255 : Int32)).toUInt32.toUInt16.toUInt32.toInt32)), .val (.int (((XT.ushr p1 (8 : Int32)) &&& (255 : Int32)).toUInt32.toUInt16.toUInt32.toInt32)), .val (.int ((p2 &&& (255 : Int32)).toUInt32.toUInt16.toUInt32.toInt32)), .val (.int (((XT.ushr p2 (8 : Int32)) &&& (255 : Int32)).toUInt32.toUInt16.toUInt32.toInt32)), .val (.int (0 : Int32)), .val (.ref a314), .val (.ref a317), .val (.ref a320), .val (.ref a323), .unset, .unset, .unset, .unset, .unset, .unset, .unset] [])) rfl (hb hby at_132) (by decide) (by decide)
    refine Run.st (T339.setTop (mkF m 135 #[.val (.int p0), .val (.int p1), .val (.int p2), .val (.int p3), .val (.int ((p0 &&& (255 : Int32)).toUInt32.toUInt16.toUInt32.toInt32)), .val (.int (((XT.ushr p0 (8 : Int32)) &&& (255 : Int32)).toUInt32.toUInt16.toUInt32.toInt32)), .val (.int ((p1 &&& (255 : Int32)).toUInt32.toUInt16.toUInt32.toInt32)), .val (.int (((XT.ushr p1 (8 : Int32)) &&& (255 : Int32)).toUInt32.toUInt16.toUInt32.toInt32)), .val (.int ((p2 &&& (255 : Int32)).toUInt32.toUInt16.toUInt32.toInt32)), .val (.int (((XT.ushr p2 (8 : Int32)) &&& (255 : Int32)).toUInt32.toUInt16.toUInt32.toInt32)), .val (.int (0 : Int32)), .val (.ref a314), .val (.ref a317), .val (.ref a320), .val (.ref a323), .unset, .unset, .unset, .unset, .unset, .unset, .unset] [(.ref a339)])) st339 ?_
    refine Run.st (T339.setTop (mkF m 138 #[.val (.int p0), .val (.int p1), .val (.int p2), .val (.int p3), .val (.int ((p0 &&& (255 : Int32)).toUInt32.toUInt16.toUInt32.toInt32)), .val (.int (((XT.ushr p0 (8 : Int32)) &&& (255 : Int32)).toUInt32.toUInt16.toUInt32.toInt32)), .val (.int ((p1 &&& (255 : Int32)).toUInt32.toUInt16.toUInt32.toInt32)), .val (.int (((XT.ushr p1 (8 : Int32)) &&& (255 : Int32)).toUInt32.toUInt16.toUInt32.toInt32)), .val (.int ((p2 &&& (255 : Int32)).toUInt32.toUInt16.toUInt32.toInt32)), .val (.int (((XT.ushr p2 (8 : Int32)) &&& (255 : Int32)).toUInt32.toUInt16.toUInt32.toInt32)), .val (.int (0 : Int32)), .val (.ref a314), .val (.ref a317), .val (.ref a320), .val (.ref a323), .unset, .unset, .unset, .unset, .unset, .unset, .unset] [(.ref a317), (.ref a339), (.ref a339)])) (fun _ k => XS.dup A339.here hx rfl (hb hby at_135) rfl rfl (XS.aload A339.here hx rfl (hb hby at_136) rfl rfl k)) ?_
    have Z341 : h319.size ≤ h320.size := E320.1
    have Z342 : h319.size ≤ h321.size := Nat.le_trans Z341 K321.1
    have Z343 : h319.size ≤ h322.size := Nat.le_trans Z342 K322.1
    have X344 : Ext h319 h320 := E320
    have X345 : Ext h319 h321 := extK X344 K321 (allS (Nat.le_of_eq g320) all0)
    have X346 : Ext h319 h322 := extK X345 K322 (allS (Nat.le_of_eq g320) all0)
    have X347 : Ext h319 h323 := (extT X346 E323)
    have X348 : Ext h319 h324 := extK X347 K324 (allS (Nat.le_trans Z343 (Nat.le_of_eq g323)) all0)
    have X349 : Ext h319 h339 := (extT X348 E339)
    have f350 := V319.ext X349
    have V351 : Arv Z h339 a317 kA317 .char (2 : Int32) [(.int (nar .char ((p1 &&& (255 : Int32)).toUInt32.toUInt16.toUInt32.toInt32))), (.int (nar .char (((XT.ushr p1 (8 : Int32)) &&& (255 : Int32)).toUInt32.toUInt16.toUInt32.toInt32)))] (.int (0 : Int32)) := f350
    rw [c8n p1, c8n (XT.ushr p1 (8 : Int32))] at V351
    have F352 : Fld Z h339 a339 "java/lang/String" "value" "[B" .null := D339 (Or.inr (tw29 H.1)) (ty := (.array .byte)) (by decide)
    have F353 : Fld Z h339 a339 "java/lang/String" "coder" "B" (.int 0) := D339 (Or.inr (tw27 H.1)) (ty := .byte) (by decide)
    obtain ⟨v340, T340, h340, AA340, K340, ⟨L340, Q340⟩, st340⟩ := A339.callI hx (y := (⟨"java/lang/String", "<init>", "([C)V"⟩ : MethodName)) rfl (tw4 H.1) (tw5 H.1) (tw6 H.1) (by decide) (g := (mkF m 138 #[.val (.int p0), .val (.int p1), .val (.int p2), .val (.int p3), .val (.int ((p0 &&& (255 : Int32)).toUInt32.toUInt16.toUInt32.toInt32)), .val (.int (((XT.ushr p0 (8 : Int32)) &&& (255 : Int32)).toUInt32.toUInt16.toUInt32.toInt32)), .val (.int ((p1 &&& (255 : Int32)).toUInt32.toUInt16.toUInt32.toInt32)), .val (.int (((XT.ushr p1 (8 : Int32)) &&& (255 : Int32)).toUInt32.toUInt16.toUInt32.toInt32)), .val (.int ((p2 &&& (255 : Int32)).toUInt32.toUInt16.toUInt32.toInt32)), .val (.int (((XT.ushr p2 (8 : Int32)) &&& (255 : Int32)).toUInt32.toUInt16.toUInt32.toInt32)), .val (.int (0 : Int32)), .val (.ref a314), .val (.ref a317), .val (.ref a320), .val (.ref a323), .unset, .unset, .unset, .unset, .unset, .unset, .unset] [(.ref a317), (.ref a339), (.ref a339)])) rfl (by rw [hml]; rfl) a339 [(.ref a317)] [(.ref a339)] (lenOf pd_20 rfl) rfl (Wd := 1) (by show 2 * 0 + _ ≤ _; exact Nat.le_of_eq rfl) (hb hby at_138) (by decide) (by decide) [a339] (fun _ _ _ q => q.2.1) (allS (List.mem_of_getElem? (i := 0) rfl) all0) (fun vm0 hZ => payStr (nn := 2) H A339.old (A339.nle (List.mem_of_getElem? (i := 0) rfl)) Ex339 F352 F353 (cs := [(p1 &&& (255 : Int32)), ((XT.ushr p1 (8 : Int32)) &&& (255 : Int32))]) V351 rfl rfl (by decide) (by decide) (chsS (c8r p1) (chsS (c8r (XT.ushr p1 (8 : Int32))) chs0)) (by decide) (by decide) hZ)
    obtain ⟨rfl, -, S340⟩ := Q340
    have A340 := AA340 [] all0
    refine Run.st (T340.setTop (mkF m 141 #[.val (.int p0), .val (.int p1), .val (.int p2), .val (.int p3), .val (.int ((p0 &&& (255 : Int32)).toUInt32.toUInt16.toUInt32.toInt32)), .val (.int (((XT.ushr p0 (8 : Int32)) &&& (255 : Int32)).toUInt32.toUInt16.toUInt32.toInt32)), .val (.int ((p1 &&& (255 : Int32)).toUInt32.toUInt16.toUInt32.toInt32)), .val (.int (((XT.ushr p1 (8 : Int32)) &&& (255 : Int32)).toUInt32.toUInt16.toUInt32.toInt32)), .val (.int ((p2 &&& (255 : Int32)).toUInt32.toUInt16.toUInt32.toInt32)), .val (.int (((XT.ushr p2 (8 : Int32)) &&& (255 : Int32)).toUInt32.toUInt16.toUInt32.toInt32)), .val (.int (0 : Int32)), .val (.ref a314), .val (.ref a317), .val (.ref a320), .val (.ref a323), .unset, .unset, .unset, .unset, .unset, .unset, .unset] [(.ref a339)])) st340 ?_
    refine Run.st (T340.setTop (mkF m 165 #[.val (.int p0), .val (.int p1), .val (.int p2), .val (.int p3), .val (.int ((p0 &&& (255 : Int32)).toUInt32.toUInt16.toUInt32.toInt32)), .val (.int (((XT.ushr p0 (8 : Int32)) &&& (255 : Int32)).toUInt32.toUInt16.toUInt32.toInt32)), .val (.int ((p1 &&& (255 : Int32)).toUInt32.toUInt16.toUInt32.toInt32)), .val (.int (((XT.ushr p1 (8 : Int32)) &&& (255 : Int32)).toUInt32.toUInt16.toUInt32.toInt32)), .val (.int ((p2 &&& (255 : Int32)).toUInt32.toUInt16.toUInt32.toInt32)), .val (.int (((XT.ushr p2 (8 : Int32)) &&& (255 : Int32)).toUInt32.toUInt16.toUInt32.toInt32)), .val (.int (0 : Int32)), .val (.ref a314), .val (.ref a317), .val (.ref a320), .val (.ref a323), .val (.ref a339), .val .null, .unset, .unset, .unset, .unset, .unset] [(.int (14 : Int32))])) (fun _ k => XS.astore A340.here hx rfl (hb hby at_141) rfl rfl (l' := #[.val (.int p0), .val (.int p1), .val (.int p2), .val (.int p3), .val (.int ((p0 &&& (255 : Int32)).toUInt32.toUInt16.toUInt32.toInt32)), .val (.int (((XT.ushr p0 (8 : Int32)) &&& (255 : Int32)).toUInt32.toUInt16.toUInt32.toInt32)), .val (.int ((p1 &&& (255 : Int32)).toUInt32.toUInt16.toUInt32.toInt32)), .val (.int (((XT.ushr p1 (8 : Int32)) &&& (255 : Int32)).toUInt32.toUInt16.toUInt32.toInt32)), .val (.int ((p2 &&& (255 : Int32)).toUInt32.toUInt16.toUInt32.toInt32)), .val (.int (((XT.ushr p2 (8 : Int32)) &&& (255 : Int32)).toUInt32.toUInt16.toUInt32.toInt32)), .val (.int (0 : Int32)), .val (.ref a314), .val (.ref a317), .val (.ref a320), .val (.ref a323), .val (.ref a339), .unset, .unset, .unset, .unset, .unset, .unset]) rfl (XS.iload A340.here hx rfl (hb hby at_143) rfl (XS.ifYes A340.here hx rfl (pc0 := 145) (pc' := 160) rfl (hb hby at_145) rfl (by decide) (by decide) (by decide) (XS.aconstNull A340.here hx rfl (hb hby at_160) (XS.astore A340.here hx rfl (hb hby at_161) rfl rfl (l' := #[.val (.int p0), .val (.int p1), .val (.int p2), .val (.int p3), .val (.int ((p0 &&& (255 : Int32)).toUInt32.toUInt16.toUInt32.toInt32)), .val (.int (((XT.ushr p0 (8 : Int32)) &&& (255 : Int32)).toUInt32.toUInt16.toUInt32.toInt32)), .val (.int ((p1 &&& (255 : Int32)).toUInt32.toUInt16.toUInt32.toInt32)), .val (.int (((XT.ushr p1 (8 : Int32)) &&& (255 : Int32)).toUInt32.toUInt16.toUInt32.toInt32)), .val (.int ((p2 &&& (255 : Int32)).toUInt32.toUInt16.toUInt32.toInt32)), .val (.int (((XT.ushr p2 (8 : Int32)) &&& (255 : Int32)).toUInt32.toUInt16.toUInt32.toInt32)), .val (.int (0 : Int32)), .val (.ref a314), .val (.ref a317), .val (.ref a320), .val (.ref a323), .val (.ref a339), .val .null, .unset, .unset, .unset, .unset, .unset]) rfl (XS.bipush A340.here hx rfl (hb hby at_163) k)))))) ?_
    obtain ⟨a354, T354, h354, kA354, A354, E354, g354, V354, st354⟩ := A340.newP hx (aty := .char) (N := (14 : Int32)) (tw0 H.1) (g := (mkF m 165 #[.val (.int p0), .val (.int p1), .val (.int p2), .val (.int p3), .val (.int ((p0 &&& (255 : Int32)).toUInt32.toUInt16.toUInt32.toInt32)), .val (.int (((XT.ushr p0 (8 : Int32)) &&& (255 : Int32)).toUInt32.toUInt16.toUInt32.toInt32)), .val (.int ((p1 &&& (255 : Int32)).toUInt32.toUInt16.toUInt32.toInt32)), .val (.int (((XT.ushr p1 (8 : Int32)) &&& (255 : Int32)).toUInt32.toUInt16.toUInt32.toInt32)), .val (.int ((p2 &&& (255 : Int32)).toUInt32.toUInt16.toUInt32.toInt32)), .val (.int (((XT.ushr p2 (8 : Int32)) &&& (255 : Int32)).toUInt32.toUInt16.toUInt32.toInt32)), .val (.int (0 : Int32)), .val (.ref a314), .val (.ref a317), .val (.ref a320), .val (.ref a323), .val (.ref a339), .val .null, .unset, .unset, .unset, .unset, .unset] [(.int (14 : Int32))])) rfl (hb hby at_165) rfl (by decide) (cap := 14) (by decide) (by decide) (by decide) (by decide)
    refine Run.st (T354.setTop (mkF m 167 #[.val (.int p0), .val (.int p1), .val (.int p2), .val (.int p3), .val (.int ((p0 &&& (255 : Int32)).toUInt32.toUInt16.toUInt32.toInt32)), .val (.int (((XT.ushr p0 (8 : Int32)) &&& (255 : Int32)).toUInt32.toUInt16.toUInt32.toInt32)), .val (.int ((p1 &&& (255 : Int32)).toUInt32.toUInt16.toUInt32.toInt32)), .val (.int (((XT.ushr p1 (8 : Int32)) &&& (255 : Int32)).toUInt32.toUInt16.toUInt32.toInt32)), .val (.int ((p2 &&& (255 : Int32)).toUInt32.toUInt16.toUInt32.toInt32)), .val (.int (((XT.ushr p2 (8 : Int32)) &&& (255 : Int32)).toUInt32.toUInt16.toUInt32.toInt32)), .val (.int (0 : Int32)), .val (.ref a314), .val (.ref a317), .val (.ref a320), .val (.ref a323), .val (.ref a339), .val .null, .unset, .unset, .unset, .unset, .unset] [(.ref a354)])) st354 ?_
    refine Run.st (T354.setTop (mkF m 179 #[.val (.int p0), .val (.int p1), .val (.int p2), .val (.int p3), .val (.int ((p0 &&& (255 : Int32)).toUInt32.toUInt16.toUInt32.toInt32)), .val (.int (((XT.ushr p0 (8 : Int32)) &&& (255 : Int32)).toUInt32.toUInt16.toUInt32.toInt32)), .val (.int ((p1 &&& (255 : Int32)).toUInt32.toUInt16.toUInt32.toInt32)), .val (.int (((XT.ushr p1 (8 : Int32)) &&& (255 : Int32)).toUInt32.toUInt16.toUInt32.toInt32)), .val (.int ((p2 &&& (255 : Int32)).toUInt32.toUInt16.toUInt32.toInt32)), .val (.int (((XT.ushr p2 (8 : Int32)) &&& (255 : Int32)).toUInt32.toUInt16.toUInt32.toInt32)), .val (.int (0 : Int32)), .val (.ref a314), .val (.ref a317), .val (.ref a320), .val (.ref a323), .val (.ref a339), .val .null, .val (.ref a354), .unset, .unset, .unset, .unset] [(.int (((XT.ushr p1 (8 : Int32)) &&& (255 : Int32)).toUInt32.toUInt16.toUInt32.toInt32)), (.int ((p1 &&& (255 : Int32)).toUInt32.toUInt16.toUInt32.toInt32)), (.int (((XT.ushr p0 (8 : Int32)) &&& (255 : Int32)).toUInt32.toUInt16.toUInt32.toInt32)), (.int ((p0 &&& (255 : Int32)).toUInt32.toUInt16.toUInt32.toInt32)), (.ref a354)])) (fun _ k => XS.astore A354.here hx rfl (hb hby at_167) rfl rfl (l' := #[.val (.int p0), .val (.int p1), .val (.int p2), .val (.int p3), .val (.int ((p0 &&& (255 : Int32)).toUInt32.toUInt16.toUInt32.toInt32)), .val (.int (((XT.ushr p0 (8 : Int32)) &&& (255 : Int32)).toUInt32.toUInt16.toUInt32.toInt32)), .val (.int ((p1 &&& (255 : Int32)).toUInt32.toUInt16.toUInt32.toInt32)), .val (.int (((XT.ushr p1 (8 : Int32)) &&& (255 : Int32)).toUInt32.toUInt16.toUInt32.toInt32)), .val (.int ((p2 &&& (255 : Int32)).toUInt32.toUInt16.toUInt32.toInt32)), .val (.int (((XT.ushr p2 (8 : Int32)) &&& (255 : Int32)).toUInt32.toUInt16.toUInt32.toInt32)), .val (.int (0 : Int32)), .val (.ref a314), .val (.ref a317), .val (.ref a320), .val (.ref a323), .val (.ref a339), .val .null, .val (.ref a354), .unset, .unset, .unset, .unset]) rfl (XS.aload A354.here hx rfl (hb hby at_169) rfl rfl (XS.iload A354.here hx rfl (hb hby at_171) rfl (XS.iload A354.here hx rfl (hb hby at_173) rfl (XS.iload A354.here hx rfl (hb hby at_175) rfl (XS.iload A354.here hx rfl (hb hby at_177) rfl k)))))) ?_
    obtain ⟨v355, T355, h355, AA355, K355, ⟨L355, Q355⟩, st355⟩ := A354.callS hx (tw30 H.1) (tw31 H.1) (tw32 H.1) (tw33 H.1) (by decide) (g := (mkF m 179 #[.val (.int p0), .val (.int p1), .val (.int p2), .val (.int p3), .val (.int ((p0 &&& (255 : Int32)).toUInt32.toUInt16.toUInt32.toInt32)), .val (.int (((XT.ushr p0 (8 : Int32)) &&& (255 : Int32)).toUInt32.toUInt16.toUInt32.toInt32)), .val (.int ((p1 &&& (255 : Int32)).toUInt32.toUInt16.toUInt32.toInt32)), .val (.int (((XT.ushr p1 (8 : Int32)) &&& (255 : Int32)).toUInt32.toUInt16.toUInt32.toInt32)), .val (.int ((p2 &&& (255 : Int32)).toUInt32.toUInt16.toUInt32.toInt32)), .val (.int (((XT.ushr p2 (8 : Int32)) &&& (255 : Int32)).toUInt32.toUInt16.toUInt32.toInt32)), .val (.int (0 : Int32)), .val (.ref a314), .val (.ref a317), .val (.ref a320), .val (.ref a323), .val (.ref a339), .val .null, .val (.ref a354), .unset, .unset, .unset, .unset] [(.int (((XT.ushr p1 (8 : Int32)) &&& (255 : Int32)).toUInt32.toUInt16.toUInt32.toInt32)), (.int ((p1 &&& (255 : Int32)).toUInt32.toUInt16.toUInt32.toInt32)), (.int (((XT.ushr p0 (8 : Int32)) &&& (255 : Int32)).toUInt32.toUInt16.toUInt32.toInt32)), (.int ((p0 &&& (255 : Int32)).toUInt32.toUInt16.toUInt32.toInt32)), (.ref a354)])) rfl (by rw [hml]; rfl) [(.ref a354), (.int ((p0 &&& (255 : Int32)).toUInt32.toUInt16.toUInt32.toInt32)), (.int (((XT.ushr p0 (8 : Int32)) &&& (255 : Int32)).toUInt32.toUInt16.toUInt32.toInt32)), (.int ((p1 &&& (255 : Int32)).toUInt32.toUInt16.toUInt32.toInt32)), (.int (((XT.ushr p1 (8 : Int32)) &&& (255 : Int32)).toUInt32.toUInt16.toUInt32.toInt32))] [] (lenOf pd_21 rfl) rfl (Wd := 0) (by show 2 * 0 + _ ≤ _; exact Nat.le_of_eq rfl) (hb hby at_179) (by decide) (by decide) [a354] (fun _ _ _ q => q.2) (allS (List.mem_of_getElem? (i := 0) rfl) all0) (fun vm0 hZ => payN (ct_head14 H a354 kA354 ((p0 &&& (255 : Int32)).toUInt32.toUInt16.toUInt32.toInt32) (((XT.ushr p0 (8 : Int32)) &&& (255 : Int32)).toUInt32.toUInt16.toUInt32.toInt32) ((p1 &&& (255 : Int32)).toUInt32.toUInt16.toUInt32.toInt32) (((XT.ushr p1 (8 : Int32)) &&& (255 : Int32)).toUInt32.toUInt16.toUInt32.toInt32) A354.old V354 (A354.nle (List.mem_of_getElem? (i := 0) rfl)) V354.lt) (tw33 H.1) (tw32 H.1) (by decide) (by decide) hZ)
    obtain ⟨Q355, N355, -⟩ := Q355
    obtain ⟨rfl, Vh355⟩ := Q355
    have A355 := AA355 [] all0
    refine Run.st (T355.setTop (mkF m 182 #[.val (.int p0), .val (.int p1), .val (.int p2), .val (.int p3), .val (.int ((p0 &&& (255 : Int32)).toUInt32.toUInt16.toUInt32.toInt32)), .val (.int (((XT.ushr p0 (8 : Int32)) &&& (255 : Int32)).toUInt32.toUInt16.toUInt32.toInt32)), .val (.int ((p1 &&& (255 : Int32)).toUInt32.toUInt16.toUInt32.toInt32)), .val (.int (((XT.ushr p1 (8 : Int32)) &&& (255 : Int32)).toUInt32.toUInt16.toUInt32.toInt32)), .val (.int ((p2 &&& (255 : Int32)).toUInt32.toUInt16.toUInt32.toInt32)), .val (.int (((XT.ushr p2 (8 : Int32)) &&& (255 : Int32)).toUInt32.toUInt16.toUInt32.toInt32)), .val (.int (0 : Int32)), .val (.ref a314), .val (.ref a317), .val (.ref a320), .val (.ref a323), .val (.ref a339), .val .null, .val (.ref a354), .unset, .unset, .unset, .unset] [])) st355 ?_
    refine Run.st (T355.setTop (mkF m 184 #[.val (.int p0), .val (.int p1), .val (.int p2), .val (.int p3), .val (.int ((p0 &&& (255 : Int32)).toUInt32.toUInt16.toUInt32.toInt32)), .val (.int (((XT.ushr p0 (8 : Int32)) &&& (255 : Int32)).toUInt32.toUInt16.toUInt32.toInt32)), .val (.int ((p1 &&& (255 : Int32)).toUInt32.toUInt16.toUInt32.toInt32)), .val (.int (((XT.ushr p1 (8 : Int32)) &&& (255 : Int32)).toUInt32.toUInt16.toUInt32.toInt32)), .val (.int ((p2 &&& (255 : Int32)).toUInt32.toUInt16.toUInt32.toInt32)), .val (.int (((XT.ushr p2 (8 : Int32)) &&& (255 : Int32)).toUInt32.toUInt16.toUInt32.toInt32)), .val (.int (0 : Int32)), .val (.ref a314), .val (.ref a317), .val (.ref a320), .val (.ref a323), .val (.ref a339), .val .null, .val (.ref a354), .unset, .unset, .unset, .unset] [(.int (25 : Int32))])) (fun _ k => XS.bipush A355.here hx rfl (hb hby at_182) k) ?_
    obtain ⟨a356, T356, h356, kA356, A356, E356, g356, V356, st356⟩ := A355.newP hx (aty := .char) (N := (25 : Int32)) (tw0 H.1) (g := (mkF m 184 #[.val (.int p0), .val (.int p1), .val (.int p2), .val (.int p3), .val (.int ((p0 &&& (255 : Int32)).toUInt32.toUInt16.toUInt32.toInt32)), .val (.int (((XT.ushr p0 (8 : Int32)) &&& (255 : Int32)).toUInt32.toUInt16.toUInt32.toInt32)), .val (.int ((p1 &&& (255 : Int32)).toUInt32.toUInt16.toUInt32.toInt32)), .val (.int (((XT.ushr p1 (8 : Int32)) &&& (255 : Int32)).toUInt32.toUInt16.toUInt32.toInt32)), .val (.int ((p2 &&& (255 : Int32)).toUInt32.toUInt16.toUInt32.toInt32)), .val (.int (((XT.ushr p2 (8 : Int32)) &&& (255 : Int32)).toUInt32.toUInt16.toUInt32.toInt32)), .val (.int (0 : Int32)), .val (.ref a314), .val (.ref a317), .val (.ref a320), .val (.ref a323), .val (.ref a339), .val .null, .val (.ref a354), .unset, .unset, .unset, .unset] [(.int (25 : Int32))])) rfl (hb hby at_184) rfl (by decide) (cap := 25) (by decide) (by decide) (by decide) (by decide)
    refine Run.st (T356.setTop (mkF m 186 #[.val (.int p0), .val (.int p1), .val (.int p2), .val (.int p3), .val (.int ((p0 &&& (255 : Int32)).toUInt32.toUInt16.toUInt32.toInt32)), .val (.int (((XT.ushr p0 (8 : Int32)) &&& (255 : Int32)).toUInt32.toUInt16.toUInt32.toInt32)), .val (.int ((p1 &&& (255 : Int32)).toUInt32.toUInt16.toUInt32.toInt32)), .val (.int (((XT.ushr p1 (8 : Int32)) &&& (255 : Int32)).toUInt32.toUInt16.toUInt32.toInt32)), .val (.int ((p2 &&& (255 : Int32)).toUInt32.toUInt16.toUInt32.toInt32)), .val (.int (((XT.ushr p2 (8 : Int32)) &&& (255 : Int32)).toUInt32.toUInt16.toUInt32.toInt32)), .val (.int (0 : Int32)), .val (.ref a314), .val (.ref a317), .val (.ref a320), .val (.ref a323), .val (.ref a339), .val .null, .val (.ref a354), .unset, .unset, .unset, .unset] [(.ref a356)])) st356 ?_
    refine Run.st (T356.setTop (mkF m 198 #[.val (.int p0), .val (.int p1), .val (.int p2), .val (.int p3), .val (.int ((p0 &&& (255 : Int32)).toUInt32.toUInt16.toUInt32.toInt32)), .val (.int (((XT.ushr p0 (8 : Int32)) &&& (255 : Int32)).toUInt32.toUInt16.toUInt32.toInt32)), .val (.int ((p1 &&& (255 : Int32)).toUInt32.toUInt16.toUInt32.toInt32)), .val (.int (((XT.ushr p1 (8 : Int32)) &&& (255 : Int32)).toUInt32.toUInt16.toUInt32.toInt32)), .val (.int ((p2 &&& (255 : Int32)).toUInt32.toUInt16.toUInt32.toInt32)), .val (.int (((XT.ushr p2 (8 : Int32)) &&& (255 : Int32)).toUInt32.toUInt16.toUInt32.toInt32)), .val (.int (0 : Int32)), .val (.ref a314), .val (.ref a317), .val (.ref a320), .val (.ref a323), .val (.ref a339), .val .null, .val (.ref a354), .val (.ref a356), .unset, .unset, .unset] [(.int (((XT.ushr p1 (8 : Int32)) &&& (255 : Int32)).toUInt32.toUInt16.toUInt32.toInt32)), (.int ((p1 &&& (255 : Int32)).toUInt32.toUInt16.toUInt32.toInt32)), (.int (((XT.ushr p0 (8 : Int32)) &&& (255 : Int32)).toUInt32.toUInt16.toUInt32.toInt32)), (.int ((p0 &&& (255 : Int32)).toUInt32.toUInt16.toUInt32.toInt32)), (.ref a356)])) (fun _ k => XS.astore A356.here hx rfl (hb hby at_186) rfl rfl (l' := #[.val (.int p0), .val (.int p1), .val (.int p2), .val (.int p3), .val (.int ((p0 &&& (255 : Int32)).toUInt32.toUInt16.toUInt32.toInt32)), .val (.int (((XT.ushr p0 (8 : Int32)) &&& (255 : Int32)).toUInt32.toUInt16.toUInt32.toInt32)), .val (.int ((p1 &&& (255 : Int32)).toUInt32.toUInt16.toUInt32.toInt32)), .val (.int (((XT.ushr p1 (8 : Int32)) &&& (255 : Int32)).toUInt32.toUInt16.toUInt32.toInt32)), .val (.int ((p2 &&& (255 : Int32)).toUInt32.toUInt16.toUInt32.toInt32)), .val (.int (((XT.ushr p2 (8 : Int32)) &&& (255 : Int32)).toUInt32.toUInt16.toUInt32.toInt32)), .val (.int (0 : Int32)), .val (.ref a314), .val (.ref a317), .val (.ref a320), .val (.ref a323), .val (.ref a339), .val .null, .val (.ref a354), .val (.ref a356), .unset, .unset, .unset]) rfl (XS.aload A356.here hx rfl (hb hby at_188) rfl rfl (XS.iload A356.here hx rfl (hb hby at_190) rfl (XS.iload A356.here hx rfl (hb hby at_192) rfl (XS.iload A356.here hx rfl (hb hby at_194) rfl (XS.iload A356.here hx rfl (hb hby at_196) rfl k)))))) ?_
    obtain ⟨v357, T357, h357, AA357, K357, ⟨L357, Q357⟩, st357⟩ := A356.callS hx (tw30 H.1) (tw31 H.1) (tw32 H.1) (tw33 H.1) (by decide) (g := (mkF m 198 #[.val (.int p0), .val (.int p1), .val (.int p2), .val (.int p3), .val (.int ((p0 &&& (255 : Int32)).toUInt32.toUInt16.toUInt32.toInt32)), .val (.int (((XT.ushr p0 (8 : Int32)) &&& (255 : Int32)).toUInt32.toUInt16.toUInt32.toInt32)), .val (.int ((p1 &&& (255 : Int32)).toUInt32.toUInt16.toUInt32.toInt32)), .val (.int (((XT.ushr p1 (8 : Int32)) &&& (255 : Int32)).toUInt32.toUInt16.toUInt32.toInt32)), .val (.int ((p2 &&& (255 : Int32)).toUInt32.toUInt16.toUInt32.toInt32)), .val (.int (((XT.ushr p2 (8 : Int32)) &&& (255 : Int32)).toUInt32.toUInt16.toUInt32.toInt32)), .val (.int (0 : Int32)), .val (.ref a314), .val (.ref a317), .val (.ref a320), .val (.ref a323), .val (.ref a339), .val .null, .val (.ref a354), .val (.ref a356), .unset, .unset, .unset] [(.int (((XT.ushr p1 (8 : Int32)) &&& (255 : Int32)).toUInt32.toUInt16.toUInt32.toInt32)), (.int ((p1 &&& (255 : Int32)).toUInt32.toUInt16.toUInt32.toInt32)), (.int (((XT.ushr p0 (8 : Int32)) &&& (255 : Int32)).toUInt32.toUInt16.toUInt32.toInt32)), (.int ((p0 &&& (255 : Int32)).toUInt32.toUInt16.toUInt32.toInt32)), (.ref a356)])) rfl (by rw [hml]; rfl) [(.ref a356), (.int ((p0 &&& (255 : Int32)).toUInt32.toUInt16.toUInt32.toInt32)), (.int (((XT.ushr p0 (8 : Int32)) &&& (255 : Int32)).toUInt32.toUInt16.toUInt32.toInt32)), (.int ((p1 &&& (255 : Int32)).toUInt32.toUInt16.toUInt32.toInt32)), (.int (((XT.ushr p1 (8 : Int32)) &&& (255 : Int32)).toUInt32.toUInt16.toUInt32.toInt32))] [] (lenOf pd_21 rfl) rfl (Wd := 0) (by show 2 * 0 + _ ≤ _; exact Nat.le_of_eq rfl) (hb hby at_198) (by decide) (by decide) [a356] (fun _ _ _ q => q.2) (allS (List.mem_of_getElem? (i := 0) rfl) all0) (fun vm0 hZ => payN (ct_head25 H a356 kA356 ((p0 &&& (255 : Int32)).toUInt32.toUInt16.toUInt32.toInt32) (((XT.ushr p0 (8 : Int32)) &&& (255 : Int32)).toUInt32.toUInt16.toUInt32.toInt32) ((p1 &&& (255 : Int32)).toUInt32.toUInt16.toUInt32.toInt32) (((XT.ushr p1 (8 : Int32)) &&& (255 : Int32)).toUInt32.toUInt16.toUInt32.toInt32) A356.old V356 (A356.nle (List.mem_of_getElem? (i := 0) rfl)) V356.lt) (tw33 H.1) (tw32 H.1) (by decide) (by decide) hZ)
    obtain ⟨Q357, N357, -⟩ := Q357
    obtain ⟨rfl, Vh357⟩ := Q357
    have A357 := AA357 [] all0
    refine Run.st (T357.setTop (mkF m 201 #[.val (.int p0), .val (.int p1), .val (.int p2), .val (.int p3), .val (.int ((p0 &&& (255 : Int32)).toUInt32.toUInt16.toUInt32.toInt32)), .val (.int (((XT.ushr p0 (8 : Int32)) &&& (255 : Int32)).toUInt32.toUInt16.toUInt32.toInt32)), .val (.int ((p1 &&& (255 : Int32)).toUInt32.toUInt16.toUInt32.toInt32)), .val (.int (((XT.ushr p1 (8 : Int32)) &&& (255 : Int32)).toUInt32.toUInt16.toUInt32.toInt32)), .val (.int ((p2 &&& (255 : Int32)).toUInt32.toUInt16.toUInt32.toInt32)), .val (.int (((XT.ushr p2 (8 : Int32)) &&& (255 : Int32)).toUInt32.toUInt16.toUInt32.toInt32)), .val (.int (0 : Int32)), .val (.ref a314), .val (.ref a317), .val (.ref a320), .val (.ref a323), .val (.ref a339), .val .null, .val (.ref a354), .val (.ref a356), .unset, .unset, .unset] [])) st357 ?_
    refine Run.st (T357.setTop (mkF m 207 #[.val (.int p0), .val (.int p1), .val (.int p2), .val (.int p3), .val (.int ((p0 &&& (255 : Int32)).toUInt32.toUInt16.toUInt32.toInt32)), .val (.int (((XT.ushr p0 (8 : Int32)) &&& (255 : Int32)).toUInt32.toUInt16.toUInt32.toInt32)), .val (.int ((p1 &&& (255 : Int32)).toUInt32.toUInt16.toUInt32.toInt32)), .val (.int (((XT.ushr p1 (8 : Int32)) &&& (255 : Int32)).toUInt32.toUInt16.toUInt32.toInt32)), .val (.int ((p2 &&& (255 : Int32)).toUInt32.toUInt16.toUInt32.toInt32)), .val (.int (((XT.ushr p2 (8 : Int32)) &&& (255 : Int32)).toUInt32.toUInt16.toUInt32.toInt32)), .val (.int (0 : Int32)), .val (.ref a314), .val (.ref a317), .val (.ref a320), .val (.ref a323), .val (.ref a339), .val .null, .val (.ref a354), .val (.ref a356), .unset, .unset, .unset] [(.int (32 : Int32)), (.int (14 : Int32)), (.ref a356)])) (fun _ k => XS.aload A357.here hx rfl (hb hby at_201) rfl rfl (XS.bipush A357.here hx rfl (hb hby at_203) (XS.bipush A357.here hx rfl (hb hby at_205) k))) ?_
    obtain ⟨T358, h358, A358, K358, V358, st358⟩ := A357.stC hx Vh357 (List.mem_of_getElem? (i := 0) rfl) (j := (14 : Int32)) 14 rfl ⟨by decide, by decide⟩ (Nat.le_of_ble_eq_true rfl) (g := (mkF m 207 #[.val (.int p0), .val (.int p1), .val (.int p2), .val (.int p3), .val (.int ((p0 &&& (255 : Int32)).toUInt32.toUInt16.toUInt32.toInt32)), .val (.int (((XT.ushr p0 (8 : Int32)) &&& (255 : Int32)).toUInt32.toUInt16.toUInt32.toInt32)), .val (.int ((p1 &&& (255 : Int32)).toUInt32.toUInt16.toUInt32.toInt32)), .val (.int (((XT.ushr p1 (8 : Int32)) &&& (255 : Int32)).toUInt32.toUInt16.toUInt32.toInt32)), .val (.int ((p2 &&& (255 : Int32)).toUInt32.toUInt16.toUInt32.toInt32)), .val (.int (((XT.ushr p2 (8 : Int32)) &&& (255 : Int32)).toUInt32.toUInt16.toUInt32.toInt32)), .val (.int (0 : Int32)), .val (.ref a314), .val (.ref a317), .val (.ref a320), .val (.ref a323), .val (.ref a339), .val .null, .val (.ref a354), .val (.ref a356), .unset, .unset, .unset] [(.int (32 : Int32)), (.int (14 : Int32)), (.ref a356)])) rfl rfl (hb hby at_207)
    refine Run.st (T358.setTop (mkF m 208 #[.val (.int p0), .val (.int p1), .val (.int p2), .val (.int p3), .val (.int ((p0 &&& (255 : Int32)).toUInt32.toUInt16.toUInt32.toInt32)), .val (.int (((XT.ushr p0 (8 : Int32)) &&& (255 : Int32)).toUInt32.toUInt16.toUInt32.toInt32)), .val (.int ((p1 &&& (255 : Int32)).toUInt32.toUInt16.toUInt32.toInt32)), .val (.int (((XT.ushr p1 (8 : Int32)) &&& (255 : Int32)).toUInt32.toUInt16.toUInt32.toInt32)), .val (.int ((p2 &&& (255 : Int32)).toUInt32.toUInt16.toUInt32.toInt32)), .val (.int (((XT.ushr p2 (8 : Int32)) &&& (255 : Int32)).toUInt32.toUInt16.toUInt32.toInt32)), .val (.int (0 : Int32)), .val (.ref a314), .val (.ref a317), .val (.ref a320), .val (.ref a323), .val (.ref a339), .val .null, .val (.ref a354), .val (.ref a356), .unset, .unset, .unset] [])) st358 ?_
    refine Run.st (T358.setTop (mkF m 214 #[.val (.int p0), .val (.int p1), .val (.int p2), .val (.int p3), .val (.int ((p0 &&& (255 : Int32)).toUInt32.toUInt16.toUInt32.toInt32)), .val (.int (((XT.ushr p0 (8 : Int32)) &&& (255 : Int32)).toUInt32.toUInt16.toUInt32.toInt32)), .val (.int ((p1 &&& (255 : Int32)).toUInt32.toUInt16.toUInt32.toInt32)), .val (.int (((XT.ushr p1 (8 : Int32)) &&& (255 : Int32)).toUInt32.toUInt16.toUInt32.toInt32)), .val (.int ((p2 &&& (255 : Int32)).toUInt32.toUInt16.toUInt32.toInt32)), .val (.int (((XT.ushr p2 (8 : Int32)) &&& (255 : Int32)).toUInt32.toUInt16.toUInt32.toInt32)), .val (.int (0 : Int32)), .val (.ref a314), .val (.ref a317), .val (.ref a320), .val (.ref a323), .val (.ref a339), .val .null, .val (.ref a354), .val (.ref a356), .unset, .unset, .unset] [(.int (67 : Int32)), (.int (15 : Int32)), (.ref a356)])) (fun _ k => XS.aload A358.here hx rfl (hb hby at_208) rfl rfl (XS.bipush A358.here hx rfl (hb hby at_210) (XS.bipush A358.here hx rfl (hb hby at_212) k))) ?_
    obtain ⟨T359, h359, A359, K359, V359, st359⟩ := A358.stC hx V358 (List.mem_of_getElem? (i := 0) rfl) (j := (15 : Int32)) 15 rfl ⟨by decide, by decide⟩ (Nat.le_of_ble_eq_true rfl) (g := (mkF m 214 #[.val (.int p0), .val (.int p1), .val (.int p2), .val (.int p3), .val (.int ((p0 &&& (255 : Int32)).toUInt32.toUInt16.toUInt32.toInt32)), .val (.int (((XT.ushr p0 (8 : Int32)) &&& (255 : Int32)).toUInt32.toUInt16.toUInt32.toInt32)), .val (.int ((p1 &&& (255 : Int32)).toUInt32.toUInt16.toUInt32.toInt32)), .val (.int (((XT.ushr p1 (8 : Int32)) &&& (255 : Int32)).toUInt32.toUInt16.toUInt32.toInt32)), .val (.int ((p2 &&& (255 : Int32)).toUInt32.toUInt16.toUInt32.toInt32)), .val (.int (((XT.ushr p2 (8 : Int32)) &&& (255 : Int32)).toUInt32.toUInt16.toUInt32.toInt32)), .val (.int (0 : Int32)), .val (.ref a314), .val (.ref a317), .val (.ref a320), .val (.ref a323), .val (.ref a339), .val .null, .val (.ref a354), .val (.ref a356), .unset, .unset, .unset] [(.int (67 : Int32)), (.int (15 : Int32)), (.ref a356)])) rfl rfl (hb hby at_214)
    refine Run.st (T359.setTop (mkF m 215 #[.val (.int p0), .val (.int p1), .val (.int p2), .val (.int p3), .val (.int ((p0 &&& (255 : Int32)).toUInt32.toUInt16.toUInt32.toInt32)), .val (.int (((XT.ushr p0 (8 : Int32)) &&& (255 : Int32)).toUInt32.toUInt16.toUInt32.toInt32)), .val (.int ((p1 &&& (255 : Int32)).toUInt32.toUInt16.toUInt32.toInt32)), .val (.int (((XT.ushr p1 (8 : Int32)) &&& (255 : Int32)).toUInt32.toUInt16.toUInt32.toInt32)), .val (.int ((p2 &&& (255 : Int32)).toUInt32.toUInt16.toUInt32.toInt32)), .val (.int (((XT.ushr p2 (8 : Int32)) &&& (255 : Int32)).toUInt32.toUInt16.toUInt32.toInt32)), .val (.int (0 : Int32)), .val (.ref a314), .val (.ref a317), .val (.ref a320), .val (.ref a323), .val (.ref a339), .val .null, .val (.ref a354), .val (.ref a356), .unset, .unset, .unset] [])) st359 ?_
    refine Run.st (T359.setTop (mkF m 221 #[.val (.int p0), .val (.int p1), .val (.int p2), .val (.int p3), .val (.int ((p0 &&& (255 : Int32)).toUInt32.toUInt16.toUInt32.toInt32)), .val (.int (((XT.ushr p0 (8 : Int32)) &&& (255 : Int32)).toUInt32.toUInt16.toUInt32.toInt32)), .val (.int ((p1 &&& (255 : Int32)).toUInt32.toUInt16.toUInt32.toInt32)), .val (.int (((XT.ushr p1 (8 : Int32)) &&& (255 : Int32)).toUInt32.toUInt16.toUInt32.toInt32)), .val (.int ((p2 &&& (255 : Int32)).toUInt32.toUInt16.toUInt32.toInt32)), .val (.int (((XT.ushr p2 (8 : Int32)) &&& (255 : Int32)).toUInt32.toUInt16.toUInt32.toInt32)), .val (.int (0 : Int32)), .val (.ref a314), .val (.ref a317), .val (.ref a320), .val (.ref a323), .val (.ref a339), .val .null, .val (.ref a354), .val (.ref a356), .unset, .unset, .unset] [(.int (79 : Int32)), (.int (16 : Int32)), (.ref a356)])) (fun _ k => XS.aload A359.here hx rfl (hb hby at_215) rfl rfl (XS.bipush A359.here hx rfl (hb hby at_217) (XS.bipush A359.here hx rfl (hb hby at_219) k))) ?_
    obtain ⟨T360, h360, A360, K360, V360, st360⟩ := A359.stC hx V359 (List.mem_of_getElem? (i := 0) rfl) (j := (16 : Int32)) 16 rfl ⟨by decide, by decide⟩ (Nat.le_of_ble_eq_true rfl) (g := (mkF m 221 #[.val (.int p0), .val (.int p1), .val (.int p2), .val (.int p3), .val (.int ((p0 &&& (255 : Int32)).toUInt32.toUInt16.toUInt32.toInt32)), .val (.int (((XT.ushr p0 (8 : Int32)) &&& (255 : Int32)).toUInt32.toUInt16.toUInt32.toInt32)), .val (.int ((p1 &&& (255 : Int32)).toUInt32.toUInt16.toUInt32.toInt32)), .val (.int (((XT.ushr p1 (8 : Int32)) &&& (255 : Int32)).toUInt32.toUInt16.toUInt32.toInt32)), .val (.int ((p2 &&& (255 : Int32)).toUInt32.toUInt16.toUInt32.toInt32)), .val (.int (((XT.ushr p2 (8 : Int32)) &&& (255 : Int32)).toUInt32.toUInt16.toUInt32.toInt32)), .val (.int (0 : Int32)), .val (.ref a314), .val (.ref a317), .val (.ref a320), .val (.ref a323), .val (.ref a339), .val .null, .val (.ref a354), .val (.ref a356), .unset, .unset, .unset] [(.int (79 : Int32)), (.int (16 : Int32)), (.ref a356)])) rfl rfl (hb hby at_221)
    refine Run.st (T360.setTop (mkF m 222 #[.val (.int p0), .val (.int p1), .val (.int p2), .val (.int p3), .val (.int ((p0 &&& (255 : Int32)).toUInt32.toUInt16.toUInt32.toInt32)), .val (.int (((XT.ushr p0 (8 : Int32)) &&& (255 : Int32)).toUInt32.toUInt16.toUInt32.toInt32)), .val (.int ((p1 &&& (255 : Int32)).toUInt32.toUInt16.toUInt32.toInt32)), .val (.int (((XT.ushr p1 (8 : Int32)) &&& (255 : Int32)).toUInt32.toUInt16.toUInt32.toInt32)), .val (.int ((p2 &&& (255 : Int32)).toUInt32.toUInt16.toUInt32.toInt32)), .val (.int (((XT.ushr p2 (8 : Int32)) &&& (255 : Int32)).toUInt32.toUInt16.toUInt32.toInt32)), .val (.int (0 : Int32)), .val (.ref a314), .val (.ref a317), .val (.ref a320), .val (.ref a323), .val (.ref a339), .val .null, .val (.ref a354), .val (.ref a356), .unset, .unset, .unset] [])) st360 ?_
    refine Run.st (T360.setTop (mkF m 228 #[.val (.int p0), .val (.int p1), .val (.int p2), .val (.int p3), .val (.int ((p0 &&& (255 : Int32)).toUInt32.toUInt16.toUInt32.toInt32)), .val (.int (((XT.ushr p0 (8 : Int32)) &&& (255 : Int32)).toUInt32.toUInt16.toUInt32.toInt32)), .val (.int ((p1 &&& (255 : Int32)).toUInt32.toUInt16.toUInt32.toInt32)), .val (.int (((XT.ushr p1 (8 : Int32)) &&& (255 : Int32)).toUInt32.toUInt16.toUInt32.toInt32)), .val (.int ((p2 &&& (255 : Int32)).toUInt32.toUInt16.toUInt32.toInt32)), .val (.int (((XT.ushr p2 (8 : Int32)) &&& (255 : Int32)).toUInt32.toUInt16.toUInt32.toInt32)), .val (.int (0 : Int32)), .val (.ref a314), .val (.ref a317), .val (.ref a320), .val (.ref a323), .val (.ref a339), .val .null, .val (.ref a354), .val (.ref a356), .unset, .unset, .unset] [(.int (76 : Int32)), (.int (17 : Int32)), (.ref a356)])) (fun _ k => XS.aload A360.here hx rfl (hb hby at_222) rfl rfl (XS.bipush A360.here hx rfl (hb hby at_224) (XS.bipush A360.here hx rfl (hb hby at_226) k))) ?_
    obtain ⟨T361, h361, A361, K361, V361, st361⟩ := A360.stC hx V360 (List.mem_of_getElem? (i := 0) rfl) (j := (17 : Int32)) 17 rfl ⟨by decide, by decide⟩ (Nat.le_of_ble_eq_true rfl) (g := (mkF m 228 #[.val (.int p0), .val (.int p1), .val (.int p2), .val (.int p3), .val (.int ((p0 &&& (255 : Int32)).toUInt32.toUInt16.toUInt32.toInt32)), .val (.int (((XT.ushr p0 (8 : Int32)) &&& (255 : Int32)).toUInt32.toUInt16.toUInt32.toInt32)), .val (.int ((p1 &&& (255 : Int32)).toUInt32.toUInt16.toUInt32.toInt32)), .val (.int (((XT.ushr p1 (8 : Int32)) &&& (255 : Int32)).toUInt32.toUInt16.toUInt32.toInt32)), .val (.int ((p2 &&& (255 : Int32)).toUInt32.toUInt16.toUInt32.toInt32)), .val (.int (((XT.ushr p2 (8 : Int32)) &&& (255 : Int32)).toUInt32.toUInt16.toUInt32.toInt32)), .val (.int (0 : Int32)), .val (.ref a314), .val (.ref a317), .val (.ref a320), .val (.ref a323), .val (.ref a339), .val .null, .val (.ref a354), .val (.ref a356), .unset, .unset, .unset] [(.int (76 : Int32)), (.int (17 : Int32)), (.ref a356)])) rfl rfl (hb hby at_228)
    refine Run.st (T361.setTop (mkF m 229 #[.val (.int p0), .val (.int p1), .val (.int p2), .val (.int p3), .val (.int ((p0 &&& (255 : Int32)).toUInt32.toUInt16.toUInt32.toInt32)), .val (.int (((XT.ushr p0 (8 : Int32)) &&& (255 : Int32)).toUInt32.toUInt16.toUInt32.toInt32)), .val (.int ((p1 &&& (255 : Int32)).toUInt32.toUInt16.toUInt32.toInt32)), .val (.int (((XT.ushr p1 (8 : Int32)) &&& (255 : Int32)).toUInt32.toUInt16.toUInt32.toInt32)), .val (.int ((p2 &&& (255 : Int32)).toUInt32.toUInt16.toUInt32.toInt32)), .val (.int (((XT.ushr p2 (8 : Int32)) &&& (255 : Int32)).toUInt32.toUInt16.toUInt32.toInt32)), .val (.int (0 : Int32)), .val (.ref a314), .val (.ref a317), .val (.ref a320), .val (.ref a323), .val (.ref a339), .val .null, .val (.ref a354), .val (.ref a356), .unset, .unset, .unset] [])) st361 ?_
    refine Run.st (T361.setTop (mkF m 235 #[.val (.int p0), .val (.int p1), .val (.int p2), .val (.int p3), .val (.int ((p0 &&& (255 : Int32)).toUInt32.toUInt16.toUInt32.toInt32)), .val (.int (((XT.ushr p0 (8 : Int32)) &&& (255 : Int32)).toUInt32.toUInt16.toUInt32.toInt32)), .val (.int ((p1 &&& (255 : Int32)).toUInt32.toUInt16.toUInt32.toInt32)), .val (.int (((XT.ushr p1 (8 : Int32)) &&& (255 : Int32)).toUInt32.toUInt16.toUInt32.toInt32)), .val (.int ((p2 &&& (255 : Int32)).toUInt32.toUInt16.toUInt32.toInt32)), .val (.int (((XT.ushr p2 (8 : Int32)) &&& (255 : Int32)).toUInt32.toUInt16.toUInt32.toInt32)), .val (.int (0 : Int32)), .val (.ref a314), .val (.ref a317), .val (.ref a320), .val (.ref a323), .val (.ref a339), .val .null, .val (.ref a354), .val (.ref a356), .unset, .unset, .unset] [(.int (76 : Int32)), (.int (18 : Int32)), (.ref a356)])) (fun _ k => XS.aload A361.here hx rfl (hb hby at_229) rfl rfl (XS.bipush A361.here hx rfl (hb hby at_231) (XS.bipush A361.here hx rfl (hb hby at_233) k))) ?_
    obtain ⟨T362, h362, A362, K362, V362, st362⟩ := A361.stC hx V361 (List.mem_of_getElem? (i := 0) rfl) (j := (18 : Int32)) 18 rfl ⟨by decide, by decide⟩ (Nat.le_of_ble_eq_true rfl) (g := (mkF m 235 #[.val (.int p0), .val (.int p1), .val (.int p2), .val (.int p3), .val (.int ((p0 &&& (255 : Int32)).toUInt32.toUInt16.toUInt32.toInt32)), .val (.int (((XT.ushr p0 (8 : Int32)) &&& (255 : Int32)).toUInt32.toUInt16.toUInt32.toInt32)), .val (.int ((p1 &&& (255 : Int32)).toUInt32.toUInt16.toUInt32.toInt32)), .val (.int (((XT.ushr p1 (8 : Int32)) &&& (255 : Int32)).toUInt32.toUInt16.toUInt32.toInt32)), .val (.int ((p2 &&& (255 : Int32)).toUInt32.toUInt16.toUInt32.toInt32)), .val (.int (((XT.ushr p2 (8 : Int32)) &&& (255 : Int32)).toUInt32.toUInt16.toUInt32.toInt32)), .val (.int (0 : Int32)), .val (.ref a314), .val (.ref a317), .val (.ref a320), .val (.ref a323), .val (.ref a339), .val .null, .val (.ref a354), .val (.ref a356), .unset, .unset, .unset] [(.int (76 : Int32)), (.int (18 : Int32)), (.ref a356)])) rfl rfl (hb hby at_235)
    refine Run.st (T362.setTop (mkF m 236 #[.val (.int p0), .val (.int p1), .val (.int p2), .val (.int p3), .val (.int ((p0 &&& (255 : Int32)).toUInt32.toUInt16.toUInt32.toInt32)), .val (.int (((XT.ushr p0 (8 : Int32)) &&& (255 : Int32)).toUInt32.toUInt16.toUInt32.toInt32)), .val (.int ((p1 &&& (255 : Int32)).toUInt32.toUInt16.toUInt32.toInt32)), .val (.int (((XT.ushr p1 (8 : Int32)) &&& (255 : Int32)).toUInt32.toUInt16.toUInt32.toInt32)), .val (.int ((p2 &&& (255 : Int32)).toUInt32.toUInt16.toUInt32.toInt32)), .val (.int (((XT.ushr p2 (8 : Int32)) &&& (255 : Int32)).toUInt32.toUInt16.toUInt32.toInt32)), .val (.int (0 : Int32)), .val (.ref a314), .val (.ref a317), .val (.ref a320), .val (.ref a323), .val (.ref a339), .val .null, .val (.ref a354), .val (.ref a356), .unset, .unset, .unset] [])) st362 ?_
    refine Run.st (T362.setTop (mkF m 242 #[.val (.int p0), .val (.int p1), .val (.int p2), .val (.int p3), .val (.int ((p0 &&& (255 : Int32)).toUInt32.toUInt16.toUInt32.toInt32)), .val (.int (((XT.ushr p0 (8 : Int32)) &&& (255 : Int32)).toUInt32.toUInt16.toUInt32.toInt32)), .val (.int ((p1 &&& (255 : Int32)).toUInt32.toUInt16.toUInt32.toInt32)), .val (.int (((XT.ushr p1 (8 : Int32)) &&& (255 : Int32)).toUInt32.toUInt16.toUInt32.toInt32)), .val (.int ((p2 &&& (255 : Int32)).toUInt32.toUInt16.toUInt32.toInt32)), .val (.int (((XT.ushr p2 (8 : Int32)) &&& (255 : Int32)).toUInt32.toUInt16.toUInt32.toInt32)), .val (.int (0 : Int32)), .val (.ref a314), .val (.ref a317), .val (.ref a320), .val (.ref a323), .val (.ref a339), .val .null, .val (.ref a354), .val (.ref a356), .unset, .unset, .unset] [(.int (65 : Int32)), (.int (19 : Int32)), (.ref a356)])) (fun _ k => XS.aload A362.here hx rfl (hb hby at_236) rfl rfl (XS.bipush A362.here hx rfl (hb hby at_238) (XS.bipush A362.here hx rfl (hb hby at_240) k))) ?_
    obtain ⟨T363, h363, A363, K363, V363, st363⟩ := A362.stC hx V362 (List.mem_of_getElem? (i := 0) rfl) (j := (19 : Int32)) 19 rfl ⟨by decide, by decide⟩ (Nat.le_of_ble_eq_true rfl) (g := (mkF m 242 #[.val (.int p0), .val (.int p1), .val (.int p2), .val (.int p3), .val (.int ((p0 &&& (255 : Int32)).toUInt32.toUInt16.toUInt32.toInt32)), .val (.int (((XT.ushr p0 (8 : Int32)) &&& (255 : Int32)).toUInt32.toUInt16.toUInt32.toInt32)), .val (.int ((p1 &&& (255 : Int32)).toUInt32.toUInt16.toUInt32.toInt32)), .val (.int (((XT.ushr p1 (8 : Int32)) &&& (255 : Int32)).toUInt32.toUInt16.toUInt32.toInt32)), .val (.int ((p2 &&& (255 : Int32)).toUInt32.toUInt16.toUInt32.toInt32)), .val (.int (((XT.ushr p2 (8 : Int32)) &&& (255 : Int32)).toUInt32.toUInt16.toUInt32.toInt32)), .val (.int (0 : Int32)), .val (.ref a314), .val (.ref a317), .val (.ref a320), .val (.ref a323), .val (.ref a339), .val .null, .val (.ref a354), .val (.ref a356), .unset, .unset, .unset] [(.int (65 : Int32)), (.int (19 : Int32)), (.ref a356)])) rfl rfl (hb hby at_242)
    refine Run.st (T363.setTop (mkF m 243 #[.val (.int p0), .val (.int p1), .val (.int p2), .val (.int p3), .val (.int ((p0 &&& (255 : Int32)).toUInt32.toUInt16.toUInt32.toInt32)), .val (.int (((XT.ushr p0 (8 : Int32)) &&& (255 : Int32)).toUInt32.toUInt16.toUInt32.toInt32)), .val (.int ((p1 &&& (255 : Int32)).toUInt32.toUInt16.toUInt32.toInt32)), .val (.int (((XT.ushr p1 (8 : Int32)) &&& (255 : Int32)).toUInt32.toUInt16.toUInt32.toInt32)), .val (.int ((p2 &&& (255 : Int32)).toUInt32.toUInt16.toUInt32.toInt32)), .val (.int (((XT.ushr p2 (8 : Int32)) &&& (255 : Int32)).toUInt32.toUInt16.toUInt32.toInt32)), .val (.int (0 : Int32)), .val (.ref a314), .val (.ref a317), .val (.ref a320), .val (.ref a323), .val (.ref a339), .val .null, .val (.ref a354), .val (.ref a356), .unset, .unset, .unset] [])) st363 ?_
    refine Run.st (T363.setTop (mkF m 249 #[.val (.int p0), .val (.int p1), .val (.int p2), .val (.int p3), .val (.int ((p0 &&& (255 : Int32)).toUInt32.toUInt16.toUInt32.toInt32)), .val (.int (((XT.ushr p0 (8 : Int32)) &&& (255 : Int32)).toUInt32.toUInt16.toUInt32.toInt32)), .val (.int ((p1 &&& (255 : Int32)).toUInt32.toUInt16.toUInt32.toInt32)), .val (.int (((XT.ushr p1 (8 : Int32)) &&& (255 : Int32)).toUInt32.toUInt16.toUInt32.toInt32)), .val (.int ((p2 &&& (255 : Int32)).toUInt32.toUInt16.toUInt32.toInt32)), .val (.int (((XT.ushr p2 (8 : Int32)) &&& (255 : Int32)).toUInt32.toUInt16.toUInt32.toInt32)), .val (.int (0 : Int32)), .val (.ref a314), .val (.ref a317), .val (.ref a320), .val (.ref a323), .val (.ref a339), .val .null, .val (.ref a354), .val (.ref a356), .unset, .unset, .unset] [(.int (84 : Int32)), (.int (20 : Int32)), (.ref a356)])) (fun _ k => XS.aload A363.here hx rfl (hb hby at_243) rfl rfl (XS.bipush A363.here hx rfl (hb hby at_245) (XS.bipush A363.here hx rfl (hb hby at_247) k))) ?_
    obtain ⟨T364, h364, A364, K364, V364, st364⟩ := A363.stC hx V363 (List.mem_of_getElem? (i := 0) rfl) (j := (20 : Int32)) 20 rfl ⟨by decide, by decide⟩ (Nat.le_of_ble_eq_true rfl) (g := (mkF m 249 #[.val (.int p0), .val (.int p1), .val (.int p2), .val (.int p3), .val (.int ((p0 &&& (255 : Int32)).toUInt32.toUInt16.toUInt32.toInt32)), .val (.int (((XT.ushr p0 (8 : Int32)) &&& (255 : Int32)).toUInt32.toUInt16.toUInt32.toInt32)), .val (.int ((p1 &&& (255 : Int32)).toUInt32.toUInt16.toUInt32.toInt32)), .val (.int (((XT.ushr p1 (8 : Int32)) &&& (255 : Int32)).toUInt32.toUInt16.toUInt32.toInt32)), .val (.int ((p2 &&& (255 : Int32)).toUInt32.toUInt16.toUInt32.toInt32)), .val (.int (((XT.ushr p2 (8 : Int32)) &&& (255 : Int32)).toUInt32.toUInt16.toUInt32.toInt32)), .val (.int (0 : Int32)), .val (.ref a314), .val (.ref a317), .val (.ref a320), .val (.ref a323), .val (.ref a339), .val .null, .val (.ref a354), .val (.ref a356), .unset, .unset, .unset] [(.int (84 : Int32)), (.int (20 : Int32)), (.ref a356)])) rfl rfl (hb hby at_249)
    refine Run.st (T364.setTop (mkF m 250 #[.val (.int p0), .val (.int p1), .val (.int p2), .val (.int p3), .val (.int ((p0 &&& (255 : Int32)).toUInt32.toUInt16.toUInt32.toInt32)), .val (.int (((XT.ushr p0 (8 : Int32)) &&& (255 : Int32)).toUInt32.toUInt16.toUInt32.toInt32)), .val (.int ((p1 &&& (255 : Int32)).toUInt32.toUInt16.toUInt32.toInt32)), .val (.int (((XT.ushr p1 (8 : Int32)) &&& (255 : Int32)).toUInt32.toUInt16.toUInt32.toInt32)), .val (.int ((p2 &&& (255 : Int32)).toUInt32.toUInt16.toUInt32.toInt32)), .val (.int (((XT.ushr p2 (8 : Int32)) &&& (255 : Int32)).toUInt32.toUInt16.toUInt32.toInt32)), .val (.int (0 : Int32)), .val (.ref a314), .val (.ref a317), .val (.ref a320), .val (.ref a323), .val (.ref a339), .val .null, .val (.ref a354), .val (.ref a356), .unset, .unset, .unset] [])) st364 ?_
    refine Run.st (T364.setTop (mkF m 256 #[.val (.int p0), .val (.int p1), .val (.int p2), .val (.int p3), .val (.int ((p0 &&& (255 : Int32)).toUInt32.toUInt16.toUInt32.toInt32)), .val (.int (((XT.ushr p0 (8 : Int32)) &&& (255 : Int32)).toUInt32.toUInt16.toUInt32.toInt32)), .val (.int ((p1 &&& (255 : Int32)).toUInt32.toUInt16.toUInt32.toInt32)), .val (.int (((XT.ushr p1 (8 : Int32)) &&& (255 : Int32)).toUInt32.toUInt16.toUInt32.toInt32)), .val (.int ((p2 &&& (255 : Int32)).toUInt32.toUInt16.toUInt32.toInt32)), .val (.int (((XT.ushr p2 (8 : Int32)) &&& (255 : Int32)).toUInt32.toUInt16.toUInt32.toInt32)), .val (.int (0 : Int32)), .val (.ref a314), .val (.ref a317), .val (.ref a320), .val (.ref a323), .val (.ref a339), .val .null, .val (.ref a354), .val (.ref a356), .unset, .unset, .unset] [(.int (69 : Int32)), (.int (21 : Int32)), (.ref a356)])) (fun _ k => XS.aload A364.here hx rfl (hb hby at_250) rfl rfl (XS.bipush A364.here hx rfl (hb hby at_252) (XS.bipush A364.here hx rfl (hb hby at_254) k))) ?_
    obtain ⟨T365, h365, A365, K365, V365, st365⟩ := A364.stC hx V364 (List.mem_of_getElem? (i := 0) rfl) (j := (21 : Int32)) 21 rfl ⟨by decide, by decide⟩ (Nat.le_of_ble_eq_true rfl) (g := (mkF m 256 #[.val (.int p0), .val (.int p1), .val (.int p2), .val (.int p3), .val (.int ((p0 &&& (255 : Int32)).toUInt32.toUInt16.toUInt32.toInt32)), .val (.int (((XT.ushr p0 (8 : Int32)) &&& (255 : Int32)).toUInt32.toUInt16.toUInt32.toInt32)), .val (.int ((p1 &&& (255 : Int32)).toUInt32.toUInt16.toUInt32.toInt32)), .val (.int (((XT.ushr p1 (8 : Int32)) &&& (255 : Int32)).toUInt32.toUInt16.toUInt32.toInt32)), .val (.int ((p2 &&& (255 : Int32)).toUInt32.toUInt16.toUInt32.toInt32)), .val (.int (((XT.ushr p2 (8 : Int32)) &&& (255 : Int32)).toUInt32.toUInt16.toUInt32.toInt32)), .val (.int (0 : Int32)), .val (.ref a314), .val (.ref a317), .val (.ref a320), .val (.ref a323), .val (.ref a339), .val .null, .val (.ref a354), .val (.ref a356), .unset, .unset, .unset] [(.int (69 : Int32)), (.int (21 : Int32)), (.ref a356)])) rfl rfl (hb hby at_256)
    refine Run.st (T365.setTop (mkF m 257 #[.val (.int p0), .val (.int p1), .val (.int p2), .val (.int p3), .val (.int ((p0 &&& (255 : Int32)).toUInt32.toUInt16.toUInt32.toInt32)), .val (.int (((XT.ushr p0 (8 : Int32)) &&& (255 : Int32)).toUInt32.toUInt16.toUInt32.toInt32)), .val (.int ((p1 &&& (255 : Int32)).toUInt32.toUInt16.toUInt32.toInt32)), .val (.int (((XT.ushr p1 (8 : Int32)) &&& (255 : Int32)).toUInt32.toUInt16.toUInt32.toInt32)), .val (.int ((p2 &&& (255 : Int32)).toUInt32.toUInt16.toUInt32.toInt32)), .val (.int (((XT.ushr p2 (8 : Int32)) &&& (255 : Int32)).toUInt32.toUInt16.toUInt32.toInt32)), .val (.int (0 : Int32)), .val (.ref a314), .val (.ref a317), .val (.ref a320), .val (.ref a323), .val (.ref a339), .val .null, .val (.ref a354), .val (.ref a356), .unset, .unset, .unset] [])) st365 ?_
    refine Run.st (T365.setTop (mkF m 263 #[.val (.int p0), .val (.int p1), .val (.int p2), .val (.int p3), .val (.int ((p0 &&& (255 : Int32)).toUInt32.toUInt16.toUInt32.toInt32)), .val (.int (((XT.ushr p0 (8 : Int32)) &&& (255 : Int32)).toUInt32.toUInt16.toUInt32.toInt32)), .val (.int ((p1 &&& (255 : Int32)).toUInt32.toUInt16.toUInt32.toInt32)), .val (.int (((XT.ushr p1 (8 : Int32)) &&& (255 : Int32)).toUInt32.toUInt16.toUInt32.toInt32)), .val (.int ((p2 &&& (255 : Int32)).toUInt32.toUInt16.toUInt32.toInt32)), .val (.int (((XT.ushr p2 (8 : Int32)) &&& (255 : Int32)).toUInt32.toUInt16.toUInt32.toInt32)), .val (.int (0 : Int32)), .val (.ref a314), .val (.ref a317), .val (.ref a320), .val (.ref a323), .val (.ref a339), .val .null, .val (.ref a354), .val (.ref a356), .unset, .unset, .unset] [(.int (32 : Int32)), (.int (22 : Int32)), (.ref a356)])) (fun _ k => XS.aload A365.here hx rfl (hb hby at_257) rfl rfl (XS.bipush A365.here hx rfl (hb hby at_259) (XS.bipush A365.here hx rfl (hb hby at_261) k))) ?_
    obtain ⟨T366, h366, A366, K366, V366, st366⟩ := A365.stC hx V365 (List.mem_of_getElem? (i := 0) rfl) (j := (22 : Int32)) 22 rfl ⟨by decide, by decide⟩ (Nat.le_of_ble_eq_true rfl) (g := (mkF m 263 #[.val (.int p0), .val (.int p1), .val (.int p2), .val (.int p3), .val (.int ((p0 &&& (255 : Int32)).toUInt32.toUInt16.toUInt32.toInt32)), .val (.int (((XT.ushr p0 (8 : Int32)) &&& (255 : Int32)).toUInt32.toUInt16.toUInt32.toInt32)), .val (.int ((p1 &&& (255 : Int32)).toUInt32.toUInt16.toUInt32.toInt32)), .val (.int (((XT.ushr p1 (8 : Int32)) &&& (255 : Int32)).toUInt32.toUInt16.toUInt32.toInt32)), .val (.int ((p2 &&& (255 : Int32)).toUInt32.toUInt16.toUInt32.toInt32)), .val (.int (((XT.ushr p2 (8 : Int32)) &&& (255 : Int32)).toUInt32.toUInt16.toUInt32.toInt32)), .val (.int (0 : Int32)), .val (.ref a314), .val (.ref a317), .val (.ref a320), .val (.ref a323), .val (.ref a339), .val .null, .val (.ref a354), .val (.ref a356), .unset, .unset, .unset] [(.int (32 : Int32)), (.int (22 : Int32)), (.ref a356)])) rfl rfl (hb hby at_263)
    refine Run.st (T366.setTop (mkF m 264 #[.val (.int p0), .val (.int p1), .val (.int p2), .val (.int p3), .val (.int ((p0 &&& (255 : Int32)).toUInt32.toUInt16.toUInt32.toInt32)), .val (.int (((XT.ushr p0 (8 : Int32)) &&& (255 : Int32)).toUInt32.toUInt16.toUInt32.toInt32)), .val (.int ((p1 &&& (255 : Int32)).toUInt32.toUInt16.toUInt32.toInt32)), .val (.int (((XT.ushr p1 (8 : Int32)) &&& (255 : Int32)).toUInt32.toUInt16.toUInt32.toInt32)), .val (.int ((p2 &&& (255 : Int32)).toUInt32.toUInt16.toUInt32.toInt32)), .val (.int (((XT.ushr p2 (8 : Int32)) &&& (255 : Int32)).toUInt32.toUInt16.toUInt32.toInt32)), .val (.int (0 : Int32)), .val (.ref a314), .val (.ref a317), .val (.ref a320), .val (.ref a323), .val (.ref a339), .val .null, .val (.ref a354), .val (.ref a356), .unset, .unset, .unset] [])) st366 ?_
    refine Run.st (T366.setTop (mkF m 270 #[.val (.int p0), .val (.int p1), .val (.int p2), .val (.int p3), .val (.int ((p0 &&& (255 : Int32)).toUInt32.toUInt16.toUInt32.toInt32)), .val (.int (((XT.ushr p0 (8 : Int32)) &&& (255 : Int32)).toUInt32.toUInt16.toUInt32.toInt32)), .val (.int ((p1 &&& (255 : Int32)).toUInt32.toUInt16.toUInt32.toInt32)), .val (.int (((XT.ushr p1 (8 : Int32)) &&& (255 : Int32)).toUInt32.toUInt16.toUInt32.toInt32)), .val (.int ((p2 &&& (255 : Int32)).toUInt32.toUInt16.toUInt32.toInt32)), .val (.int (((XT.ushr p2 (8 : Int32)) &&& (255 : Int32)).toUInt32.toUInt16.toUInt32.toInt32)), .val (.int (0 : Int32)), .val (.ref a314), .val (.ref a317), .val (.ref a320), .val (.ref a323), .val (.ref a339), .val .null, .val (.ref a354), .val (.ref a356), .unset, .unset, .unset] [(.int ((p2 &&& (255 : Int32)).toUInt32.toUInt16.toUInt32.toInt32)), (.int (23 : Int32)), (.ref a356)])) (fun _ k => XS.aload A366.here hx rfl (hb hby at_264) rfl rfl (XS.bipush A366.here hx rfl (hb hby at_266) (XS.iload A366.here hx rfl (hb hby at_268) rfl k))) ?_
    obtain ⟨T367, h367, A367, K367, V367, st367⟩ := A366.stC hx V366 (List.mem_of_getElem? (i := 0) rfl) (j := (23 : Int32)) 23 rfl ⟨by decide, by decide⟩ (Nat.le_of_ble_eq_true rfl) (g := (mkF m 270 #[.val (.int p0), .val (.int p1), .val (.int p2), .val (.int p3), .val (.int ((p0 &&& (255 : Int32)).toUInt32.toUInt16.toUInt32.toInt32)), .val (.int (((XT.ushr p0 (8 : Int32)) &&& (255 : Int32)).toUInt32.toUInt16.toUInt32.toInt32)), .val (.int ((p1 &&& (255 : Int32)).toUInt32.toUInt16.toUInt32.toInt32)), .val (.int (((XT.ushr p1 (8 : Int32)) &&& (255 : Int32)).toUInt32.toUInt16.toUInt32.toInt32)), .val (.int ((p2 &&& (255 : Int32)).toUInt32.toUInt16.toUInt32.toInt32)), .val (.int (((XT.ushr p2 (8 : Int32)) &&& (255 : Int32)).toUInt32.toUInt16.toUInt32.toInt32)), .val (.int (0 : Int32)), .val (.ref a314), .val (.ref a317), .val (.ref a320), .val (.ref a323), .val (.ref a339), .val .null, .val (.ref a354), .val (.ref a356), .unset, .unset, .unset] [(.int ((p2 &&& (255 : Int32)).toUInt32.toUInt16.toUInt32.toInt32)), (.int (23 : Int32)), (.ref a356)])) rfl rfl (hb hby at_270)
    refine Run.st (T367.setTop (mkF m 271 #[.val (.int p0), .val (.int p1), .val (.int p2), .val (.int p3), .val (.int ((p0 &&& (255 : Int32)).toUInt32.toUInt16.toUInt32.toInt32)), .val (.int (((XT.ushr p0 (8 : Int32)) &&& (255 : Int32)).toUInt32.toUInt16.toUInt32.toInt32)), .val (.int ((p1 &&& (255 : Int32)).toUInt32.toUInt16.toUInt32.toInt32)), .val (.int (((XT.ushr p1 (8 : Int32)) &&& (255 : Int32)).toUInt32.toUInt16.toUInt32.toInt32)), .val (.int ((p2 &&& (255 : Int32)).toUInt32.toUInt16.toUInt32.toInt32)), .val (.int (((XT.ushr p2 (8 : Int32)) &&& (255 : Int32)).toUInt32.toUInt16.toUInt32.toInt32)), .val (.int (0 : Int32)), .val (.ref a314), .val (.ref a317), .val (.ref a320), .val (.ref a323), .val (.ref a339), .val .null, .val (.ref a354), .val (.ref a356), .unset, .unset, .unset] [])) st367 ?_
    refine Run.st (T367.setTop (mkF m 277 #[.val (.int p0), .val (.int p1), .val (.int p2), .val (.int p3), .val (.int ((p0 &&& (255 : Int32)).toUInt32.toUInt16.toUInt32.toInt32)), .val (.int (((XT.ushr p0 (8 : Int32)) &&& (255 : Int32)).toUInt32.toUInt16.toUInt32.toInt32)), .val (.int ((p1 &&& (255 : Int32)).toUInt32.toUInt16.toUInt32.toInt32)), .val (.int (((XT.ushr p1 (8 : Int32)) &&& (255 : Int32)).toUInt32.toUInt16.toUInt32.toInt32)), .val (.int ((p2 &&& (255 : Int32)).toUInt32.toUInt16.toUInt32.toInt32)), .val (.int (((XT.ushr p2 (8 : Int32)) &&& (255 : Int32)).toUInt32.toUInt16.toUInt32.toInt32)), .val (.int (0 : Int32)), .val (.ref a314), .val (.ref a317), .val (.ref a320), .val (.ref a323), .val (.ref a339), .val .null, .val (.ref a354), .val (.ref a356), .unset, .unset, .unset] [(.int (((XT.ushr p2 (8 : Int32)) &&& (255 : Int32)).toUInt32.toUInt16.toUInt32.toInt32)), (.int (24 : Int32)), (.ref a356)])) (fun _ k => XS.aload A367.here hx rfl (hb hby at_271) rfl rfl (XS.bipush A367.here hx rfl (hb hby at_273) (XS.iload A367.here hx rfl (hb hby at_275) rfl k))) ?_
    obtain ⟨T368, h368, A368, K368, V368, st368⟩ := A367.stC hx V367 (List.mem_of_getElem? (i := 0) rfl) (j := (24 : Int32)) 24 rfl ⟨by decide, by decide⟩ (Nat.le_of_ble_eq_true rfl) (g := (mkF m 277 #[.val (.int p0), .val (.int p1), .val (.int p2), .val (.int p3), .val (.int ((p0 &&& (255 : Int32)).toUInt32.toUInt16.toUInt32.toInt32)), .val (.int (((XT.ushr p0 (8 : Int32)) &&& (255 : Int32)).toUInt32.toUInt16.toUInt32.toInt32)), .val (.int ((p1 &&& (255 : Int32)).toUInt32.toUInt16.toUInt32.toInt32)), .val (.int (((XT.ushr p1 (8 : Int32)) &&& (255 : Int32)).toUInt32.toUInt16.toUInt32.toInt32)), .val (.int ((p2 &&& (255 : Int32)).toUInt32.toUInt16.toUInt32.toInt32)), .val (.int (((XT.ushr p2 (8 : Int32)) &&& (255 : Int32)).toUInt32.toUInt16.toUInt32.toInt32)), .val (.int (0 : Int32)), .val (.ref a314), .val (.ref a317), .val (.ref a320), .val (.ref a323), .val (.ref a339), .val .null, .val (.ref a354), .val (.ref a356), .unset, .unset, .unset] [(.int (((XT.ushr p2 (8 : Int32)) &&& (255 : Int32)).toUInt32.toUInt16.toUInt32.toInt32)), (.int (24 : Int32)), (.ref a356)])) rfl rfl (hb hby at_277)
    refine Run.st (T368.setTop (mkF m 278 #[.val (.int p0), .val (.int p1), .val (.int p2), .val (.int p3), .val (.int ((p0 &&& (255 : Int32)).toUInt32.toUInt16.toUInt32.toInt32)), .val (.int (((XT.ushr p0 (8 : Int32)) &&& (255 : Int32)).toUInt32.toUInt16.toUInt32.toInt32)), .val (.int ((p1 &&& (255 : Int32)).toUInt32.toUInt16.toUInt32.toInt32)), .val (.int (((XT.ushr p1 (8 : Int32)) &&& (255 : Int32)).toUInt32.toUInt16.toUInt32.toInt32)), .val (.int ((p2 &&& (255 : Int32)).toUInt32.toUInt16.toUInt32.toInt32)), .val (.int (((XT.ushr p2 (8 : Int32)) &&& (255 : Int32)).toUInt32.toUInt16.toUInt32.toInt32)), .val (.int (0 : Int32)), .val (.ref a314), .val (.ref a317), .val (.ref a320), .val (.ref a323), .val (.ref a339), .val .null, .val (.ref a354), .val (.ref a356), .unset, .unset, .unset] [])) st368 ?_
    refine Run.st (T368.setTop (mkF m 295 #[.val (.int p0), .val (.int p1), .val (.int p2), .val (.int p3), .val (.int ((p0 &&& (255 : Int32)).toUInt32.toUInt16.toUInt32.toInt32)), .val (.int (((XT.ushr p0 (8 : Int32)) &&& (255 : Int32)).toUInt32.toUInt16.toUInt32.toInt32)), .val (.int ((p1 &&& (255 : Int32)).toUInt32.toUInt16.toUInt32.toInt32)), .val (.int (((XT.ushr p1 (8 : Int32)) &&& (255 : Int32)).toUInt32.toUInt16.toUInt32.toInt32)), .val (.int ((p2 &&& (255 : Int32)).toUInt32.toUInt16.toUInt32.toInt32)), .val (.int (((XT.ushr p2 (8 : Int32)) &&& (255 : Int32)).toUInt32.toUInt16.toUInt32.toInt32)), .val (.int (0 : Int32)), .val (.ref a314), .val (.ref a317), .val (.ref a320), .val (.ref a323), .val (.ref a339), .val .null, .val (.ref a354), .val (.ref a356), .unset, .unset, .unset] [])) (fun _ k => XS.iload A368.here hx rfl (hb hby at_278) rfl (XS.ifYes A368.here hx rfl (pc0 := 280) (pc' := 295) rfl (hb hby at_280) rfl (by decide) (by decide) (by decide) k)) ?_
    obtain ⟨a369, T369, h369, A369, E369, g369, Ex369, D369, st369⟩ := A368.newO hx (tw1 H.1) (tw2 H.1) (tw3 H.1) (g := (mkF m 295 #[.val (.int p0), .val (.int p1), .val (.int p2), .val (.int p3), .val (.int ((p0 &&& (255 : Int32)).toUInt32.toUInt16.toUInt32.toInt32)), .val (.int (((XT.ushr p0 (8 : Int32)) &&& (255 : Int32)).toUInt32.toUInt16.toUInt32.toInt32)), .val (.int ((p1 &&& (255 : Int32)).toUInt32.toUInt16.toUInt32.toInt32)), .val (.int (((XT.ushr p1 (8 : Int32)) &&& (255 : Int32)).toUInt32.toUInt16.toUInt32.toInt32)), .val (.int ((p2 &&& (255 : Int32)).toUInt32.toUInt16.toUInt32.toInt32)), .val (.int (((XT.ushr p2 (8 : Int32)) &&& (255 : Int32)).toUInt32.toUInt16.toUInt32.toInt32)), .val (.int (0 : Int32)), .val (.ref a314), .val (.ref a317), .val (.ref a320), .val (.ref a323), .val (.ref a339), .val .null, .val (.ref a354), .val (.ref a356), .unset, .unset, .unset] [])) rfl (hb hby at_295) (by decide) (by decide)
    refine Run.st (T369.setTop (mkF m 298 #[.val (.int p0), .val (.int p1), .val (.int p2), .val (.int p3), .val (.int ((p0 &&& (255 : Int32)).toUInt32.toUInt16.toUInt32.toInt32)), .val (.int (((XT.ushr p0 (8 : Int32)) &&& (255 : Int32)).toUInt32.toUInt16.toUInt32.toInt32)), .val (.int ((p1 &&& (255 : Int32)).toUInt32.toUInt16.toUInt32.toInt32)), .val (.int (((XT.ushr p1 (8 : Int32)) &&& (255 : Int32)).toUInt32.toUInt16.toUInt32.toInt32)), .val (.int ((p2 &&& (255 : Int32)).toUInt32.toUInt16.toUInt32.toInt32)), .val (.int (((XT.ushr p2 (8 : Int32)) &&& (255 : Int32)).toUInt32.toUInt16.toUInt32.toInt32)), .val (.int (0 : Int32)), .val (.ref a314), .val (.ref a317), .val (.ref a320), .val (.ref a323), .val (.ref a339), .val .null, .val (.ref a354), .val (.ref a356), .unset, .unset, .unset] [(.ref a369)])) st369 ?_
    refine Run.st (T369.setTop (mkF m 301 #[.val (.int p0), .val (.int p1), .val (.int p2), .val (.int p3), .val (.int ((p0 &&& (255 : Int32)).toUInt32.toUInt16.toUInt32.toInt32)), .val (.int (((XT.ushr p0 (8 : Int32)) &&& (255 : Int32)).toUInt32.toUInt16.toUInt32.toInt32)), .val (.int ((p1 &&& (255 : Int32)).toUInt32.toUInt16.toUInt32.toInt32)), .val (.int (((XT.ushr p1 (8 : Int32)) &&& (255 : Int32)).toUInt32.toUInt16.toUInt32.toInt32)), .val (.int ((p2 &&& (255 : Int32)).toUInt32.toUInt16.toUInt32.toInt32)), .val (.int (((XT.ushr p2 (8 : Int32)) &&& (255 : Int32)).toUInt32.toUInt16.toUInt32.toInt32)), .val (.int (0 : Int32)), .val (.ref a314), .val (.ref a317), .val (.ref a320), .val (.ref a323), .val (.ref a339), .val .null, .val (.ref a354), .val (.ref a356), .unset, .unset, .unset] [(.ref a354), (.ref a369), (.ref a369)])) (fun _ k => XS.dup A369.here hx rfl (hb hby at_298) rfl rfl (XS.aload A369.here hx rfl (hb hby at_299) rfl rfl k)) ?_
    have X371 : Ext h355 h356 := E356
    have X372 : Ext h355 h357 := extK X371 K357 (allS (Nat.le_of_eq g356) all0)
    have X373 : Ext h355 h358 := extK X372 K358 (allS (Nat.le_of_eq g356) all0)
    have X374 : Ext h355 h359 := extK X373 K359 (allS (Nat.le_of_eq g356) all0)
    have X375 : Ext h355 h360 := extK X374 K360 (allS (Nat.le_of_eq g356) all0)
    have X376 : Ext h355 h361 := extK X375 K361 (allS (Nat.le_of_eq g356) all0)
    have X377 : Ext h355 h362 := extK X376 K362 (allS (Nat.le_of_eq g356) all0)
    have X378 : Ext h355 h363 := extK X377 K363 (allS (Nat.le_of_eq g356) all0)
    have X379 : Ext h355 h364 := extK X378 K364 (allS (Nat.le_of_eq g356) all0)
    have X380 : Ext h355 h365 := extK X379 K365 (allS (Nat.le_of_eq g356) all0)
    have X381 : Ext h355 h366 := extK X380 K366 (allS (Nat.le_of_eq g356) all0)
    have X382 : Ext h355 h367 := extK X381 K367 (allS (Nat.le_of_eq g356) all0)
    have X383 : Ext h355 h368 := extK X382 K368 (allS (Nat.le_of_eq g356) all0)
    have X384 : Ext h355 h369 := (extT X383 E369)
    have f385 := Vh355.ext X384
    have V386 : Arv Z h369 a354 kA354 .char (14 : Int32) [(.int (nar .char (67 : Int32))), (.int (nar .char (65 : Int32))), (.int (nar .char (83 : Int32))), (.int (nar .char (84 : Int32))), (.int (nar .char (40 : Int32))), (.int (nar .char ((p0 &&& (255 : Int32)).toUInt32.toUInt16.toUInt32.toInt32))), (.int (nar .char (((XT.ushr p0 (8 : Int32)) &&& (255 : Int32)).toUInt32.toUInt16.toUInt32.toInt32))), (.int (nar .char (32 : Int32))), (.int (nar .char (65 : Int32))), (.int (nar .char (83 : Int32))), (.int (nar .char (32 : Int32))), (.int (nar .char ((p1 &&& (255 : Int32)).toUInt32.toUInt16.toUInt32.toInt32))), (.int (nar .char (((XT.ushr p1 (8 : Int32)) &&& (255 : Int32)).toUInt32.toUInt16.toUInt32.toInt32))), (.int (nar .char (41 : Int32)))] (.int (0 : Int32)) := f385
    rw [show nar .char (67 : Int32) = (67 : Int32) from rfl, show nar .char (65 : Int32) = (65 : Int32) from rfl, show nar .char (83 : Int32) = (83 : Int32) from rfl, show nar .char (84 : Int32) = (84 : Int32) from rfl, show nar .char (40 : Int32) = (40 : Int32) from rfl, c8n p0, c8n (XT.ushr p0 (8 : Int32)), show nar .char (32 : Int32) = (32 : Int32) from rfl, c8n p1, c8n (XT.ushr p1 (8 : Int32)), show nar .char (41 : Int32) = (41 : Int32) from rfl] at V386
    have F387 : Fld Z h369 a369 "java/lang/String" "value" "[B" .null := D369 (Or.inr (tw29 H.1)) (ty := (.array .byte)) (by decide)
    have F388 : Fld Z h369 a369 "java/lang/String" "coder" "B" (.int 0) := D369 (Or.inr (tw27 H.1)) (ty := .byte) (by decide)
    obtain ⟨v370, T370, h370, AA370, K370, ⟨L370, Q370⟩, st370⟩ := A369.callI hx (y := (⟨"java/lang/String", "<init>", "([C)V"⟩ : MethodName)) rfl (tw4 H.1) (tw5 H.1) (tw6 H.1) (by decide) (g := (mkF m 301 #[.val (.int p0), .val (.int p1), .val (.int p2), .val (.int p3), .val (.int ((p0 &&& (255 : Int32)).toUInt32.toUInt16.toUInt32.toInt32)), .val (.int (((XT.ushr p0 (8 : Int32)) &&& (255 : Int32)).toUInt32.toUInt16.toUInt32.toInt32)), .val (.int ((p1 &&& (255 : Int32)).toUInt32.toUInt16.toUInt32.toInt32)), .val (.int (((XT.ushr p1 (8 : Int32)) &&& (255 : Int32)).toUInt32.toUInt16.toUInt32.toInt32)), .val (.int ((p2 &&& (255 : Int32)).toUInt32.toUInt16.toUInt32.toInt32)), .val (.int (((XT.ushr p2 (8 : Int32)) &&& (255 : Int32)).toUInt32.toUInt16.toUInt32.toInt32)), .val (.int (0 : Int32)), .val (.ref a314), .val (.ref a317), .val (.ref a320), .val (.ref a323), .val (.ref a339), .val .null, .val (.ref a354), .val (.ref a356), .unset, .unset, .unset] [(.ref a354), (.ref a369), (.ref a369)])) rfl (by rw [hml]; rfl) a369 [(.ref a354)] [(.ref a369)] (lenOf pd_20 rfl) rfl (Wd := 1) (by show 2 * 0 + _ ≤ _; exact Nat.le_of_eq rfl) (hb hby at_301) (by decide) (by decide) [a369] (fun _ _ _ q => q.2.1) (allS (List.mem_of_getElem? (i := 0) rfl) all0) (fun vm0 hZ => payStr (nn := 14) H A369.old (A369.nle (List.mem_of_getElem? (i := 0) rfl)) Ex369 F387 F388 (cs := [(67 : Int32), (65 : Int32), (83 : Int32), (84 : Int32), (40 : Int32), (p0 &&& (255 : Int32)), ((XT.ushr p0 (8 : Int32)) &&& (255 : Int32)), (32 : Int32), (65 : Int32), (83 : Int32), (32 : Int32), (p1 &&& (255 : Int32)), ((XT.ushr p1 (8 : Int32)) &&& (255 : Int32)), (41 : Int32)]) V386 rfl rfl (by decide) (by decide) (chsS (by decide) (chsS (by decide) (chsS (by decide) (chsS (by decide) (chsS (by decide) (chsS (c8r p0) (chsS (c8r (XT.ushr p0 (8 : Int32))) (chsS (by decide) (chsS (by decide) (chsS (by decide) (chsS (by decide) (chsS (c8r p1) (chsS (c8r (XT.ushr p1 (8 : Int32))) (chsS (by decide) chs0)))))))))))))) (by decide) (by decide) hZ)
    obtain ⟨rfl, -, S370⟩ := Q370
    have A370 := AA370 [] all0
    refine Run.st (T370.setTop (mkF m 304 #[.val (.int p0), .val (.int p1), .val (.int p2), .val (.int p3), .val (.int ((p0 &&& (255 : Int32)).toUInt32.toUInt16.toUInt32.toInt32)), .val (.int (((XT.ushr p0 (8 : Int32)) &&& (255 : Int32)).toUInt32.toUInt16.toUInt32.toInt32)), .val (.int ((p1 &&& (255 : Int32)).toUInt32.toUInt16.toUInt32.toInt32)), .val (.int (((XT.ushr p1 (8 : Int32)) &&& (255 : Int32)).toUInt32.toUInt16.toUInt32.toInt32)), .val (.int ((p2 &&& (255 : Int32)).toUInt32.toUInt16.toUInt32.toInt32)), .val (.int (((XT.ushr p2 (8 : Int32)) &&& (255 : Int32)).toUInt32.toUInt16.toUInt32.toInt32)), .val (.int (0 : Int32)), .val (.ref a314), .val (.ref a317), .val (.ref a320), .val (.ref a323), .val (.ref a339), .val .null, .val (.ref a354), .val (.ref a356), .unset, .unset, .unset] [(.ref a369)])) st370 ?_
    refine Run.st (T370.setTop (mkF m 306 #[.val (.int p0), .val (.int p1), .val (.int p2), .val (.int p3), .val (.int ((p0 &&& (255 : Int32)).toUInt32.toUInt16.toUInt32.toInt32)), .val (.int (((XT.ushr p0 (8 : Int32)) &&& (255 : Int32)).toUInt32.toUInt16.toUInt32.toInt32)), .val (.int ((p1 &&& (255 : Int32)).toUInt32.toUInt16.toUInt32.toInt32)), .val (.int (((XT.ushr p1 (8 : Int32)) &&& (255 : Int32)).toUInt32.toUInt16.toUInt32.toInt32)), .val (.int ((p2 &&& (255 : Int32)).toUInt32.toUInt16.toUInt32.toInt32)), .val (.int (((XT.ushr p2 (8 : Int32)) &&& (255 : Int32)).toUInt32.toUInt16.toUInt32.toInt32)), .val (.int (0 : Int32)), .val (.ref a314), .val (.ref a317), .val (.ref a320), .val (.ref a323), .val (.ref a339), .val .null, .val (.ref a354), .val (.ref a356), .val (.ref a369), .unset, .unset] [])) (fun _ k => XS.astore A370.here hx rfl (hb hby at_304) rfl rfl (l' := #[.val (.int p0), .val (.int p1), .val (.int p2), .val (.int p3), .val (.int ((p0 &&& (255 : Int32)).toUInt32.toUInt16.toUInt32.toInt32)), .val (.int (((XT.ushr p0 (8 : Int32)) &&& (255 : Int32)).toUInt32.toUInt16.toUInt32.toInt32)), .val (.int ((p1 &&& (255 : Int32)).toUInt32.toUInt16.toUInt32.toInt32)), .val (.int (((XT.ushr p1 (8 : Int32)) &&& (255 : Int32)).toUInt32.toUInt16.toUInt32.toInt32)), .val (.int ((p2 &&& (255 : Int32)).toUInt32.toUInt16.toUInt32.toInt32)), .val (.int (((XT.ushr p2 (8 : Int32)) &&& (255 : Int32)).toUInt32.toUInt16.toUInt32.toInt32)), .val (.int (0 : Int32)), .val (.ref a314), .val (.ref a317), .val (.ref a320), .val (.ref a323), .val (.ref a339), .val .null, .val (.ref a354), .val (.ref a356), .val (.ref a369), .unset, .unset]) rfl k) ?_
    obtain ⟨a389, T389, h389, A389, E389, g389, Ex389, D389, st389⟩ := A370.newO hx (tw34 H.1) (tw35 H.1) (tw36 H.1) (g := (mkF m 306 #[.val (.int p0), .val (.int p1), .val (.int p2), .val (.int p3), .val (.int ((p0 &&& (255 : Int32)).toUInt32.toUInt16.toUInt32.toInt32)), .val (.int (((XT.ushr p0 (8 : Int32)) &&& (255 : Int32)).toUInt32.toUInt16.toUInt32.toInt32)), .val (.int ((p1 &&& (255 : Int32)).toUInt32.toUInt16.toUInt32.toInt32)), .val (.int (((XT.ushr p1 (8 : Int32)) &&& (255 : Int32)).toUInt32.toUInt16.toUInt32.toInt32)), .val (.int ((p2 &&& (255 : Int32)).toUInt32.toUInt16.toUInt32.toInt32)), .val (.int (((XT.ushr p2 (8 : Int32)) &&& (255 : Int32)).toUInt32.toUInt16.toUInt32.toInt32)), .val (.int (0 : Int32)), .val (.ref a314), .val (.ref a317), .val (.ref a320), .val (.ref a323), .val (.ref a339), .val .null, .val (.ref a354), .val (.ref a356), .val (.ref a369), .unset, .unset] [])) rfl (hb hby at_306) (by decide) (by decide)
    refine Run.st (T389.setTop (mkF m 309 #[.val (.int p0), .val (.int p1), .val (.int p2), .val (.int p3), .val (.int ((p0 &&& (255 : Int32)).toUInt32.toUInt16.toUInt32.toInt32)), .val (.int (((XT.ushr p0 (8 : Int32)) &&& (255 : Int32)).toUInt32.toUInt16.toUInt32.toInt32)), .val (.int ((p1 &&& (255 : Int32)).toUInt32.toUInt16.toUInt32.toInt32)), .val (.int (((XT.ushr p1 (8 : Int32)) &&& (255 : Int32)).toUInt32.toUInt16.toUInt32.toInt32)), .val (.int ((p2 &&& (255 : Int32)).toUInt32.toUInt16.toUInt32.toInt32)), .val (.int (((XT.ushr p2 (8 : Int32)) &&& (255 : Int32)).toUInt32.toUInt16.toUInt32.toInt32)), .val (.int (0 : Int32)), .val (.ref a314), .val (.ref a317), .val (.ref a320), .val (.ref a323), .val (.ref a339), .val .null, .val (.ref a354), .val (.ref a356), .val (.ref a369), .unset, .unset] [(.ref a389)])) st389 ?_
    refine Run.st (T389.setTop (mkF m 314 #[.val (.int p0), .val (.int p1), .val (.int p2), .val (.int p3), .val (.int ((p0 &&& (255 : Int32)).toUInt32.toUInt16.toUInt32.toInt32)), .val (.int (((XT.ushr p0 (8 : Int32)) &&& (255 : Int32)).toUInt32.toUInt16.toUInt32.toInt32)), .val (.int ((p1 &&& (255 : Int32)).toUInt32.toUInt16.toUInt32.toInt32)), .val (.int (((XT.ushr p1 (8 : Int32)) &&& (255 : Int32)).toUInt32.toUInt16.toUInt32.toInt32)), .val (.int ((p2 &&& (255 : Int32)).toUInt32.toUInt16.toUInt32.toInt32)), .val (.int (((XT.ushr p2 (8 : Int32)) &&& (255 : Int32)).toUInt32.toUInt16.toUInt32.toInt32)), .val (.int (0 : Int32)), .val (.ref a314), .val (.ref a317), .val (.ref a320), .val (.ref a323), .val (.ref a339), .val .null, .val (.ref a354), .val (.ref a356), .val (.ref a369), .unset, .unset] [.null, (.ref a339), (.ref a389), (.ref a389)])) (fun _ k => XS.dup A389.here hx rfl (hb hby at_309) rfl rfl (XS.aload A389.here hx rfl (hb hby at_310) rfl rfl (XS.aload A389.here hx rfl (hb hby at_312) rfl rfl k))) ?_
    have F391 : Fld Z h389 a389 "org/grantpath/TableSchema$Comparison" "type" "Ljava/lang/String;" .null := D389 (Or.inr (tw47 H.1)) (ty := (.object "java/lang/String")) (by decide)
    have F392 : Fld Z h389 a389 "org/grantpath/TableSchema$Comparison" "collation" "Ljava/lang/String;" .null := D389 (Or.inr (tw49 H.1)) (ty := (.object "java/lang/String")) (by decide)
    obtain ⟨v390, T390, h390, AA390, K390, ⟨L390, Q390⟩, st390⟩ := A389.callI hx (y := (⟨"org/grantpath/TableSchema$Comparison", "<init>", "(Ljava/lang/String;Ljava/lang/String;)V"⟩ : MethodName)) rfl (tw37 H.1) (tw38 H.1) (tw39 H.1) (by decide) (g := (mkF m 314 #[.val (.int p0), .val (.int p1), .val (.int p2), .val (.int p3), .val (.int ((p0 &&& (255 : Int32)).toUInt32.toUInt16.toUInt32.toInt32)), .val (.int (((XT.ushr p0 (8 : Int32)) &&& (255 : Int32)).toUInt32.toUInt16.toUInt32.toInt32)), .val (.int ((p1 &&& (255 : Int32)).toUInt32.toUInt16.toUInt32.toInt32)), .val (.int (((XT.ushr p1 (8 : Int32)) &&& (255 : Int32)).toUInt32.toUInt16.toUInt32.toInt32)), .val (.int ((p2 &&& (255 : Int32)).toUInt32.toUInt16.toUInt32.toInt32)), .val (.int (((XT.ushr p2 (8 : Int32)) &&& (255 : Int32)).toUInt32.toUInt16.toUInt32.toInt32)), .val (.int (0 : Int32)), .val (.ref a314), .val (.ref a317), .val (.ref a320), .val (.ref a323), .val (.ref a339), .val .null, .val (.ref a354), .val (.ref a356), .val (.ref a369), .unset, .unset] [.null, (.ref a339), (.ref a389), (.ref a389)])) rfl (by rw [hml]; rfl) a389 [(.ref a339), .null] [(.ref a389)] (lenOf pd_22 rfl) rfl (Wd := 1) (by show 2 * 0 + _ ≤ _; exact Nat.le_of_eq rfl) (hb hby at_314) (by decide) (by decide) [a389] (fun _ _ _ q => q.2) (allS (List.mem_of_getElem? (i := 0) rfl) all0) (fun vm0 hZ => payN (ct_cmp H a389 a339 .null .null .null A389.old Ex389 (A389.nle (List.mem_of_getElem? (i := 0) rfl)) Ex389.lt F391 F392 rfl) (tw39 H.1) (tw36 H.1) (by decide) (by decide) hZ)
    obtain ⟨Q390, N390, -⟩ := Q390
    obtain ⟨rfl, Ec390, Fc390_type, Fc390_collation⟩ := Q390
    have A390 := AA390 [] all0
    refine Run.st (T390.setTop (mkF m 317 #[.val (.int p0), .val (.int p1), .val (.int p2), .val (.int p3), .val (.int ((p0 &&& (255 : Int32)).toUInt32.toUInt16.toUInt32.toInt32)), .val (.int (((XT.ushr p0 (8 : Int32)) &&& (255 : Int32)).toUInt32.toUInt16.toUInt32.toInt32)), .val (.int ((p1 &&& (255 : Int32)).toUInt32.toUInt16.toUInt32.toInt32)), .val (.int (((XT.ushr p1 (8 : Int32)) &&& (255 : Int32)).toUInt32.toUInt16.toUInt32.toInt32)), .val (.int ((p2 &&& (255 : Int32)).toUInt32.toUInt16.toUInt32.toInt32)), .val (.int (((XT.ushr p2 (8 : Int32)) &&& (255 : Int32)).toUInt32.toUInt16.toUInt32.toInt32)), .val (.int (0 : Int32)), .val (.ref a314), .val (.ref a317), .val (.ref a320), .val (.ref a323), .val (.ref a339), .val .null, .val (.ref a354), .val (.ref a356), .val (.ref a369), .unset, .unset] [(.ref a389)])) st390 ?_
    refine Run.st (T390.setTop (mkF m 323 #[.val (.int p0), .val (.int p1), .val (.int p2), .val (.int p3), .val (.int ((p0 &&& (255 : Int32)).toUInt32.toUInt16.toUInt32.toInt32)), .val (.int (((XT.ushr p0 (8 : Int32)) &&& (255 : Int32)).toUInt32.toUInt16.toUInt32.toInt32)), .val (.int ((p1 &&& (255 : Int32)).toUInt32.toUInt16.toUInt32.toInt32)), .val (.int (((XT.ushr p1 (8 : Int32)) &&& (255 : Int32)).toUInt32.toUInt16.toUInt32.toInt32)), .val (.int ((p2 &&& (255 : Int32)).toUInt32.toUInt16.toUInt32.toInt32)), .val (.int (((XT.ushr p2 (8 : Int32)) &&& (255 : Int32)).toUInt32.toUInt16.toUInt32.toInt32)), .val (.int (0 : Int32)), .val (.ref a314), .val (.ref a317), .val (.ref a320), .val (.ref a323), .val (.ref a339), .val .null, .val (.ref a354), .val (.ref a356), .val (.ref a369), .val (.ref a389), .unset] [(.ref a323), (.ref a389)])) (fun _ k => XS.astore A390.here hx rfl (hb hby at_317) rfl rfl (l' := #[.val (.int p0), .val (.int p1), .val (.int p2), .val (.int p3), .val (.int ((p0 &&& (255 : Int32)).toUInt32.toUInt16.toUInt32.toInt32)), .val (.int (((XT.ushr p0 (8 : Int32)) &&& (255 : Int32)).toUInt32.toUInt16.toUInt32.toInt32)), .val (.int ((p1 &&& (255 : Int32)).toUInt32.toUInt16.toUInt32.toInt32)), .val (.int (((XT.ushr p1 (8 : Int32)) &&& (255 : Int32)).toUInt32.toUInt16.toUInt32.toInt32)), .val (.int ((p2 &&& (255 : Int32)).toUInt32.toUInt16.toUInt32.toInt32)), .val (.int (((XT.ushr p2 (8 : Int32)) &&& (255 : Int32)).toUInt32.toUInt16.toUInt32.toInt32)), .val (.int (0 : Int32)), .val (.ref a314), .val (.ref a317), .val (.ref a320), .val (.ref a323), .val (.ref a339), .val .null, .val (.ref a354), .val (.ref a356), .val (.ref a369), .val (.ref a389), .unset]) rfl (XS.aload A390.here hx rfl (hb hby at_319) rfl rfl (XS.aload A390.here hx rfl (hb hby at_321) rfl rfl k))) ?_
    have Z394 : h324.size ≤ h339.size := E339.1
    have Z395 : h324.size ≤ h340.size := Nat.le_trans Z394 K340.1
    have Z396 : h324.size ≤ h354.size := Nat.le_trans Z395 E354.1
    have Z397 : h324.size ≤ h355.size := Nat.le_trans Z396 K355.1
    have Z398 : h324.size ≤ h356.size := Nat.le_trans Z397 E356.1
    have Z399 : h324.size ≤ h357.size := Nat.le_trans Z398 K357.1
    have Z400 : h324.size ≤ h358.size := Nat.le_trans Z399 K358.1
    have Z401 : h324.size ≤ h359.size := Nat.le_trans Z400 K359.1
    have Z402 : h324.size ≤ h360.size := Nat.le_trans Z401 K360.1
    have Z403 : h324.size ≤ h361.size := Nat.le_trans Z402 K361.1
    have Z404 : h324.size ≤ h362.size := Nat.le_trans Z403 K362.1
    have Z405 : h324.size ≤ h363.size := Nat.le_trans Z404 K363.1
    have Z406 : h324.size ≤ h364.size := Nat.le_trans Z405 K364.1
    have Z407 : h324.size ≤ h365.size := Nat.le_trans Z406 K365.1
    have Z408 : h324.size ≤ h366.size := Nat.le_trans Z407 K366.1
    have Z409 : h324.size ≤ h367.size := Nat.le_trans Z408 K367.1
    have Z410 : h324.size ≤ h368.size := Nat.le_trans Z409 K368.1
    have Z411 : h324.size ≤ h369.size := Nat.le_trans Z410 E369.1
    have Z412 : h324.size ≤ h370.size := Nat.le_trans Z411 K370.1
    have X413 : Ext h324 h339 := E339
    have X414 : Ext h324 h340 := extK X413 K340 (allS (Nat.le_of_eq g339) all0)
    have X415 : Ext h324 h354 := (extT X414 E354)
    have X416 : Ext h324 h355 := extK X415 K355 (allS (Nat.le_trans Z395 (Nat.le_of_eq g354)) all0)
    have X417 : Ext h324 h356 := (extT X416 E356)
    have X418 : Ext h324 h357 := extK X417 K357 (allS (Nat.le_trans Z397 (Nat.le_of_eq g356)) all0)
    have X419 : Ext h324 h358 := extK X418 K358 (allS (Nat.le_trans Z397 (Nat.le_of_eq g356)) all0)
    have X420 : Ext h324 h359 := extK X419 K359 (allS (Nat.le_trans Z397 (Nat.le_of_eq g356)) all0)
    have X421 : Ext h324 h360 := extK X420 K360 (allS (Nat.le_trans Z397 (Nat.le_of_eq g356)) all0)
    have X422 : Ext h324 h361 := extK X421 K361 (allS (Nat.le_trans Z397 (Nat.le_of_eq g356)) all0)
    have X423 : Ext h324 h362 := extK X422 K362 (allS (Nat.le_trans Z397 (Nat.le_of_eq g356)) all0)
    have X424 : Ext h324 h363 := extK X423 K363 (allS (Nat.le_trans Z397 (Nat.le_of_eq g356)) all0)
    have X425 : Ext h324 h364 := extK X424 K364 (allS (Nat.le_trans Z397 (Nat.le_of_eq g356)) all0)
    have X426 : Ext h324 h365 := extK X425 K365 (allS (Nat.le_trans Z397 (Nat.le_of_eq g356)) all0)
    have X427 : Ext h324 h366 := extK X426 K366 (allS (Nat.le_trans Z397 (Nat.le_of_eq g356)) all0)
    have X428 : Ext h324 h367 := extK X427 K367 (allS (Nat.le_trans Z397 (Nat.le_of_eq g356)) all0)
    have X429 : Ext h324 h368 := extK X428 K368 (allS (Nat.le_trans Z397 (Nat.le_of_eq g356)) all0)
    have X430 : Ext h324 h369 := (extT X429 E369)
    have X431 : Ext h324 h370 := extK X430 K370 (allS (Nat.le_trans Z410 (Nat.le_of_eq g369)) all0)
    have X432 : Ext h324 h389 := (extT X431 E389)
    have X433 : Ext h324 h390 := extK X432 K390 (allS (Nat.le_trans Z412 (Nat.le_of_eq g389)) all0)
    have f434 := S324.ext X433
    have Z435 : h340.size ≤ h354.size := E354.1
    have Z436 : h340.size ≤ h355.size := Nat.le_trans Z435 K355.1
    have Z437 : h340.size ≤ h356.size := Nat.le_trans Z436 E356.1
    have Z438 : h340.size ≤ h357.size := Nat.le_trans Z437 K357.1
    have Z439 : h340.size ≤ h358.size := Nat.le_trans Z438 K358.1
    have Z440 : h340.size ≤ h359.size := Nat.le_trans Z439 K359.1
    have Z441 : h340.size ≤ h360.size := Nat.le_trans Z440 K360.1
    have Z442 : h340.size ≤ h361.size := Nat.le_trans Z441 K361.1
    have Z443 : h340.size ≤ h362.size := Nat.le_trans Z442 K362.1
    have Z444 : h340.size ≤ h363.size := Nat.le_trans Z443 K363.1
    have Z445 : h340.size ≤ h364.size := Nat.le_trans Z444 K364.1
    have Z446 : h340.size ≤ h365.size := Nat.le_trans Z445 K365.1
    have Z447 : h340.size ≤ h366.size := Nat.le_trans Z446 K366.1
    have Z448 : h340.size ≤ h367.size := Nat.le_trans Z447 K367.1
    have Z449 : h340.size ≤ h368.size := Nat.le_trans Z448 K368.1
    have Z450 : h340.size ≤ h369.size := Nat.le_trans Z449 E369.1
    have Z451 : h340.size ≤ h370.size := Nat.le_trans Z450 K370.1
    have X452 : Ext h340 h354 := E354
    have X453 : Ext h340 h355 := extK X452 K355 (allS (Nat.le_of_eq g354) all0)
    have X454 : Ext h340 h356 := (extT X453 E356)
    have X455 : Ext h340 h357 := extK X454 K357 (allS (Nat.le_trans Z436 (Nat.le_of_eq g356)) all0)
    have X456 : Ext h340 h358 := extK X455 K358 (allS (Nat.le_trans Z436 (Nat.le_of_eq g356)) all0)
    have X457 : Ext h340 h359 := extK X456 K359 (allS (Nat.le_trans Z436 (Nat.le_of_eq g356)) all0)
    have X458 : Ext h340 h360 := extK X457 K360 (allS (Nat.le_trans Z436 (Nat.le_of_eq g356)) all0)
    have X459 : Ext h340 h361 := extK X458 K361 (allS (Nat.le_trans Z436 (Nat.le_of_eq g356)) all0)
    have X460 : Ext h340 h362 := extK X459 K362 (allS (Nat.le_trans Z436 (Nat.le_of_eq g356)) all0)
    have X461 : Ext h340 h363 := extK X460 K363 (allS (Nat.le_trans Z436 (Nat.le_of_eq g356)) all0)
    have X462 : Ext h340 h364 := extK X461 K364 (allS (Nat.le_trans Z436 (Nat.le_of_eq g356)) all0)
    have X463 : Ext h340 h365 := extK X462 K365 (allS (Nat.le_trans Z436 (Nat.le_of_eq g356)) all0)
    have X464 : Ext h340 h366 := extK X463 K366 (allS (Nat.le_trans Z436 (Nat.le_of_eq g356)) all0)
    have X465 : Ext h340 h367 := extK X464 K367 (allS (Nat.le_trans Z436 (Nat.le_of_eq g356)) all0)
    have X466 : Ext h340 h368 := extK X465 K368 (allS (Nat.le_trans Z436 (Nat.le_of_eq g356)) all0)
    have X467 : Ext h340 h369 := (extT X466 E369)
    have X468 : Ext h340 h370 := extK X467 K370 (allS (Nat.le_trans Z449 (Nat.le_of_eq g369)) all0)
    have X469 : Ext h340 h389 := (extT X468 E389)
    have X470 : Ext h340 h390 := extK X469 K390 (allS (Nat.le_trans Z451 (Nat.le_of_eq g389)) all0)
    have f471 := S340.ext X470
    obtain ⟨v393, T393, h393, A393, K393, ⟨L393, Q393⟩, st393⟩ := A390.callVW hx (y := (⟨"org/grantpath/TableSchema$Comparison", "of", "(Ljava/lang/String;)Ljava/lang/String;"⟩ : MethodName)) (z := (⟨"org/grantpath/TableSchema$Comparison", "of", "(Ljava/lang/String;)Ljava/lang/String;"⟩ : MethodName)) (tw50 H.1) (tw51 H.1) (tw53 H.1) (tw52 H.1) (nfSel (tw53 H.1)) (by decide) Ec390 (g := (mkF m 323 #[.val (.int p0), .val (.int p1), .val (.int p2), .val (.int p3), .val (.int ((p0 &&& (255 : Int32)).toUInt32.toUInt16.toUInt32.toInt32)), .val (.int (((XT.ushr p0 (8 : Int32)) &&& (255 : Int32)).toUInt32.toUInt16.toUInt32.toInt32)), .val (.int ((p1 &&& (255 : Int32)).toUInt32.toUInt16.toUInt32.toInt32)), .val (.int (((XT.ushr p1 (8 : Int32)) &&& (255 : Int32)).toUInt32.toUInt16.toUInt32.toInt32)), .val (.int ((p2 &&& (255 : Int32)).toUInt32.toUInt16.toUInt32.toInt32)), .val (.int (((XT.ushr p2 (8 : Int32)) &&& (255 : Int32)).toUInt32.toUInt16.toUInt32.toInt32)), .val (.int (0 : Int32)), .val (.ref a314), .val (.ref a317), .val (.ref a320), .val (.ref a323), .val (.ref a339), .val .null, .val (.ref a354), .val (.ref a356), .val (.ref a369), .val (.ref a389), .unset] [(.ref a323), (.ref a389)])) rfl (by rw [hml]; rfl) [(.ref a323)] [] (lenOf pd_23 rfl) rfl (Wd := 0) (by show 2 * 0 + _ ≤ _; exact Nat.le_of_eq rfl) (hb hby at_323) (by decide) (by decide) [] (fun _ _ _ q => q.2) all0 (fun vm0 hZ hE hC hS => payW (ct_of0 H a389 a323 (p0 &&& (255 : Int32)) ((XT.ushr p0 (8 : Int32)) &&& (255 : Int32)) a339 (p1 &&& (255 : Int32)) ((XT.ushr p1 (8 : Int32)) &&& (255 : Int32)) A390.old Fc390_type Fc390_collation f434 f471) (tw54 H.1) (tw36 H.1) (by decide) (by decide) hZ hE hC hS)
    obtain ⟨Q393, N393, -⟩ := Q393
    obtain ⟨a393, rfl, X393, S393⟩ := Q393
    refine Run.st (T393.setTop (mkF m 326 #[.val (.int p0), .val (.int p1), .val (.int p2), .val (.int p3), .val (.int ((p0 &&& (255 : Int32)).toUInt32.toUInt16.toUInt32.toInt32)), .val (.int (((XT.ushr p0 (8 : Int32)) &&& (255 : Int32)).toUInt32.toUInt16.toUInt32.toInt32)), .val (.int ((p1 &&& (255 : Int32)).toUInt32.toUInt16.toUInt32.toInt32)), .val (.int (((XT.ushr p1 (8 : Int32)) &&& (255 : Int32)).toUInt32.toUInt16.toUInt32.toInt32)), .val (.int ((p2 &&& (255 : Int32)).toUInt32.toUInt16.toUInt32.toInt32)), .val (.int (((XT.ushr p2 (8 : Int32)) &&& (255 : Int32)).toUInt32.toUInt16.toUInt32.toInt32)), .val (.int (0 : Int32)), .val (.ref a314), .val (.ref a317), .val (.ref a320), .val (.ref a323), .val (.ref a339), .val .null, .val (.ref a354), .val (.ref a356), .val (.ref a369), .val (.ref a389), .unset] [(.ref a393)])) st393 ?_
    refine Run.st (T393.setTop (mkF m 337 #[.val (.int p0), .val (.int p1), .val (.int p2), .val (.int p3), .val (.int ((p0 &&& (255 : Int32)).toUInt32.toUInt16.toUInt32.toInt32)), .val (.int (((XT.ushr p0 (8 : Int32)) &&& (255 : Int32)).toUInt32.toUInt16.toUInt32.toInt32)), .val (.int ((p1 &&& (255 : Int32)).toUInt32.toUInt16.toUInt32.toInt32)), .val (.int (((XT.ushr p1 (8 : Int32)) &&& (255 : Int32)).toUInt32.toUInt16.toUInt32.toInt32)), .val (.int ((p2 &&& (255 : Int32)).toUInt32.toUInt16.toUInt32.toInt32)), .val (.int (((XT.ushr p2 (8 : Int32)) &&& (255 : Int32)).toUInt32.toUInt16.toUInt32.toInt32)), .val (.int (0 : Int32)), .val (.ref a314), .val (.ref a317), .val (.ref a320), .val (.ref a323), .val (.ref a339), .val .null, .val (.ref a354), .val (.ref a356), .val (.ref a369), .val (.ref a389), .val (.ref a393)] [(.ref a369), (.ref a393)])) (fun _ k => XS.astore A393.here hx rfl (hb hby at_326) rfl rfl (l' := #[.val (.int p0), .val (.int p1), .val (.int p2), .val (.int p3), .val (.int ((p0 &&& (255 : Int32)).toUInt32.toUInt16.toUInt32.toInt32)), .val (.int (((XT.ushr p0 (8 : Int32)) &&& (255 : Int32)).toUInt32.toUInt16.toUInt32.toInt32)), .val (.int ((p1 &&& (255 : Int32)).toUInt32.toUInt16.toUInt32.toInt32)), .val (.int (((XT.ushr p1 (8 : Int32)) &&& (255 : Int32)).toUInt32.toUInt16.toUInt32.toInt32)), .val (.int ((p2 &&& (255 : Int32)).toUInt32.toUInt16.toUInt32.toInt32)), .val (.int (((XT.ushr p2 (8 : Int32)) &&& (255 : Int32)).toUInt32.toUInt16.toUInt32.toInt32)), .val (.int (0 : Int32)), .val (.ref a314), .val (.ref a317), .val (.ref a320), .val (.ref a323), .val (.ref a339), .val .null, .val (.ref a354), .val (.ref a356), .val (.ref a369), .val (.ref a389), .val (.ref a393)]) rfl (XS.aload A393.here hx rfl (hb hby at_328) rfl rfl (XS.ifnullNo A393.here hx rfl (hb hby at_330) rfl (XS.aload A393.here hx rfl (hb hby at_333) rfl rfl (XS.aload A393.here hx rfl (hb hby at_335) rfl rfl k))))) ?_
    have X473 : Ext h370 h389 := E389
    have X474 : Ext h370 h390 := extK X473 K390 (allS (Nat.le_of_eq g389) all0)
    have X475 : Ext h370 h393 := (extT X474 X393)
    have f476 := S370.ext X475
    obtain ⟨v472, T472, h472, AA472, K472, ⟨L472, Q472⟩, st472⟩ := A393.callV hx (y := (⟨"java/lang/String", "equals", "(Ljava/lang/Object;)Z"⟩ : MethodName)) (z := (⟨"java/lang/String", "equals", "(Ljava/lang/Object;)Z"⟩ : MethodName)) (tw188 H.1) (tw189 H.1) (tw191 H.1) (tw190 H.1) (nfSel (tw191 H.1)) (by decide) S393.1 (g := (mkF m 337 #[.val (.int p0), .val (.int p1), .val (.int p2), .val (.int p3), .val (.int ((p0 &&& (255 : Int32)).toUInt32.toUInt16.toUInt32.toInt32)), .val (.int (((XT.ushr p0 (8 : Int32)) &&& (255 : Int32)).toUInt32.toUInt16.toUInt32.toInt32)), .val (.int ((p1 &&& (255 : Int32)).toUInt32.toUInt16.toUInt32.toInt32)), .val (.int (((XT.ushr p1 (8 : Int32)) &&& (255 : Int32)).toUInt32.toUInt16.toUInt32.toInt32)), .val (.int ((p2 &&& (255 : Int32)).toUInt32.toUInt16.toUInt32.toInt32)), .val (.int (((XT.ushr p2 (8 : Int32)) &&& (255 : Int32)).toUInt32.toUInt16.toUInt32.toInt32)), .val (.int (0 : Int32)), .val (.ref a314), .val (.ref a317), .val (.ref a320), .val (.ref a323), .val (.ref a339), .val .null, .val (.ref a354), .val (.ref a356), .val (.ref a369), .val (.ref a389), .val (.ref a393)] [(.ref a369), (.ref a393)])) rfl (by rw [hml]; rfl) [(.ref a369)] [] (lenOf pd_24 rfl) rfl (Wd := 0) (by show 2 * 0 + _ ≤ _; exact Nat.le_of_eq rfl) (hb hby at_337) (by decide) (by decide) [] (fun _ _ _ q => by obtain ⟨⟨-, rfl⟩, rfl⟩ := q; exact ⟨Fr.nil _, Keep.refl _ _⟩) all0 (fun vm0 hZ => payEq H A393.old S393 f476 (by decide) (by decide) hZ)
    obtain ⟨⟨rfl, q472⟩, -⟩ := Q472
    have q472 := q472.symm
    subst q472
    have A472 := AA472 [] all0
    refine Run.st (T472.setTop (mkF m 340 #[.val (.int p0), .val (.int p1), .val (.int p2), .val (.int p3), .val (.int ((p0 &&& (255 : Int32)).toUInt32.toUInt16.toUInt32.toInt32)), .val (.int (((XT.ushr p0 (8 : Int32)) &&& (255 : Int32)).toUInt32.toUInt16.toUInt32.toInt32)), .val (.int ((p1 &&& (255 : Int32)).toUInt32.toUInt16.toUInt32.toInt32)), .val (.int (((XT.ushr p1 (8 : Int32)) &&& (255 : Int32)).toUInt32.toUInt16.toUInt32.toInt32)), .val (.int ((p2 &&& (255 : Int32)).toUInt32.toUInt16.toUInt32.toInt32)), .val (.int (((XT.ushr p2 (8 : Int32)) &&& (255 : Int32)).toUInt32.toUInt16.toUInt32.toInt32)), .val (.int (0 : Int32)), .val (.ref a314), .val (.ref a317), .val (.ref a320), .val (.ref a323), .val (.ref a339), .val .null, .val (.ref a354), .val (.ref a356), .val (.ref a369), .val (.ref a389), .val (.ref a393)] [(.int (bI (((67 : Int32) :: 65 :: 83 :: 84 :: 40 :: (p0 &&& (255 : Int32)) :: ((XT.ushr p0 (8 : Int32)) &&& (255 : Int32)) :: 32 :: 65 :: 83 :: 32 :: (p1 &&& (255 : Int32)) :: ((XT.ushr p1 (8 : Int32)) &&& (255 : Int32)) :: 41 :: []) = [(67 : Int32), (65 : Int32), (83 : Int32), (84 : Int32), (40 : Int32), (p0 &&& (255 : Int32)), ((XT.ushr p0 (8 : Int32)) &&& (255 : Int32)), (32 : Int32), (65 : Int32), (83 : Int32), (32 : Int32), (p1 &&& (255 : Int32)), ((XT.ushr p1 (8 : Int32)) &&& (255 : Int32)), (41 : Int32)])))])) st472 ?_
    refine Run.st (T472.setTop (mkF m 348 #[.val (.int p0), .val (.int p1), .val (.int p2), .val (.int p3), .val (.int ((p0 &&& (255 : Int32)).toUInt32.toUInt16.toUInt32.toInt32)), .val (.int (((XT.ushr p0 (8 : Int32)) &&& (255 : Int32)).toUInt32.toUInt16.toUInt32.toInt32)), .val (.int ((p1 &&& (255 : Int32)).toUInt32.toUInt16.toUInt32.toInt32)), .val (.int (((XT.ushr p1 (8 : Int32)) &&& (255 : Int32)).toUInt32.toUInt16.toUInt32.toInt32)), .val (.int ((p2 &&& (255 : Int32)).toUInt32.toUInt16.toUInt32.toInt32)), .val (.int (((XT.ushr p2 (8 : Int32)) &&& (255 : Int32)).toUInt32.toUInt16.toUInt32.toInt32)), .val (.int (0 : Int32)), .val (.ref a314), .val (.ref a317), .val (.ref a320), .val (.ref a323), .val (.ref a339), .val .null, .val (.ref a354), .val (.ref a356), .val (.ref a369), .val (.ref a389), .val (.ref a393)] [(.int (1 : Int32))])) (fun _ k => XS.ifNo A472.here hx rfl (hb hby at_340) rfl (by rw [if0]; exact (feq (bI1 rfl)).1) (XS.iconst A472.here hx rfl (hb hby at_343) (XS.goto A472.here hx rfl (pc0 := 344) (pc' := 348) rfl (hb hby at_344) (by decide) (by decide) k))) ?_
    exact A472.leaveW hlk hh0 (some (.int (1 : Int32))) (fun q => by rw [hrt] at q; cases q) (by decide) (by decide) rfl (fun X hr => retN X hx (t := .boolean) hrt (by simp) (hb hby at_348) hr)
  · refine Run.st (T0.setTop (mkF m 71 #[.val (.int p0), .val (.int p1), .val (.int p2), .val (.int p3), .val (.int ((p0 &&& (255 : Int32)).toUInt32.toUInt16.toUInt32.toInt32)), .val (.int (((XT.ushr p0 (8 : Int32)) &&& (255 : Int32)).toUInt32.toUInt16.toUInt32.toInt32)), .val (.int ((p1 &&& (255 : Int32)).toUInt32.toUInt16.toUInt32.toInt32)), .val (.int (((XT.ushr p1 (8 : Int32)) &&& (255 : Int32)).toUInt32.toUInt16.toUInt32.toInt32)), .val (.int ((p2 &&& (255 : Int32)).toUInt32.toUInt16.toUInt32.toInt32)), .val (.int (((XT.ushr p2 (8 : Int32)) &&& (255 : Int32)).toUInt32.toUInt16.toUInt32.toInt32)), .val (.int (1 : Int32)), .unset, .unset, .unset, .unset, .unset, .unset, .unset, .unset, .unset, .unset, .unset] [(.int (2 : Int32))])) (fun _ k => XS.ifNo A0.here hx rfl (hb hby at_60) rfl (by rw [if0]; exact (feq c313).1) (XS.iconst A0.here hx rfl (hb hby at_63) (XS.goto A0.here hx rfl (pc0 := 64) (pc' := 68) rfl (hb hby at_64) (by decide) (by decide) (XS.istore A0.here hx rfl (hb hby at_68) rfl (l' := #[.val (.int p0), .val (.int p1), .val (.int p2), .val (.int p3), .val (.int ((p0 &&& (255 : Int32)).toUInt32.toUInt16.toUInt32.toInt32)), .val (.int (((XT.ushr p0 (8 : Int32)) &&& (255 : Int32)).toUInt32.toUInt16.toUInt32.toInt32)), .val (.int ((p1 &&& (255 : Int32)).toUInt32.toUInt16.toUInt32.toInt32)), .val (.int (((XT.ushr p1 (8 : Int32)) &&& (255 : Int32)).toUInt32.toUInt16.toUInt32.toInt32)), .val (.int ((p2 &&& (255 : Int32)).toUInt32.toUInt16.toUInt32.toInt32)), .val (.int (((XT.ushr p2 (8 : Int32)) &&& (255 : Int32)).toUInt32.toUInt16.toUInt32.toInt32)), .val (.int (1 : Int32)), .unset, .unset, .unset, .unset, .unset, .unset, .unset, .unset, .unset, .unset, .unset]) rfl (XS.iconst A0.here hx rfl (hb hby at_70) k))))) ?_
    obtain ⟨a477, T477, h477, kA477, A477, E477, g477, V477, st477⟩ := A0.newP hx (aty := .char) (N := (2 : Int32)) (tw0 H.1) (g := (mkF m 71 #[.val (.int p0), .val (.int p1), .val (.int p2), .val (.int p3), .val (.int ((p0 &&& (255 : Int32)).toUInt32.toUInt16.toUInt32.toInt32)), .val (.int (((XT.ushr p0 (8 : Int32)) &&& (255 : Int32)).toUInt32.toUInt16.toUInt32.toInt32)), .val (.int ((p1 &&& (255 : Int32)).toUInt32.toUInt16.toUInt32.toInt32)), .val (.int (((XT.ushr p1 (8 : Int32)) &&& (255 : Int32)).toUInt32.toUInt16.toUInt32.toInt32)), .val (.int ((p2 &&& (255 : Int32)).toUInt32.toUInt16.toUInt32.toInt32)), .val (.int (((XT.ushr p2 (8 : Int32)) &&& (255 : Int32)).toUInt32.toUInt16.toUInt32.toInt32)), .val (.int (1 : Int32)), .unset, .unset, .unset, .unset, .unset, .unset, .unset, .unset, .unset, .unset, .unset] [(.int (2 : Int32))])) rfl (hb hby at_71) rfl (by decide) (cap := 2) (by decide) (by decide) (by decide) (by decide)
    refine Run.st (T477.setTop (mkF m 73 #[.val (.int p0), .val (.int p1), .val (.int p2), .val (.int p3), .val (.int ((p0 &&& (255 : Int32)).toUInt32.toUInt16.toUInt32.toInt32)), .val (.int (((XT.ushr p0 (8 : Int32)) &&& (255 : Int32)).toUInt32.toUInt16.toUInt32.toInt32)), .val (.int ((p1 &&& (255 : Int32)).toUInt32.toUInt16.toUInt32.toInt32)), .val (.int (((XT.ushr p1 (8 : Int32)) &&& (255 : Int32)).toUInt32.toUInt16.toUInt32.toInt32)), .val (.int ((p2 &&& (255 : Int32)).toUInt32.toUInt16.toUInt32.toInt32)), .val (.int (((XT.ushr p2 (8 : Int32)) &&& (255 : Int32)).toUInt32.toUInt16.toUInt32.toInt32)), .val (.int (1 : Int32)), .unset, .unset, .unset, .unset, .unset, .unset, .unset, .unset, .unset, .unset, .unset] [(.ref a477)])) st477 ?_
    refine Run.st (T477.setTop (mkF m 80 #[.val (.int p0), .val (.int p1), .val (.int p2), .val (.int p3), .val (.int ((p0 &&& (255 : Int32)).toUInt32.toUInt16.toUInt32.toInt32)), .val (.int (((XT.ushr p0 (8 : Int32)) &&& (255 : Int32)).toUInt32.toUInt16.toUInt32.toInt32)), .val (.int ((p1 &&& (255 : Int32)).toUInt32.toUInt16.toUInt32.toInt32)), .val (.int (((XT.ushr p1 (8 : Int32)) &&& (255 : Int32)).toUInt32.toUInt16.toUInt32.toInt32)), .val (.int ((p2 &&& (255 : Int32)).toUInt32.toUInt16.toUInt32.toInt32)), .val (.int (((XT.ushr p2 (8 : Int32)) &&& (255 : Int32)).toUInt32.toUInt16.toUInt32.toInt32)), .val (.int (1 : Int32)), .val (.ref a477), .unset, .unset, .unset, .unset, .unset, .unset, .unset, .unset, .unset, .unset] [(.int ((p0 &&& (255 : Int32)).toUInt32.toUInt16.toUInt32.toInt32)), (.int (0 : Int32)), (.ref a477)])) (fun _ k => XS.astore A477.here hx rfl (hb hby at_73) rfl rfl (l' := #[.val (.int p0), .val (.int p1), .val (.int p2), .val (.int p3), .val (.int ((p0 &&& (255 : Int32)).toUInt32.toUInt16.toUInt32.toInt32)), .val (.int (((XT.ushr p0 (8 : Int32)) &&& (255 : Int32)).toUInt32.toUInt16.toUInt32.toInt32)), .val (.int ((p1 &&& (255 : Int32)).toUInt32.toUInt16.toUInt32.toInt32)), .val (.int (((XT.ushr p1 (8 : Int32)) &&& (255 : Int32)).toUInt32.toUInt16.toUInt32.toInt32)), .val (.int ((p2 &&& (255 : Int32)).toUInt32.toUInt16.toUInt32.toInt32)), .val (.int (((XT.ushr p2 (8 : Int32)) &&& (255 : Int32)).toUInt32.toUInt16.toUInt32.toInt32)), .val (.int (1 : Int32)), .val (.ref a477), .unset, .unset, .unset, .unset, .unset, .unset, .unset, .unset, .unset, .unset]) rfl (XS.aload A477.here hx rfl (hb hby at_75) rfl rfl (XS.iconst A477.here hx rfl (hb hby at_77) (XS.iload A477.here hx rfl (hb hby at_78) rfl k)))) ?_
    obtain ⟨T478, h478, A478, K478, V478, st478⟩ := A477.stC hx V477 (List.mem_of_getElem? (i := 0) rfl) (j := (0 : Int32)) 0 rfl ⟨by decide, by decide⟩ (Nat.le_of_ble_eq_true rfl) (g := (mkF m 80 #[.val (.int p0), .val (.int p1), .val (.int p2), .val (.int p3), .val (.int ((p0 &&& (255 : Int32)).toUInt32.toUInt16.toUInt32.toInt32)), .val (.int (((XT.ushr p0 (8 : Int32)) &&& (255 : Int32)).toUInt32.toUInt16.toUInt32.toInt32)), .val (.int ((p1 &&& (255 : Int32)).toUInt32.toUInt16.toUInt32.toInt32)), .val (.int (((XT.ushr p1 (8 : Int32)) &&& (255 : Int32)).toUInt32.toUInt16.toUInt32.toInt32)), .val (.int ((p2 &&& (255 : Int32)).toUInt32.toUInt16.toUInt32.toInt32)), .val (.int (((XT.ushr p2 (8 : Int32)) &&& (255 : Int32)).toUInt32.toUInt16.toUInt32.toInt32)), .val (.int (1 : Int32)), .val (.ref a477), .unset, .unset, .unset, .unset, .unset, .unset, .unset, .unset, .unset, .unset] [(.int ((p0 &&& (255 : Int32)).toUInt32.toUInt16.toUInt32.toInt32)), (.int (0 : Int32)), (.ref a477)])) rfl rfl (hb hby at_80)
    refine Run.st (T478.setTop (mkF m 81 #[.val (.int p0), .val (.int p1), .val (.int p2), .val (.int p3), .val (.int ((p0 &&& (255 : Int32)).toUInt32.toUInt16.toUInt32.toInt32)), .val (.int (((XT.ushr p0 (8 : Int32)) &&& (255 : Int32)).toUInt32.toUInt16.toUInt32.toInt32)), .val (.int ((p1 &&& (255 : Int32)).toUInt32.toUInt16.toUInt32.toInt32)), .val (.int (((XT.ushr p1 (8 : Int32)) &&& (255 : Int32)).toUInt32.toUInt16.toUInt32.toInt32)), .val (.int ((p2 &&& (255 : Int32)).toUInt32.toUInt16.toUInt32.toInt32)), .val (.int (((XT.ushr p2 (8 : Int32)) &&& (255 : Int32)).toUInt32.toUInt16.toUInt32.toInt32)), .val (.int (1 : Int32)), .val (.ref a477), .unset, .unset, .unset, .unset, .unset, .unset, .unset, .unset, .unset, .unset] [])) st478 ?_
    refine Run.st (T478.setTop (mkF m 86 #[.val (.int p0), .val (.int p1), .val (.int p2), .val (.int p3), .val (.int ((p0 &&& (255 : Int32)).toUInt32.toUInt16.toUInt32.toInt32)), .val (.int (((XT.ushr p0 (8 : Int32)) &&& (255 : Int32)).toUInt32.toUInt16.toUInt32.toInt32)), .val (.int ((p1 &&& (255 : Int32)).toUInt32.toUInt16.toUInt32.toInt32)), .val (.int (((XT.ushr p1 (8 : Int32)) &&& (255 : Int32)).toUInt32.toUInt16.toUInt32.toInt32)), .val (.int ((p2 &&& (255 : Int32)).toUInt32.toUInt16.toUInt32.toInt32)), .val (.int (((XT.ushr p2 (8 : Int32)) &&& (255 : Int32)).toUInt32.toUInt16.toUInt32.toInt32)), .val (.int (1 : Int32)), .val (.ref a477), .unset, .unset, .unset, .unset, .unset, .unset, .unset, .unset, .unset, .unset] [(.int (((XT.ushr p0 (8 : Int32)) &&& (255 : Int32)).toUInt32.toUInt16.toUInt32.toInt32)), (.int (1 : Int32)), (.ref a477)])) (fun _ k => XS.aload A478.here hx rfl (hb hby at_81) rfl rfl (XS.iconst A478.here hx rfl (hb hby at_83) (XS.iload A478.here hx rfl (hb hby at_84) rfl k))) ?_
    obtain ⟨T479, h479, A479, K479, V479, st479⟩ := A478.stC hx V478 (List.mem_of_getElem? (i := 0) rfl) (j := (1 : Int32)) 1 rfl ⟨by decide, by decide⟩ (Nat.le_of_ble_eq_true rfl) (g := (mkF m 86 #[.val (.int p0), .val (.int p1), .val (.int p2), .val (.int p3), .val (.int ((p0 &&& (255 : Int32)).toUInt32.toUInt16.toUInt32.toInt32)), .val (.int (((XT.ushr p0 (8 : Int32)) &&& (255 : Int32)).toUInt32.toUInt16.toUInt32.toInt32)), .val (.int ((p1 &&& (255 : Int32)).toUInt32.toUInt16.toUInt32.toInt32)), .val (.int (((XT.ushr p1 (8 : Int32)) &&& (255 : Int32)).toUInt32.toUInt16.toUInt32.toInt32)), .val (.int ((p2 &&& (255 : Int32)).toUInt32.toUInt16.toUInt32.toInt32)), .val (.int (((XT.ushr p2 (8 : Int32)) &&& (255 : Int32)).toUInt32.toUInt16.toUInt32.toInt32)), .val (.int (1 : Int32)), .val (.ref a477), .unset, .unset, .unset, .unset, .unset, .unset, .unset, .unset, .unset, .unset] [(.int (((XT.ushr p0 (8 : Int32)) &&& (255 : Int32)).toUInt32.toUInt16.toUInt32.toInt32)), (.int (1 : Int32)), (.ref a477)])) rfl rfl (hb hby at_86)
    refine Run.st (T479.setTop (mkF m 87 #[.val (.int p0), .val (.int p1), .val (.int p2), .val (.int p3), .val (.int ((p0 &&& (255 : Int32)).toUInt32.toUInt16.toUInt32.toInt32)), .val (.int (((XT.ushr p0 (8 : Int32)) &&& (255 : Int32)).toUInt32.toUInt16.toUInt32.toInt32)), .val (.int ((p1 &&& (255 : Int32)).toUInt32.toUInt16.toUInt32.toInt32)), .val (.int (((XT.ushr p1 (8 : Int32)) &&& (255 : Int32)).toUInt32.toUInt16.toUInt32.toInt32)), .val (.int ((p2 &&& (255 : Int32)).toUInt32.toUInt16.toUInt32.toInt32)), .val (.int (((XT.ushr p2 (8 : Int32)) &&& (255 : Int32)).toUInt32.toUInt16.toUInt32.toInt32)), .val (.int (1 : Int32)), .val (.ref a477), .unset, .unset, .unset, .unset, .unset, .unset, .unset, .unset, .unset, .unset] [])) st479 ?_
    refine Run.st (T479.setTop (mkF m 88 #[.val (.int p0), .val (.int p1), .val (.int p2), .val (.int p3), .val (.int ((p0 &&& (255 : Int32)).toUInt32.toUInt16.toUInt32.toInt32)), .val (.int (((XT.ushr p0 (8 : Int32)) &&& (255 : Int32)).toUInt32.toUInt16.toUInt32.toInt32)), .val (.int ((p1 &&& (255 : Int32)).toUInt32.toUInt16.toUInt32.toInt32)), .val (.int (((XT.ushr p1 (8 : Int32)) &&& (255 : Int32)).toUInt32.toUInt16.toUInt32.toInt32)), .val (.int ((p2 &&& (255 : Int32)).toUInt32.toUInt16.toUInt32.toInt32)), .val (.int (((XT.ushr p2 (8 : Int32)) &&& (255 : Int32)).toUInt32.toUInt16.toUInt32.toInt32)), .val (.int (1 : Int32)), .val (.ref a477), .unset, .unset, .unset, .unset, .unset, .unset, .unset, .unset, .unset, .unset] [(.int (2 : Int32))])) (fun _ k => XS.iconst A479.here hx rfl (hb hby at_87) k) ?_
    obtain ⟨a480, T480, h480, kA480, A480, E480, g480, V480, st480⟩ := A479.newP hx (aty := .char) (N := (2 : Int32)) (tw0 H.1) (g := (mkF m 88 #[.val (.int p0), .val (.int p1), .val (.int p2), .val (.int p3), .val (.int ((p0 &&& (255 : Int32)).toUInt32.toUInt16.toUInt32.toInt32)), .val (.int (((XT.ushr p0 (8 : Int32)) &&& (255 : Int32)).toUInt32.toUInt16.toUInt32.toInt32)), .val (.int ((p1 &&& (255 : Int32)).toUInt32.toUInt16.toUInt32.toInt32)), .val (.int (((XT.ushr p1 (8 : Int32)) &&& (255 : Int32)).toUInt32.toUInt16.toUInt32.toInt32)), .val (.int ((p2 &&& (255 : Int32)).toUInt32.toUInt16.toUInt32.toInt32)), .val (.int (((XT.ushr p2 (8 : Int32)) &&& (255 : Int32)).toUInt32.toUInt16.toUInt32.toInt32)), .val (.int (1 : Int32)), .val (.ref a477), .unset, .unset, .unset, .unset, .unset, .unset, .unset, .unset, .unset, .unset] [(.int (2 : Int32))])) rfl (hb hby at_88) rfl (by decide) (cap := 2) (by decide) (by decide) (by decide) (by decide)
    refine Run.st (T480.setTop (mkF m 90 #[.val (.int p0), .val (.int p1), .val (.int p2), .val (.int p3), .val (.int ((p0 &&& (255 : Int32)).toUInt32.toUInt16.toUInt32.toInt32)), .val (.int (((XT.ushr p0 (8 : Int32)) &&& (255 : Int32)).toUInt32.toUInt16.toUInt32.toInt32)), .val (.int ((p1 &&& (255 : Int32)).toUInt32.toUInt16.toUInt32.toInt32)), .val (.int (((XT.ushr p1 (8 : Int32)) &&& (255 : Int32)).toUInt32.toUInt16.toUInt32.toInt32)), .val (.int ((p2 &&& (255 : Int32)).toUInt32.toUInt16.toUInt32.toInt32)), .val (.int (((XT.ushr p2 (8 : Int32)) &&& (255 : Int32)).toUInt32.toUInt16.toUInt32.toInt32)), .val (.int (1 : Int32)), .val (.ref a477), .unset, .unset, .unset, .unset, .unset, .unset, .unset, .unset, .unset, .unset] [(.ref a480)])) st480 ?_
    refine Run.st (T480.setTop (mkF m 97 #[.val (.int p0), .val (.int p1), .val (.int p2), .val (.int p3), .val (.int ((p0 &&& (255 : Int32)).toUInt32.toUInt16.toUInt32.toInt32)), .val (.int (((XT.ushr p0 (8 : Int32)) &&& (255 : Int32)).toUInt32.toUInt16.toUInt32.toInt32)), .val (.int ((p1 &&& (255 : Int32)).toUInt32.toUInt16.toUInt32.toInt32)), .val (.int (((XT.ushr p1 (8 : Int32)) &&& (255 : Int32)).toUInt32.toUInt16.toUInt32.toInt32)), .val (.int ((p2 &&& (255 : Int32)).toUInt32.toUInt16.toUInt32.toInt32)), .val (.int (((XT.ushr p2 (8 : Int32)) &&& (255 : Int32)).toUInt32.toUInt16.toUInt32.toInt32)), .val (.int (1 : Int32)), .val (.ref a477), .val (.ref a480), .unset, .unset, .unset, .unset, .unset, .unset, .unset, .unset, .unset] [(.int ((p1 &&& (255 : Int32)).toUInt32.toUInt16.toUInt32.toInt32)), (.int (0 : Int32)), (.ref a480)])) (fun _ k => XS.astore A480.here hx rfl (hb hby at_90) rfl rfl (l' := #[.val (.int p0), .val (.int p1), .val (.int p2), .val (.int p3), .val (.int ((p0 &&& (255 : Int32)).toUInt32.toUInt16.toUInt32.toInt32)), .val (.int (((XT.ushr p0 (8 : Int32)) &&& (255 : Int32)).toUInt32.toUInt16.toUInt32.toInt32)), .val (.int ((p1 &&& (255 : Int32)).toUInt32.toUInt16.toUInt32.toInt32)), .val (.int (((XT.ushr p1 (8 : Int32)) &&& (255 : Int32)).toUInt32.toUInt16.toUInt32.toInt32)), .val (.int ((p2 &&& (255 : Int32)).toUInt32.toUInt16.toUInt32.toInt32)), .val (.int (((XT.ushr p2 (8 : Int32)) &&& (255 : Int32)).toUInt32.toUInt16.toUInt32.toInt32)), .val (.int (1 : Int32)), .val (.ref a477), .val (.ref a480), .unset, .unset, .unset, .unset, .unset, .unset, .unset, .unset, .unset]) rfl (XS.aload A480.here hx rfl (hb hby at_92) rfl rfl (XS.iconst A480.here hx rfl (hb hby at_94) (XS.iload A480.here hx rfl (hb hby at_95) rfl k)))) ?_
    obtain ⟨T481, h481, A481, K481, V481, st481⟩ := A480.stC hx V480 (List.mem_of_getElem? (i := 0) rfl) (j := (0 : Int32)) 0 rfl ⟨by decide, by decide⟩ (Nat.le_of_ble_eq_true rfl) (g := (mkF m 97 #[.val (.int p0), .val (.int p1), .val (.int p2), .val (.int p3), .val (.int ((p0 &&& (255 : Int32)).toUInt32.toUInt16.toUInt32.toInt32)), .val (.int (((XT.ushr p0 (8 : Int32)) &&& (255 : Int32)).toUInt32.toUInt16.toUInt32.toInt32)), .val (.int ((p1 &&& (255 : Int32)).toUInt32.toUInt16.toUInt32.toInt32)), .val (.int (((XT.ushr p1 (8 : Int32)) &&& (255 : Int32)).toUInt32.toUInt16.toUInt32.toInt32)), .val (.int ((p2 &&& (255 : Int32)).toUInt32.toUInt16.toUInt32.toInt32)), .val (.int (((XT.ushr p2 (8 : Int32)) &&& (255 : Int32)).toUInt32.toUInt16.toUInt32.toInt32)), .val (.int (1 : Int32)), .val (.ref a477), .val (.ref a480), .unset, .unset, .unset, .unset, .unset, .unset, .unset, .unset, .unset] [(.int ((p1 &&& (255 : Int32)).toUInt32.toUInt16.toUInt32.toInt32)), (.int (0 : Int32)), (.ref a480)])) rfl rfl (hb hby at_97)
    refine Run.st (T481.setTop (mkF m 98 #[.val (.int p0), .val (.int p1), .val (.int p2), .val (.int p3), .val (.int ((p0 &&& (255 : Int32)).toUInt32.toUInt16.toUInt32.toInt32)), .val (.int (((XT.ushr p0 (8 : Int32)) &&& (255 : Int32)).toUInt32.toUInt16.toUInt32.toInt32)), .val (.int ((p1 &&& (255 : Int32)).toUInt32.toUInt16.toUInt32.toInt32)), .val (.int (((XT.ushr p1 (8 : Int32)) &&& (255 : Int32)).toUInt32.toUInt16.toUInt32.toInt32)), .val (.int ((p2 &&& (255 : Int32)).toUInt32.toUInt16.toUInt32.toInt32)), .val (.int (((XT.ushr p2 (8 : Int32)) &&& (255 : Int32)).toUInt32.toUInt16.toUInt32.toInt32)), .val (.int (1 : Int32)), .val (.ref a477), .val (.ref a480), .unset, .unset, .unset, .unset, .unset, .unset, .unset, .unset, .unset] [])) st481 ?_
    refine Run.st (T481.setTop (mkF m 103 #[.val (.int p0), .val (.int p1), .val (.int p2), .val (.int p3), .val (.int ((p0 &&& (255 : Int32)).toUInt32.toUInt16.toUInt32.toInt32)), .val (.int (((XT.ushr p0 (8 : Int32)) &&& (255 : Int32)).toUInt32.toUInt16.toUInt32.toInt32)), .val (.int ((p1 &&& (255 : Int32)).toUInt32.toUInt16.toUInt32.toInt32)), .val (.int (((XT.ushr p1 (8 : Int32)) &&& (255 : Int32)).toUInt32.toUInt16.toUInt32.toInt32)), .val (.int ((p2 &&& (255 : Int32)).toUInt32.toUInt16.toUInt32.toInt32)), .val (.int (((XT.ushr p2 (8 : Int32)) &&& (255 : Int32)).toUInt32.toUInt16.toUInt32.toInt32)), .val (.int (1 : Int32)), .val (.ref a477), .val (.ref a480), .unset, .unset, .unset, .unset, .unset, .unset, .unset, .unset, .unset] [(.int (((XT.ushr p1 (8 : Int32)) &&& (255 : Int32)).toUInt32.toUInt16.toUInt32.toInt32)), (.int (1 : Int32)), (.ref a480)])) (fun _ k => XS.aload A481.here hx rfl (hb hby at_98) rfl rfl (XS.iconst A481.here hx rfl (hb hby at_100) (XS.iload A481.here hx rfl (hb hby at_101) rfl k))) ?_
    obtain ⟨T482, h482, A482, K482, V482, st482⟩ := A481.stC hx V481 (List.mem_of_getElem? (i := 0) rfl) (j := (1 : Int32)) 1 rfl ⟨by decide, by decide⟩ (Nat.le_of_ble_eq_true rfl) (g := (mkF m 103 #[.val (.int p0), .val (.int p1), .val (.int p2), .val (.int p3), .val (.int ((p0 &&& (255 : Int32)).toUInt32.toUInt16.toUInt32.toInt32)), .val (.int (((XT.ushr p0 (8 : Int32)) &&& (255 : Int32)).toUInt32.toUInt16.toUInt32.toInt32)), .val (.int ((p1 &&& (255 : Int32)).toUInt32.toUInt16.toUInt32.toInt32)), .val (.int (((XT.ushr p1 (8 : Int32)) &&& (255 : Int32)).toUInt32.toUInt16.toUInt32.toInt32)), .val (.int ((p2 &&& (255 : Int32)).toUInt32.toUInt16.toUInt32.toInt32)), .val (.int (((XT.ushr p2 (8 : Int32)) &&& (255 : Int32)).toUInt32.toUInt16.toUInt32.toInt32)), .val (.int (1 : Int32)), .val (.ref a477), .val (.ref a480), .unset, .unset, .unset, .unset, .unset, .unset, .unset, .unset, .unset] [(.int (((XT.ushr p1 (8 : Int32)) &&& (255 : Int32)).toUInt32.toUInt16.toUInt32.toInt32)), (.int (1 : Int32)), (.ref a480)])) rfl rfl (hb hby at_103)
    refine Run.st (T482.setTop (mkF m 104 #[.val (.int p0), .val (.int p1), .val (.int p2), .val (.int p3), .val (.int ((p0 &&& (255 : Int32)).toUInt32.toUInt16.toUInt32.toInt32)), .val (.int (((XT.ushr p0 (8 : Int32)) &&& (255 : Int32)).toUInt32.toUInt16.toUInt32.toInt32)), .val (.int ((p1 &&& (255 : Int32)).toUInt32.toUInt16.toUInt32.toInt32)), .val (.int (((XT.ushr p1 (8 : Int32)) &&& (255 : Int32)).toUInt32.toUInt16.toUInt32.toInt32)), .val (.int ((p2 &&& (255 : Int32)).toUInt32.toUInt16.toUInt32.toInt32)), .val (.int (((XT.ushr p2 (8 : Int32)) &&& (255 : Int32)).toUInt32.toUInt16.toUInt32.toInt32)), .val (.int (1 : Int32)), .val (.ref a477), .val (.ref a480), .unset, .unset, .unset, .unset, .unset, .unset, .unset, .unset, .unset] [])) st482 ?_
    refine Run.st (T482.setTop (mkF m 105 #[.val (.int p0), .val (.int p1), .val (.int p2), .val (.int p3), .val (.int ((p0 &&& (255 : Int32)).toUInt32.toUInt16.toUInt32.toInt32)), .val (.int (((XT.ushr p0 (8 : Int32)) &&& (255 : Int32)).toUInt32.toUInt16.toUInt32.toInt32)), .val (.int ((p1 &&& (255 : Int32)).toUInt32.toUInt16.toUInt32.toInt32)), .val (.int (((XT.ushr p1 (8 : Int32)) &&& (255 : Int32)).toUInt32.toUInt16.toUInt32.toInt32)), .val (.int ((p2 &&& (255 : Int32)).toUInt32.toUInt16.toUInt32.toInt32)), .val (.int (((XT.ushr p2 (8 : Int32)) &&& (255 : Int32)).toUInt32.toUInt16.toUInt32.toInt32)), .val (.int (1 : Int32)), .val (.ref a477), .val (.ref a480), .unset, .unset, .unset, .unset, .unset, .unset, .unset, .unset, .unset] [(.int (2 : Int32))])) (fun _ k => XS.iconst A482.here hx rfl (hb hby at_104) k) ?_
    obtain ⟨a483, T483, h483, kA483, A483, E483, g483, V483, st483⟩ := A482.newP hx (aty := .char) (N := (2 : Int32)) (tw0 H.1) (g := (mkF m 105 #[.val (.int p0), .val (.int p1), .val (.int p2), .val (.int p3), .val (.int ((p0 &&& (255 : Int32)).toUInt32.toUInt16.toUInt32.toInt32)), .val (.int (((XT.ushr p0 (8 : Int32)) &&& (255 : Int32)).toUInt32.toUInt16.toUInt32.toInt32)), .val (.int ((p1 &&& (255 : Int32)).toUInt32.toUInt16.toUInt32.toInt32)), .val (.int (((XT.ushr p1 (8 : Int32)) &&& (255 : Int32)).toUInt32.toUInt16.toUInt32.toInt32)), .val (.int ((p2 &&& (255 : Int32)).toUInt32.toUInt16.toUInt32.toInt32)), .val (.int (((XT.ushr p2 (8 : Int32)) &&& (255 : Int32)).toUInt32.toUInt16.toUInt32.toInt32)), .val (.int (1 : Int32)), .val (.ref a477), .val (.ref a480), .unset, .unset, .unset, .unset, .unset, .unset, .unset, .unset, .unset] [(.int (2 : Int32))])) rfl (hb hby at_105) rfl (by decide) (cap := 2) (by decide) (by decide) (by decide) (by decide)
    refine Run.st (T483.setTop (mkF m 107 #[.val (.int p0), .val (.int p1), .val (.int p2), .val (.int p3), .val (.int ((p0 &&& (255 : Int32)).toUInt32.toUInt16.toUInt32.toInt32)), .val (.int (((XT.ushr p0 (8 : Int32)) &&& (255 : Int32)).toUInt32.toUInt16.toUInt32.toInt32)), .val (.int ((p1 &&& (255 : Int32)).toUInt32.toUInt16.toUInt32.toInt32)), .val (.int (((XT.ushr p1 (8 : Int32)) &&& (255 : Int32)).toUInt32.toUInt16.toUInt32.toInt32)), .val (.int ((p2 &&& (255 : Int32)).toUInt32.toUInt16.toUInt32.toInt32)), .val (.int (((XT.ushr p2 (8 : Int32)) &&& (255 : Int32)).toUInt32.toUInt16.toUInt32.toInt32)), .val (.int (1 : Int32)), .val (.ref a477), .val (.ref a480), .unset, .unset, .unset, .unset, .unset, .unset, .unset, .unset, .unset] [(.ref a483)])) st483 ?_
    refine Run.st (T483.setTop (mkF m 114 #[.val (.int p0), .val (.int p1), .val (.int p2), .val (.int p3), .val (.int ((p0 &&& (255 : Int32)).toUInt32.toUInt16.toUInt32.toInt32)), .val (.int (((XT.ushr p0 (8 : Int32)) &&& (255 : Int32)).toUInt32.toUInt16.toUInt32.toInt32)), .val (.int ((p1 &&& (255 : Int32)).toUInt32.toUInt16.toUInt32.toInt32)), .val (.int (((XT.ushr p1 (8 : Int32)) &&& (255 : Int32)).toUInt32.toUInt16.toUInt32.toInt32)), .val (.int ((p2 &&& (255 : Int32)).toUInt32.toUInt16.toUInt32.toInt32)), .val (.int (((XT.ushr p2 (8 : Int32)) &&& (255 : Int32)).toUInt32.toUInt16.toUInt32.toInt32)), .val (.int (1 : Int32)), .val (.ref a477), .val (.ref a480), .val (.ref a483), .unset, .unset, .unset, .unset, .unset, .unset, .unset, .unset] [(.int ((p2 &&& (255 : Int32)).toUInt32.toUInt16.toUInt32.toInt32)), (.int (0 : Int32)), (.ref a483)])) (fun _ k => XS.astore A483.here hx rfl (hb hby at_107) rfl rfl (l' := #[.val (.int p0), .val (.int p1), .val (.int p2), .val (.int p3), .val (.int ((p0 &&& (255 : Int32)).toUInt32.toUInt16.toUInt32.toInt32)), .val (.int (((XT.ushr p0 (8 : Int32)) &&& (255 : Int32)).toUInt32.toUInt16.toUInt32.toInt32)), .val (.int ((p1 &&& (255 : Int32)).toUInt32.toUInt16.toUInt32.toInt32)), .val (.int (((XT.ushr p1 (8 : Int32)) &&& (255 : Int32)).toUInt32.toUInt16.toUInt32.toInt32)), .val (.int ((p2 &&& (255 : Int32)).toUInt32.toUInt16.toUInt32.toInt32)), .val (.int (((XT.ushr p2 (8 : Int32)) &&& (255 : Int32)).toUInt32.toUInt16.toUInt32.toInt32)), .val (.int (1 : Int32)), .val (.ref a477), .val (.ref a480), .val (.ref a483), .unset, .unset, .unset, .unset, .unset, .unset, .unset, .unset]) rfl (XS.aload A483.here hx rfl (hb hby at_109) rfl rfl (XS.iconst A483.here hx rfl (hb hby at_111) (XS.iload A483.here hx rfl (hb hby at_112) rfl k)))) ?_
    obtain ⟨T484, h484, A484, K484, V484, st484⟩ := A483.stC hx V483 (List.mem_of_getElem? (i := 0) rfl) (j := (0 : Int32)) 0 rfl ⟨by decide, by decide⟩ (Nat.le_of_ble_eq_true rfl) (g := (mkF m 114 #[.val (.int p0), .val (.int p1), .val (.int p2), .val (.int p3), .val (.int ((p0 &&& (255 : Int32)).toUInt32.toUInt16.toUInt32.toInt32)), .val (.int (((XT.ushr p0 (8 : Int32)) &&& (255 : Int32)).toUInt32.toUInt16.toUInt32.toInt32)), .val (.int ((p1 &&& (255 : Int32)).toUInt32.toUInt16.toUInt32.toInt32)), .val (.int (((XT.ushr p1 (8 : Int32)) &&& (255 : Int32)).toUInt32.toUInt16.toUInt32.toInt32)), .val (.int ((p2 &&& (255 : Int32)).toUInt32.toUInt16.toUInt32.toInt32)), .val (.int (((XT.ushr p2 (8 : Int32)) &&& (255 : Int32)).toUInt32.toUInt16.toUInt32.toInt32)), .val (.int (1 : Int32)), .val (.ref a477), .val (.ref a480), .val (.ref a483), .unset, .unset, .unset, .unset, .unset, .unset, .unset, .unset] [(.int ((p2 &&& (255 : Int32)).toUInt32.toUInt16.toUInt32.toInt32)), (.int (0 : Int32)), (.ref a483)])) rfl rfl (hb hby at_114)
    refine Run.st (T484.setTop (mkF m 115 #[.val (.int p0), .val (.int p1), .val (.int p2), .val (.int p3), .val (.int ((p0 &&& (255 : Int32)).toUInt32.toUInt16.toUInt32.toInt32)), .val (.int (((XT.ushr p0 (8 : Int32)) &&& (255 : Int32)).toUInt32.toUInt16.toUInt32.toInt32)), .val (.int ((p1 &&& (255 : Int32)).toUInt32.toUInt16.toUInt32.toInt32)), .val (.int (((XT.ushr p1 (8 : Int32)) &&& (255 : Int32)).toUInt32.toUInt16.toUInt32.toInt32)), .val (.int ((p2 &&& (255 : Int32)).toUInt32.toUInt16.toUInt32.toInt32)), .val (.int (((XT.ushr p2 (8 : Int32)) &&& (255 : Int32)).toUInt32.toUInt16.toUInt32.toInt32)), .val (.int (1 : Int32)), .val (.ref a477), .val (.ref a480), .val (.ref a483), .unset, .unset, .unset, .unset, .unset, .unset, .unset, .unset] [])) st484 ?_
    refine Run.st (T484.setTop (mkF m 120 #[.val (.int p0), .val (.int p1), .val (.int p2), .val (.int p3), .val (.int ((p0 &&& (255 : Int32)).toUInt32.toUInt16.toUInt32.toInt32)), .val (.int (((XT.ushr p0 (8 : Int32)) &&& (255 : Int32)).toUInt32.toUInt16.toUInt32.toInt32)), .val (.int ((p1 &&& (255 : Int32)).toUInt32.toUInt16.toUInt32.toInt32)), .val (.int (((XT.ushr p1 (8 : Int32)) &&& (255 : Int32)).toUInt32.toUInt16.toUInt32.toInt32)), .val (.int ((p2 &&& (255 : Int32)).toUInt32.toUInt16.toUInt32.toInt32)), .val (.int (((XT.ushr p2 (8 : Int32)) &&& (255 : Int32)).toUInt32.toUInt16.toUInt32.toInt32)), .val (.int (1 : Int32)), .val (.ref a477), .val (.ref a480), .val (.ref a483), .unset, .unset, .unset, .unset, .unset, .unset, .unset, .unset] [(.int (((XT.ushr p2 (8 : Int32)) &&& (255 : Int32)).toUInt32.toUInt16.toUInt32.toInt32)), (.int (1 : Int32)), (.ref a483)])) (fun _ k => XS.aload A484.here hx rfl (hb hby at_115) rfl rfl (XS.iconst A484.here hx rfl (hb hby at_117) (XS.iload A484.here hx rfl (hb hby at_118) rfl k))) ?_
    obtain ⟨T485, h485, A485, K485, V485, st485⟩ := A484.stC hx V484 (List.mem_of_getElem? (i := 0) rfl) (j := (1 : Int32)) 1 rfl ⟨by decide, by decide⟩ (Nat.le_of_ble_eq_true rfl) (g := (mkF m 120 #[.val (.int p0), .val (.int p1), .val (.int p2), .val (.int p3), .val (.int ((p0 &&& (255 : Int32)).toUInt32.toUInt16.toUInt32.toInt32)), .val (.int (((XT.ushr p0 (8 : Int32)) &&& (255 : Int32)).toUInt32.toUInt16.toUInt32.toInt32)), .val (.int ((p1 &&& (255 : Int32)).toUInt32.toUInt16.toUInt32.toInt32)), .val (.int (((XT.ushr p1 (8 : Int32)) &&& (255 : Int32)).toUInt32.toUInt16.toUInt32.toInt32)), .val (.int ((p2 &&& (255 : Int32)).toUInt32.toUInt16.toUInt32.toInt32)), .val (.int (((XT.ushr p2 (8 : Int32)) &&& (255 : Int32)).toUInt32.toUInt16.toUInt32.toInt32)), .val (.int (1 : Int32)), .val (.ref a477), .val (.ref a480), .val (.ref a483), .unset, .unset, .unset, .unset, .unset, .unset, .unset, .unset] [(.int (((XT.ushr p2 (8 : Int32)) &&& (255 : Int32)).toUInt32.toUInt16.toUInt32.toInt32)), (.int (1 : Int32)), (.ref a483)])) rfl rfl (hb hby at_120)
    refine Run.st (T485.setTop (mkF m 121 #[.val (.int p0), .val (.int p1), .val (.int p2), .val (.int p3), .val (.int ((p0 &&& (255 : Int32)).toUInt32.toUInt16.toUInt32.toInt32)), .val (.int (((XT.ushr p0 (8 : Int32)) &&& (255 : Int32)).toUInt32.toUInt16.toUInt32.toInt32)), .val (.int ((p1 &&& (255 : Int32)).toUInt32.toUInt16.toUInt32.toInt32)), .val (.int (((XT.ushr p1 (8 : Int32)) &&& (255 : Int32)).toUInt32.toUInt16.toUInt32.toInt32)), .val (.int ((p2 &&& (255 : Int32)).toUInt32.toUInt16.toUInt32.toInt32)), .val (.int (((XT.ushr p2 (8 : Int32)) &&& (255 : Int32)).toUInt32.toUInt16.toUInt32.toInt32)), .val (.int (1 : Int32)), .val (.ref a477), .val (.ref a480), .val (.ref a483), .unset, .unset, .unset, .unset, .unset, .unset, .unset, .unset] [])) st485 ?_
    obtain ⟨a486, T486, h486, A486, E486, g486, Ex486, D486, st486⟩ := A485.newO hx (tw1 H.1) (tw2 H.1) (tw3 H.1) (g := (mkF m 121 #[.val (.int p0), .val (.int p1), .val (.int p2), .val (.int p3), .val (.int ((p0 &&& (255 : Int32)).toUInt32.toUInt16.toUInt32.toInt32)), .val (.int (((XT.ushr p0 (8 : Int32)) &&& (255 : Int32)).toUInt32.toUInt16.toUInt32.toInt32)), .val (.int ((p1 &&& (255 : Int32)).toUInt32.toUInt16.toUInt32.toInt32)), .val (.int (((XT.ushr p1 (8 : Int32)) &&& (255 : Int32)).toUInt32.toUInt16.toUInt32.toInt32)), .val (.int ((p2 &&& (255 : Int32)).toUInt32.toUInt16.toUInt32.toInt32)), .val (.int (((XT.ushr p2 (8 : Int32)) &&& (255 : Int32)).toUInt32.toUInt16.toUInt32.toInt32)), .val (.int (1 : Int32)), .val (.ref a477), .val (.ref a480), .val (.ref a483), .unset, .unset, .unset, .unset, .unset, .unset, .unset, .unset] [])) rfl (hb hby at_121) (by decide) (by decide)
    refine Run.st (T486.setTop (mkF m 124 #[.val (.int p0), .val (.int p1), .val (.int p2), .val (.int p3), .val (.int ((p0 &&& (255 : Int32)).toUInt32.toUInt16.toUInt32.toInt32)), .val (.int (((XT.ushr p0 (8 : Int32)) &&& (255 : Int32)).toUInt32.toUInt16.toUInt32.toInt32)), .val (.int ((p1 &&& (255 : Int32)).toUInt32.toUInt16.toUInt32.toInt32)), .val (.int (((XT.ushr p1 (8 : Int32)) &&& (255 : Int32)).toUInt32.toUInt16.toUInt32.toInt32)), .val (.int ((p2 &&& (255 : Int32)).toUInt32.toUInt16.toUInt32.toInt32)), .val (.int (((XT.ushr p2 (8 : Int32)) &&& (255 : Int32)).toUInt32.toUInt16.toUInt32.toInt32)), .val (.int (1 : Int32)), .val (.ref a477), .val (.ref a480), .val (.ref a483), .unset, .unset, .unset, .unset, .unset, .unset, .unset, .unset] [(.ref a486)])) st486 ?_
    refine Run.st (T486.setTop (mkF m 127 #[.val (.int p0), .val (.int p1), .val (.int p2), .val (.int p3), .val (.int ((p0 &&& (255 : Int32)).toUInt32.toUInt16.toUInt32.toInt32)), .val (.int (((XT.ushr p0 (8 : Int32)) &&& (255 : Int32)).toUInt32.toUInt16.toUInt32.toInt32)), .val (.int ((p1 &&& (255 : Int32)).toUInt32.toUInt16.toUInt32.toInt32)), .val (.int (((XT.ushr p1 (8 : Int32)) &&& (255 : Int32)).toUInt32.toUInt16.toUInt32.toInt32)), .val (.int ((p2 &&& (255 : Int32)).toUInt32.toUInt16.toUInt32.toInt32)), .val (.int (((XT.ushr p2 (8 : Int32)) &&& (255 : Int32)).toUInt32.toUInt16.toUInt32.toInt32)), .val (.int (1 : Int32)), .val (.ref a477), .val (.ref a480), .val (.ref a483), .unset, .unset, .unset, .unset, .unset, .unset, .unset, .unset] [(.ref a477), (.ref a486), (.ref a486)])) (fun _ k => XS.dup A486.here hx rfl (hb hby at_124) rfl rfl (XS.aload A486.here hx rfl (hb hby at_125) rfl rfl k)) ?_
    have Z488 : h479.size ≤ h480.size := E480.1
    have Z489 : h479.size ≤ h481.size := Nat.le_trans Z488 K481.1
    have Z490 : h479.size ≤ h482.size := Nat.le_trans Z489 K482.1
    have X491 : Ext h479 h480 := E480
    have X492 : Ext h479 h481 := extK X491 K481 (allS (Nat.le_of_eq g480) all0)
    have X493 : Ext h479 h482 := extK X492 K482 (allS (Nat.le_of_eq g480) all0)
    have X494 : Ext h479 h483 := (extT X493 E483)
    have X495 : Ext h479 h484 := extK X494 K484 (allS (Nat.le_trans Z490 (Nat.le_of_eq g483)) all0)
    have X496 : Ext h479 h485 := extK X495 K485 (allS (Nat.le_trans Z490 (Nat.le_of_eq g483)) all0)
    have X497 : Ext h479 h486 := (extT X496 E486)
    have f498 := V479.ext X497
    have V499 : Arv Z h486 a477 kA477 .char (2 : Int32) [(.int (nar .char ((p0 &&& (255 : Int32)).toUInt32.toUInt16.toUInt32.toInt32))), (.int (nar .char (((XT.ushr p0 (8 : Int32)) &&& (255 : Int32)).toUInt32.toUInt16.toUInt32.toInt32)))] (.int (0 : Int32)) := f498
    rw [c8n p0, c8n (XT.ushr p0 (8 : Int32))] at V499
    have F500 : Fld Z h486 a486 "java/lang/String" "value" "[B" .null := D486 (Or.inr (tw29 H.1)) (ty := (.array .byte)) (by decide)
    have F501 : Fld Z h486 a486 "java/lang/String" "coder" "B" (.int 0) := D486 (Or.inr (tw27 H.1)) (ty := .byte) (by decide)
    obtain ⟨v487, T487, h487, AA487, K487, ⟨L487, Q487⟩, st487⟩ := A486.callI hx (y := (⟨"java/lang/String", "<init>", "([C)V"⟩ : MethodName)) rfl (tw4 H.1) (tw5 H.1) (tw6 H.1) (by decide) (g := (mkF m 127 #[.val (.int p0), .val (.int p1), .val (.int p2), .val (.int p3), .val (.int ((p0 &&& (255 : Int32)).toUInt32.toUInt16.toUInt32.toInt32)), .val (.int (((XT.ushr p0 (8 : Int32)) &&& (255 : Int32)).toUInt32.toUInt16.toUInt32.toInt32)), .val (.int ((p1 &&& (255 : Int32)).toUInt32.toUInt16.toUInt32.toInt32)), .val (.int (((XT.ushr p1 (8 : Int32)) &&& (255 : Int32)).toUInt32.toUInt16.toUInt32.toInt32)), .val (.int ((p2 &&& (255 : Int32)).toUInt32.toUInt16.toUInt32.toInt32)), .val (.int (((XT.ushr p2 (8 : Int32)) &&& (255 : Int32)).toUInt32.toUInt16.toUInt32.toInt32)), .val (.int (1 : Int32)), .val (.ref a477), .val (.ref a480), .val (.ref a483), .unset, .unset, .unset, .unset, .unset, .unset, .unset, .unset] [(.ref a477), (.ref a486), (.ref a486)])) rfl (by rw [hml]; rfl) a486 [(.ref a477)] [(.ref a486)] (lenOf pd_20 rfl) rfl (Wd := 1) (by show 2 * 0 + _ ≤ _; exact Nat.le_of_eq rfl) (hb hby at_127) (by decide) (by decide) [a486] (fun _ _ _ q => q.2.1) (allS (List.mem_of_getElem? (i := 0) rfl) all0) (fun vm0 hZ => payStr (nn := 2) H A486.old (A486.nle (List.mem_of_getElem? (i := 0) rfl)) Ex486 F500 F501 (cs := [(p0 &&& (255 : Int32)), ((XT.ushr p0 (8 : Int32)) &&& (255 : Int32))]) V499 rfl rfl (by decide) (by decide) (chsS (c8r p0) (chsS (c8r (XT.ushr p0 (8 : Int32))) chs0)) (by decide) (by decide) hZ)
    obtain ⟨rfl, -, S487⟩ := Q487
    have A487 := AA487 [] all0
    refine Run.st (T487.setTop (mkF m 130 #[.val (.int p0), .val (.int p1), .val (.int p2), .val (.int p3), .val (.int ((p0 &&& (255 : Int32)).toUInt32.toUInt16.toUInt32.toInt32)), .val (.int (((XT.ushr p0 (8 : Int32)) &&& (255 : Int32)).toUInt32.toUInt16.toUInt32.toInt32)), .val (.int ((p1 &&& (255 : Int32)).toUInt32.toUInt16.toUInt32.toInt32)), .val (.int (((XT.ushr p1 (8 : Int32)) &&& (255 : Int32)).toUInt32.toUInt16.toUInt32.toInt32)), .val (.int ((p2 &&& (255 : Int32)).toUInt32.toUInt16.toUInt32.toInt32)), .val (.int (((XT.ushr p2 (8 : Int32)) &&& (255 : Int32)).toUInt32.toUInt16.toUInt32.toInt32)), .val (.int (1 : Int32)), .val (.ref a477), .val (.ref a480), .val (.ref a483), .unset, .unset, .unset, .unset, .unset, .unset, .unset, .unset] [(.ref a486)])) st487 ?_
    refine Run.st (T487.setTop (mkF m 132 #[.val (.int p0), .val (.int p1), .val (.int p2), .val (.int p3), .val (.int ((p0 &&& (255 : Int32)).toUInt32.toUInt16.toUInt32.toInt32)), .val (.int (((XT.ushr p0 (8 : Int32)) &&& (255 : Int32)).toUInt32.toUInt16.toUInt32.toInt32)), .val (.int ((p1 &&& (255 : Int32)).toUInt32.toUInt16.toUInt32.toInt32)), .val (.int (((XT.ushr p1 (8 : Int32)) &&& (255 : Int32)).toUInt32.toUInt16.toUInt32.toInt32)), .val (.int ((p2 &&& (255 : Int32)).toUInt32.toUInt16.toUInt32.toInt32)), .val (.int (((XT.ushr p2 (8 : Int32)) &&& (255 : Int32)).toUInt32.toUInt16.toUInt32.toInt32)), .val (.int (1 : Int32)), .val (.ref a477), .val (.ref a480), .val (.ref a483), .val (.ref a486), .unset, .unset, .unset, .unset, .unset, .unset, .unset] [])) (fun _ k => XS.astore A487.here hx rfl (hb hby at_130) rfl rfl (l' := #[.val (.int p0), .val (.int p1), .val (.int p2), .val (.int p3), .val (.int ((p0 &&& (255 : Int32)).toUInt32.toUInt16.toUInt32.toInt32)), .val (.int (((XT.ushr p0 (8 : Int32)) &&& (255 : Int32)).toUInt32.toUInt16.toUInt32.toInt32)), .val (.int ((p1 &&& (255 : Int32)).toUInt32.toUInt16.toUInt32.toInt32)), .val (.int (((XT.ushr p1 (8 : Int32)) &&& (255 : Int32)).toUInt32.toUInt16.toUInt32.toInt32)), .val (.int ((p2 &&& (255 : Int32)).toUInt32.toUInt16.toUInt32.toInt32)), .val (.int (((XT.ushr p2 (8 : Int32)) &&& (255 : Int32)).toUInt32.toUInt16.toUInt32.toInt32)), .val (.int (1 : Int32)), .val (.ref a477), .val (.ref a480), .val (.ref a483), .val (.ref a486), .unset, .unset, .unset, .unset, .unset, .unset, .unset]) rfl k) ?_
    obtain ⟨a502, T502, h502, A502, E502, g502, Ex502, D502, st502⟩ := A487.newO hx (tw1 H.1) (tw2 H.1) (tw3 H.1) (g := (mkF m 132 #[.val (.int p0), .val (.int p1), .val (.int p2), .val (.int p3), .val (.int ((p0 &&& (255 : Int32)).toUInt32.toUInt16.toUInt32.toInt32)), .val (.int (((XT.ushr p0 (8 : Int32)) &&& (255 : Int32)).toUInt32.toUInt16.toUInt32.toInt32)), .val (.int ((p1 &&& (255 : Int32)).toUInt32.toUInt16.toUInt32.toInt32)), .val (.int (((XT.ushr p1 (8 : Int32)) &&& (255 : Int32)).toUInt32.toUInt16.toUInt32.toInt32)), .val (.int ((p2 &&& (255 : Int32)).toUInt32.toUInt16.toUInt32.toInt32)), .val (.int (((XT.ushr p2 (8 : Int32)) &&& (255 : Int32)).toUInt32.toUInt16.toUInt32.toInt32)), .val (.int (1 : Int32)), .val (.ref a477), .val (.ref a480), .val (.ref a483), .val (.ref a486), .unset, .unset, .unset, .unset, .unset, .unset, .unset] [])) rfl (hb hby at_132) (by decide) (by decide)
    refine Run.st (T502.setTop (mkF m 135 #[.val (.int p0), .val (.int p1), .val (.int p2), .val (.int p3), .val (.int ((p0 &&& (255 : Int32)).toUInt32.toUInt16.toUInt32.toInt32)), .val (.int (((XT.ushr p0 (8 : Int32)) &&& (255 : Int32)).toUInt32.toUInt16.toUInt32.toInt32)), .val (.int ((p1 &&& (255 : Int32)).toUInt32.toUInt16.toUInt32.toInt32)), .val (.int (((XT.ushr p1 (8 : Int32)) &&& (255 : Int32)).toUInt32.toUInt16.toUInt32.toInt32)), .val (.int ((p2 &&& (255 : Int32)).toUInt32.toUInt16.toUInt32.toInt32)), .val (.int (((XT.ushr p2 (8 : Int32)) &&& (255 : Int32)).toUInt32.toUInt16.toUInt32.toInt32)), .val (.int (1 : Int32)), .val (.ref a477), .val (.ref a480), .val (.ref a483), .val (.ref a486), .unset, .unset, .unset, .unset, .unset, .unset, .unset] [(.ref a502)])) st502 ?_
    refine Run.st (T502.setTop (mkF m 138 #[.val (.int p0), .val (.int p1), .val (.int p2), .val (.int p3), .val (.int ((p0 &&& (255 : Int32)).toUInt32.toUInt16.toUInt32.toInt32)), .val (.int (((XT.ushr p0 (8 : Int32)) &&& (255 : Int32)).toUInt32.toUInt16.toUInt32.toInt32)), .val (.int ((p1 &&& (255 : Int32)).toUInt32.toUInt16.toUInt32.toInt32)), .val (.int (((XT.ushr p1 (8 : Int32)) &&& (255 : Int32)).toUInt32.toUInt16.toUInt32.toInt32)), .val (.int ((p2 &&& (255 : Int32)).toUInt32.toUInt16.toUInt32.toInt32)), .val (.int (((XT.ushr p2 (8 : Int32)) &&& (255 : Int32)).toUInt32.toUInt16.toUInt32.toInt32)), .val (.int (1 : Int32)), .val (.ref a477), .val (.ref a480), .val (.ref a483), .val (.ref a486), .unset, .unset, .unset, .unset, .unset, .unset, .unset] [(.ref a480), (.ref a502), (.ref a502)])) (fun _ k => XS.dup A502.here hx rfl (hb hby at_135) rfl rfl (XS.aload A502.here hx rfl (hb hby at_136) rfl rfl k)) ?_
    have Z504 : h482.size ≤ h483.size := E483.1
    have Z505 : h482.size ≤ h484.size := Nat.le_trans Z504 K484.1
    have Z506 : h482.size ≤ h485.size := Nat.le_trans Z505 K485.1
    have X507 : Ext h482 h483 := E483
    have X508 : Ext h482 h484 := extK X507 K484 (allS (Nat.le_of_eq g483) all0)
    have X509 : Ext h482 h485 := extK X508 K485 (allS (Nat.le_of_eq g483) all0)
    have X510 : Ext h482 h486 := (extT X509 E486)
    have X511 : Ext h482 h487 := extK X510 K487 (allS (Nat.le_trans Z506 (Nat.le_of_eq g486)) all0)
    have X512 : Ext h482 h502 := (extT X511 E502)
    have f513 := V482.ext X512
    have V514 : Arv Z h502 a480 kA480 .char (2 : Int32) [(.int (nar .char ((p1 &&& (255 : Int32)).toUInt32.toUInt16.toUInt32.toInt32))), (.int (nar .char (((XT.ushr p1 (8 : Int32)) &&& (255 : Int32)).toUInt32.toUInt16.toUInt32.toInt32)))] (.int (0 : Int32)) := f513
    rw [c8n p1, c8n (XT.ushr p1 (8 : Int32))] at V514
    have F515 : Fld Z h502 a502 "java/lang/String" "value" "[B" .null := D502 (Or.inr (tw29 H.1)) (ty := (.array .byte)) (by decide)
    have F516 : Fld Z h502 a502 "java/lang/String" "coder" "B" (.int 0) := D502 (Or.inr (tw27 H.1)) (ty := .byte) (by decide)
    obtain ⟨v503, T503, h503, AA503, K503, ⟨L503, Q503⟩, st503⟩ := A502.callI hx (y := (⟨"java/lang/String", "<init>", "([C)V"⟩ : MethodName)) rfl (tw4 H.1) (tw5 H.1) (tw6 H.1) (by decide) (g := (mkF m 138 #[.val (.int p0), .val (.int p1), .val (.int p2), .val (.int p3), .val (.int ((p0 &&& (255 : Int32)).toUInt32.toUInt16.toUInt32.toInt32)), .val (.int (((XT.ushr p0 (8 : Int32)) &&& (255 : Int32)).toUInt32.toUInt16.toUInt32.toInt32)), .val (.int ((p1 &&& (255 : Int32)).toUInt32.toUInt16.toUInt32.toInt32)), .val (.int (((XT.ushr p1 (8 : Int32)) &&& (255 : Int32)).toUInt32.toUInt16.toUInt32.toInt32)), .val (.int ((p2 &&& (255 : Int32)).toUInt32.toUInt16.toUInt32.toInt32)), .val (.int (((XT.ushr p2 (8 : Int32)) &&& (255 : Int32)).toUInt32.toUInt16.toUInt32.toInt32)), .val (.int (1 : Int32)), .val (.ref a477), .val (.ref a480), .val (.ref a483), .val (.ref a486), .unset, .unset, .unset, .unset, .unset, .unset, .unset] [(.ref a480), (.ref a502), (.ref a502)])) rfl (by rw [hml]; rfl) a502 [(.ref a480)] [(.ref a502)] (lenOf pd_20 rfl) rfl (Wd := 1) (by show 2 * 0 + _ ≤ _; exact Nat.le_of_eq rfl) (hb hby at_138) (by decide) (by decide) [a502] (fun _ _ _ q => q.2.1) (allS (List.mem_of_getElem? (i := 0) rfl) all0) (fun vm0 hZ => payStr (nn := 2) H A502.old (A502.nle (List.mem_of_getElem? (i := 0) rfl)) Ex502 F515 F516 (cs := [(p1 &&& (255 : Int32)), ((XT.ushr p1 (8 : Int32)) &&& (255 : Int32))]) V514 rfl rfl (by decide) (by decide) (chsS (c8r p1) (chsS (c8r (XT.ushr p1 (8 : Int32))) chs0)) (by decide) (by decide) hZ)
    obtain ⟨rfl, -, S503⟩ := Q503
    have A503 := AA503 [] all0
    refine Run.st (T503.setTop (mkF m 141 #[.val (.int p0), .val (.int p1), .val (.int p2), .val (.int p3), .val (.int ((p0 &&& (255 : Int32)).toUInt32.toUInt16.toUInt32.toInt32)), .val (.int (((XT.ushr p0 (8 : Int32)) &&& (255 : Int32)).toUInt32.toUInt16.toUInt32.toInt32)), .val (.int ((p1 &&& (255 : Int32)).toUInt32.toUInt16.toUInt32.toInt32)), .val (.int (((XT.ushr p1 (8 : Int32)) &&& (255 : Int32)).toUInt32.toUInt16.toUInt32.toInt32)), .val (.int ((p2 &&& (255 : Int32)).toUInt32.toUInt16.toUInt32.toInt32)), .val (.int (((XT.ushr p2 (8 : Int32)) &&& (255 : Int32)).toUInt32.toUInt16.toUInt32.toInt32)), .val (.int (1 : Int32)), .val (.ref a477), .val (.ref a480), .val (.ref a483), .val (.ref a486), .unset, .unset, .unset, .unset, .unset, .unset, .unset] [(.ref a502)])) st503 ?_
    refine Run.st (T503.setTop (mkF m 148 #[.val (.int p0), .val (.int p1), .val (.int p2), .val (.int p3), .val (.int ((p0 &&& (255 : Int32)).toUInt32.toUInt16.toUInt32.toInt32)), .val (.int (((XT.ushr p0 (8 : Int32)) &&& (255 : Int32)).toUInt32.toUInt16.toUInt32.toInt32)), .val (.int ((p1 &&& (255 : Int32)).toUInt32.toUInt16.toUInt32.toInt32)), .val (.int (((XT.ushr p1 (8 : Int32)) &&& (255 : Int32)).toUInt32.toUInt16.toUInt32.toInt32)), .val (.int ((p2 &&& (255 : Int32)).toUInt32.toUInt16.toUInt32.toInt32)), .val (.int (((XT.ushr p2 (8 : Int32)) &&& (255 : Int32)).toUInt32.toUInt16.toUInt32.toInt32)), .val (.int (1 : Int32)), .val (.ref a477), .val (.ref a480), .val (.ref a483), .val (.ref a486), .val (.ref a502), .unset, .unset, .unset, .unset, .unset, .unset] [])) (fun _ k => XS.astore A503.here hx rfl (hb hby at_141) rfl rfl (l' := #[.val (.int p0), .val (.int p1), .val (.int p2), .val (.int p3), .val (.int ((p0 &&& (255 : Int32)).toUInt32.toUInt16.toUInt32.toInt32)), .val (.int (((XT.ushr p0 (8 : Int32)) &&& (255 : Int32)).toUInt32.toUInt16.toUInt32.toInt32)), .val (.int ((p1 &&& (255 : Int32)).toUInt32.toUInt16.toUInt32.toInt32)), .val (.int (((XT.ushr p1 (8 : Int32)) &&& (255 : Int32)).toUInt32.toUInt16.toUInt32.toInt32)), .val (.int ((p2 &&& (255 : Int32)).toUInt32.toUInt16.toUInt32.toInt32)), .val (.int (((XT.ushr p2 (8 : Int32)) &&& (255 : Int32)).toUInt32.toUInt16.toUInt32.toInt32)), .val (.int (1 : Int32)), .val (.ref a477), .val (.ref a480), .val (.ref a483), .val (.ref a486), .val (.ref a502), .unset, .unset, .unset, .unset, .unset, .unset]) rfl (XS.iload A503.here hx rfl (hb hby at_143) rfl (XS.ifNo A503.here hx rfl (hb hby at_145) rfl (by decide) k))) ?_
    obtain ⟨a517, T517, h517, A517, E517, g517, Ex517, D517, st517⟩ := A503.newO hx (tw1 H.1) (tw2 H.1) (tw3 H.1) (g := (mkF m 148 #[.val (.int p0), .val (.int p1), .val (.int p2), .val (.int p3), .val (.int ((p0 &&& (255 : Int32)).toUInt32.toUInt16.toUInt32.toInt32)), .val (.int (((XT.ushr p0 (8 : Int32)) &&& (255 : Int32)).toUInt32.toUInt16.toUInt32.toInt32)), .val (.int ((p1 &&& (255 : Int32)).toUInt32.toUInt16.toUInt32.toInt32)), .val (.int (((XT.ushr p1 (8 : Int32)) &&& (255 : Int32)).toUInt32.toUInt16.toUInt32.toInt32)), .val (.int ((p2 &&& (255 : Int32)).toUInt32.toUInt16.toUInt32.toInt32)), .val (.int (((XT.ushr p2 (8 : Int32)) &&& (255 : Int32)).toUInt32.toUInt16.toUInt32.toInt32)), .val (.int (1 : Int32)), .val (.ref a477), .val (.ref a480), .val (.ref a483), .val (.ref a486), .val (.ref a502), .unset, .unset, .unset, .unset, .unset, .unset] [])) rfl (hb hby at_148) (by decide) (by decide)
    refine Run.st (T517.setTop (mkF m 151 #[.val (.int p0), .val (.int p1), .val (.int p2), .val (.int p3), .val (.int ((p0 &&& (255 : Int32)).toUInt32.toUInt16.toUInt32.toInt32)), .val (.int (((XT.ushr p0 (8 : Int32)) &&& (255 : Int32)).toUInt32.toUInt16.toUInt32.toInt32)), .val (.int ((p1 &&& (255 : Int32)).toUInt32.toUInt16.toUInt32.toInt32)), .val (.int (((XT.ushr p1 (8 : Int32)) &&& (255 : Int32)).toUInt32.toUInt16.toUInt32.toInt32)), .val (.int ((p2 &&& (255 : Int32)).toUInt32.toUInt16.toUInt32.toInt32)), .val (.int (((XT.ushr p2 (8 : Int32)) &&& (255 : Int32)).toUInt32.toUInt16.toUInt32.toInt32)), .val (.int (1 : Int32)), .val (.ref a477), .val (.ref a480), .val (.ref a483), .val (.ref a486), .val (.ref a502), .unset, .unset, .unset, .unset, .unset, .unset] [(.ref a517)])) st517 ?_
    refine Run.st (T517.setTop (mkF m 154 #[.val (.int p0), .val (.int p1), .val (.int p2), .val (.int p3), .val (.int ((p0 &&& (255 : Int32)).toUInt32.toUInt16.toUInt32.toInt32)), .val (.int (((XT.ushr p0 (8 : Int32)) &&& (255 : Int32)).toUInt32.toUInt16.toUInt32.toInt32)), .val (.int ((p1 &&& (255 : Int32)).toUInt32.toUInt16.toUInt32.toInt32)), .val (.int (((XT.ushr p1 (8 : Int32)) &&& (255 : Int32)).toUInt32.toUInt16.toUInt32.toInt32)), .val (.int ((p2 &&& (255 : Int32)).toUInt32.toUInt16.toUInt32.toInt32)), .val (.int (((XT.ushr p2 (8 : Int32)) &&& (255 : Int32)).toUInt32.toUInt16.toUInt32.toInt32)), .val (.int (1 : Int32)), .val (.ref a477), .val (.ref a480), .val (.ref a483), .val (.ref a486), .val (.ref a502), .unset, .unset, .unset, .unset, .unset, .unset] [(.ref a483), (.ref a517), (.ref a517)])) (fun _ k => XS.dup A517.here hx rfl (hb hby at_151) rfl rfl (XS.aload A517.here hx rfl (hb hby at_152) rfl rfl k)) ?_
    have Z519 : h485.size ≤ h486.size := E486.1
    have Z520 : h485.size ≤ h487.size := Nat.le_trans Z519 K487.1
    have X521 : Ext h485 h486 := E486
    have X522 : Ext h485 h487 := extK X521 K487 (allS (Nat.le_of_eq g486) all0)
    have X523 : Ext h485 h502 := (extT X522 E502)
    have X524 : Ext h485 h503 := extK X523 K503 (allS (Nat.le_trans Z520 (Nat.le_of_eq g502)) all0)
    have X525 : Ext h485 h517 := (extT X524 E517)
    have f526 := V485.ext X525
    have V527 : Arv Z h517 a483 kA483 .char (2 : Int32) [(.int (nar .char ((p2 &&& (255 : Int32)).toUInt32.toUInt16.toUInt32.toInt32))), (.int (nar .char (((XT.ushr p2 (8 : Int32)) &&& (255 : Int32)).toUInt32.toUInt16.toUInt32.toInt32)))] (.int (0 : Int32)) := f526
    rw [c8n p2, c8n (XT.ushr p2 (8 : Int32))] at V527
    have F528 : Fld Z h517 a517 "java/lang/String" "value" "[B" .null := D517 (Or.inr (tw29 H.1)) (ty := (.array .byte)) (by decide)
    have F529 : Fld Z h517 a517 "java/lang/String" "coder" "B" (.int 0) := D517 (Or.inr (tw27 H.1)) (ty := .byte) (by decide)
    obtain ⟨v518, T518, h518, AA518, K518, ⟨L518, Q518⟩, st518⟩ := A517.callI hx (y := (⟨"java/lang/String", "<init>", "([C)V"⟩ : MethodName)) rfl (tw4 H.1) (tw5 H.1) (tw6 H.1) (by decide) (g := (mkF m 154 #[.val (.int p0), .val (.int p1), .val (.int p2), .val (.int p3), .val (.int ((p0 &&& (255 : Int32)).toUInt32.toUInt16.toUInt32.toInt32)), .val (.int (((XT.ushr p0 (8 : Int32)) &&& (255 : Int32)).toUInt32.toUInt16.toUInt32.toInt32)), .val (.int ((p1 &&& (255 : Int32)).toUInt32.toUInt16.toUInt32.toInt32)), .val (.int (((XT.ushr p1 (8 : Int32)) &&& (255 : Int32)).toUInt32.toUInt16.toUInt32.toInt32)), .val (.int ((p2 &&& (255 : Int32)).toUInt32.toUInt16.toUInt32.toInt32)), .val (.int (((XT.ushr p2 (8 : Int32)) &&& (255 : Int32)).toUInt32.toUInt16.toUInt32.toInt32)), .val (.int (1 : Int32)), .val (.ref a477), .val (.ref a480), .val (.ref a483), .val (.ref a486), .val (.ref a502), .unset, .unset, .unset, .unset, .unset, .unset] [(.ref a483), (.ref a517), (.ref a517)])) rfl (by rw [hml]; rfl) a517 [(.ref a483)] [(.ref a517)] (lenOf pd_20 rfl) rfl (Wd := 1) (by show 2 * 0 + _ ≤ _; exact Nat.le_of_eq rfl) (hb hby at_154) (by decide) (by decide) [a517] (fun _ _ _ q => q.2.1) (allS (List.mem_of_getElem? (i := 0) rfl) all0) (fun vm0 hZ => payStr (nn := 2) H A517.old (A517.nle (List.mem_of_getElem? (i := 0) rfl)) Ex517 F528 F529 (cs := [(p2 &&& (255 : Int32)), ((XT.ushr p2 (8 : Int32)) &&& (255 : Int32))]) V527 rfl rfl (by decide) (by decide) (chsS (c8r p2) (chsS (c8r (XT.ushr p2 (8 : Int32))) chs0)) (by decide) (by decide) hZ)
    obtain ⟨rfl, -, S518⟩ := Q518
    have A518 := AA518 [] all0
    refine Run.st (T518.setTop (mkF m 157 #[.val (.int p0), .val (.int p1), .val (.int p2), .val (.int p3), .val (.int ((p0 &&& (255 : Int32)).toUInt32.toUInt16.toUInt32.toInt32)), .val (.int (((XT.ushr p0 (8 : Int32)) &&& (255 : Int32)).toUInt32.toUInt16.toUInt32.toInt32)), .val (.int ((p1 &&& (255 : Int32)).toUInt32.toUInt16.toUInt32.toInt32)), .val (.int (((XT.ushr p1 (8 : Int32)) &&& (255 : Int32)).toUInt32.toUInt16.toUInt32.toInt32)), .val (.int ((p2 &&& (255 : Int32)).toUInt32.toUInt16.toUInt32.toInt32)), .val (.int (((XT.ushr p2 (8 : Int32)) &&& (255 : Int32)).toUInt32.toUInt16.toUInt32.toInt32)), .val (.int (1 : Int32)), .val (.ref a477), .val (.ref a480), .val (.ref a483), .val (.ref a486), .val (.ref a502), .unset, .unset, .unset, .unset, .unset, .unset] [(.ref a517)])) st518 ?_
    refine Run.st (T518.setTop (mkF m 165 #[.val (.int p0), .val (.int p1), .val (.int p2), .val (.int p3), .val (.int ((p0 &&& (255 : Int32)).toUInt32.toUInt16.toUInt32.toInt32)), .val (.int (((XT.ushr p0 (8 : Int32)) &&& (255 : Int32)).toUInt32.toUInt16.toUInt32.toInt32)), .val (.int ((p1 &&& (255 : Int32)).toUInt32.toUInt16.toUInt32.toInt32)), .val (.int (((XT.ushr p1 (8 : Int32)) &&& (255 : Int32)).toUInt32.toUInt16.toUInt32.toInt32)), .val (.int ((p2 &&& (255 : Int32)).toUInt32.toUInt16.toUInt32.toInt32)), .val (.int (((XT.ushr p2 (8 : Int32)) &&& (255 : Int32)).toUInt32.toUInt16.toUInt32.toInt32)), .val (.int (1 : Int32)), .val (.ref a477), .val (.ref a480), .val (.ref a483), .val (.ref a486), .val (.ref a502), .val (.ref a517), .unset, .unset, .unset, .unset, .unset] [(.int (14 : Int32))])) (fun _ k => XS.goto A518.here hx rfl (pc0 := 157) (pc' := 161) rfl (hb hby at_157) (by decide) (by decide) (XS.astore A518.here hx rfl (hb hby at_161) rfl rfl (l' := #[.val (.int p0), .val (.int p1), .val (.int p2), .val (.int p3), .val (.int ((p0 &&& (255 : Int32)).toUInt32.toUInt16.toUInt32.toInt32)), .val (.int (((XT.ushr p0 (8 : Int32)) &&& (255 : Int32)).toUInt32.toUInt16.toUInt32.toInt32)), .val (.int ((p1 &&& (255 : Int32)).toUInt32.toUInt16.toUInt32.toInt32)), .val (.int (((XT.ushr p1 (8 : Int32)) &&& (255 : Int32)).toUInt32.toUInt16.toUInt32.toInt32)), .val (.int ((p2 &&& (255 : Int32)).toUInt32.toUInt16.toUInt32.toInt32)), .val (.int (((XT.ushr p2 (8 : Int32)) &&& (255 : Int32)).toUInt32.toUInt16.toUInt32.toInt32)), .val (.int (1 : Int32)), .val (.ref a477), .val (.ref a480), .val (.ref a483), .val (.ref a486), .val (.ref a502), .val (.ref a517), .unset, .unset, .unset, .unset, .unset]) rfl (XS.bipush A518.here hx rfl (hb hby at_163) k))) ?_
    obtain ⟨a530, T530, h530, kA530, A530, E530, g530, V530, st530⟩ := A518.newP hx (aty := .char) (N := (14 : Int32)) (tw0 H.1) (g := (mkF m 165 #[.val (.int p0), .val (.int p1), .val (.int p2), .val (.int p3), .val (.int ((p0 &&& (255 : Int32)).toUInt32.toUInt16.toUInt32.toInt32)), .val (.int (((XT.ushr p0 (8 : Int32)) &&& (255 : Int32)).toUInt32.toUInt16.toUInt32.toInt32)), .val (.int ((p1 &&& (255 : Int32)).toUInt32.toUInt16.toUInt32.toInt32)), .val (.int (((XT.ushr p1 (8 : Int32)) &&& (255 : Int32)).toUInt32.toUInt16.toUInt32.toInt32)), .val (.int ((p2 &&& (255 : Int32)).toUInt32.toUInt16.toUInt32.toInt32)), .val (.int (((XT.ushr p2 (8 : Int32)) &&& (255 : Int32)).toUInt32.toUInt16.toUInt32.toInt32)), .val (.int (1 : Int32)), .val (.ref a477), .val (.ref a480), .val (.ref a483), .val (.ref a486), .val (.ref a502), .val (.ref a517), .unset, .unset, .unset, .unset, .unset] [(.int (14 : Int32))])) rfl (hb hby at_165) rfl (by decide) (cap := 14) (by decide) (by decide) (by decide) (by decide)
    refine Run.st (T530.setTop (mkF m 167 #[.val (.int p0), .val (.int p1), .val (.int p2), .val (.int p3), .val (.int ((p0 &&& (255 : Int32)).toUInt32.toUInt16.toUInt32.toInt32)), .val (.int (((XT.ushr p0 (8 : Int32)) &&& (255 : Int32)).toUInt32.toUInt16.toUInt32.toInt32)), .val (.int ((p1 &&& (255 : Int32)).toUInt32.toUInt16.toUInt32.toInt32)), .val (.int (((XT.ushr p1 (8 : Int32)) &&& (255 : Int32)).toUInt32.toUInt16.toUInt32.toInt32)), .val (.int ((p2 &&& (255 : Int32)).toUInt32.toUInt16.toUInt32.toInt32)), .val (.int (((XT.ushr p2 (8 : Int32)) &&& (255 : Int32)).toUInt32.toUInt16.toUInt32.toInt32)), .val (.int (1 : Int32)), .val (.ref a477), .val (.ref a480), .val (.ref a483), .val (.ref a486), .val (.ref a502), .val (.ref a517), .unset, .unset, .unset, .unset, .unset] [(.ref a530)])) st530 ?_
    refine Run.st (T530.setTop (mkF m 179 #[.val (.int p0), .val (.int p1), .val (.int p2), .val (.int p3), .val (.int ((p0 &&& (255 : Int32)).toUInt32.toUInt16.toUInt32.toInt32)), .val (.int (((XT.ushr p0 (8 : Int32)) &&& (255 : Int32)).toUInt32.toUInt16.toUInt32.toInt32)), .val (.int ((p1 &&& (255 : Int32)).toUInt32.toUInt16.toUInt32.toInt32)), .val (.int (((XT.ushr p1 (8 : Int32)) &&& (255 : Int32)).toUInt32.toUInt16.toUInt32.toInt32)), .val (.int ((p2 &&& (255 : Int32)).toUInt32.toUInt16.toUInt32.toInt32)), .val (.int (((XT.ushr p2 (8 : Int32)) &&& (255 : Int32)).toUInt32.toUInt16.toUInt32.toInt32)), .val (.int (1 : Int32)), .val (.ref a477), .val (.ref a480), .val (.ref a483), .val (.ref a486), .val (.ref a502), .val (.ref a517), .val (.ref a530), .unset, .unset, .unset, .unset] [(.int (((XT.ushr p1 (8 : Int32)) &&& (255 : Int32)).toUInt32.toUInt16.toUInt32.toInt32)), (.int ((p1 &&& (255 : Int32)).toUInt32.toUInt16.toUInt32.toInt32)), (.int (((XT.ushr p0 (8 : Int32)) &&& (255 : Int32)).toUInt32.toUInt16.toUInt32.toInt32)), (.int ((p0 &&& (255 : Int32)).toUInt32.toUInt16.toUInt32.toInt32)), (.ref a530)])) (fun _ k => XS.astore A530.here hx rfl (hb hby at_167) rfl rfl (l' := #[.val (.int p0), .val (.int p1), .val (.int p2), .val (.int p3), .val (.int ((p0 &&& (255 : Int32)).toUInt32.toUInt16.toUInt32.toInt32)), .val (.int (((XT.ushr p0 (8 : Int32)) &&& (255 : Int32)).toUInt32.toUInt16.toUInt32.toInt32)), .val (.int ((p1 &&& (255 : Int32)).toUInt32.toUInt16.toUInt32.toInt32)), .val (.int (((XT.ushr p1 (8 : Int32)) &&& (255 : Int32)).toUInt32.toUInt16.toUInt32.toInt32)), .val (.int ((p2 &&& (255 : Int32)).toUInt32.toUInt16.toUInt32.toInt32)), .val (.int (((XT.ushr p2 (8 : Int32)) &&& (255 : Int32)).toUInt32.toUInt16.toUInt32.toInt32)), .val (.int (1 : Int32)), .val (.ref a477), .val (.ref a480), .val (.ref a483), .val (.ref a486), .val (.ref a502), .val (.ref a517), .val (.ref a530), .unset, .unset, .unset, .unset]) rfl (XS.aload A530.here hx rfl (hb hby at_169) rfl rfl (XS.iload A530.here hx rfl (hb hby at_171) rfl (XS.iload A530.here hx rfl (hb hby at_173) rfl (XS.iload A530.here hx rfl (hb hby at_175) rfl (XS.iload A530.here hx rfl (hb hby at_177) rfl k)))))) ?_
    obtain ⟨v531, T531, h531, AA531, K531, ⟨L531, Q531⟩, st531⟩ := A530.callS hx (tw30 H.1) (tw31 H.1) (tw32 H.1) (tw33 H.1) (by decide) (g := (mkF m 179 #[.val (.int p0), .val (.int p1), .val (.int p2), .val (.int p3), .val (.int ((p0 &&& (255 : Int32)).toUInt32.toUInt16.toUInt32.toInt32)), .val (.int (((XT.ushr p0 (8 : Int32)) &&& (255 : Int32)).toUInt32.toUInt16.toUInt32.toInt32)), .val (.int ((p1 &&& (255 : Int32)).toUInt32.toUInt16.toUInt32.toInt32)), .val (.int (((XT.ushr p1 (8 : Int32)) &&& (255 : Int32)).toUInt32.toUInt16.toUInt32.toInt32)), .val (.int ((p2 &&& (255 : Int32)).toUInt32.toUInt16.toUInt32.toInt32)), .val (.int (((XT.ushr p2 (8 : Int32)) &&& (255 : Int32)).toUInt32.toUInt16.toUInt32.toInt32)), .val (.int (1 : Int32)), .val (.ref a477), .val (.ref a480), .val (.ref a483), .val (.ref a486), .val (.ref a502), .val (.ref a517), .val (.ref a530), .unset, .unset, .unset, .unset] [(.int (((XT.ushr p1 (8 : Int32)) &&& (255 : Int32)).toUInt32.toUInt16.toUInt32.toInt32)), (.int ((p1 &&& (255 : Int32)).toUInt32.toUInt16.toUInt32.toInt32)), (.int (((XT.ushr p0 (8 : Int32)) &&& (255 : Int32)).toUInt32.toUInt16.toUInt32.toInt32)), (.int ((p0 &&& (255 : Int32)).toUInt32.toUInt16.toUInt32.toInt32)), (.ref a530)])) rfl (by rw [hml]; rfl) [(.ref a530), (.int ((p0 &&& (255 : Int32)).toUInt32.toUInt16.toUInt32.toInt32)), (.int (((XT.ushr p0 (8 : Int32)) &&& (255 : Int32)).toUInt32.toUInt16.toUInt32.toInt32)), (.int ((p1 &&& (255 : Int32)).toUInt32.toUInt16.toUInt32.toInt32)), (.int (((XT.ushr p1 (8 : Int32)) &&& (255 : Int32)).toUInt32.toUInt16.toUInt32.toInt32))] [] (lenOf pd_21 rfl) rfl (Wd := 0) (by show 2 * 0 + _ ≤ _; exact Nat.le_of_eq rfl) (hb hby at_179) (by decide) (by decide) [a530] (fun _ _ _ q => q.2) (allS (List.mem_of_getElem? (i := 0) rfl) all0) (fun vm0 hZ => payN (ct_head14 H a530 kA530 ((p0 &&& (255 : Int32)).toUInt32.toUInt16.toUInt32.toInt32) (((XT.ushr p0 (8 : Int32)) &&& (255 : Int32)).toUInt32.toUInt16.toUInt32.toInt32) ((p1 &&& (255 : Int32)).toUInt32.toUInt16.toUInt32.toInt32) (((XT.ushr p1 (8 : Int32)) &&& (255 : Int32)).toUInt32.toUInt16.toUInt32.toInt32) A530.old V530 (A530.nle (List.mem_of_getElem? (i := 0) rfl)) V530.lt) (tw33 H.1) (tw32 H.1) (by decide) (by decide) hZ)
    obtain ⟨Q531, N531, -⟩ := Q531
    obtain ⟨rfl, Vh531⟩ := Q531
    have A531 := AA531 [] all0
    refine Run.st (T531.setTop (mkF m 182 #[.val (.int p0), .val (.int p1), .val (.int p2), .val (.int p3), .val (.int ((p0 &&& (255 : Int32)).toUInt32.toUInt16.toUInt32.toInt32)), .val (.int (((XT.ushr p0 (8 : Int32)) &&& (255 : Int32)).toUInt32.toUInt16.toUInt32.toInt32)), .val (.int ((p1 &&& (255 : Int32)).toUInt32.toUInt16.toUInt32.toInt32)), .val (.int (((XT.ushr p1 (8 : Int32)) &&& (255 : Int32)).toUInt32.toUInt16.toUInt32.toInt32)), .val (.int ((p2 &&& (255 : Int32)).toUInt32.toUInt16.toUInt32.toInt32)), .val (.int (((XT.ushr p2 (8 : Int32)) &&& (255 : Int32)).toUInt32.toUInt16.toUInt32.toInt32)), .val (.int (1 : Int32)), .val (.ref a477), .val (.ref a480), .val (.ref a483), .val (.ref a486), .val (.ref a502), .val (.ref a517), .val (.ref a530), .unset, .unset, .unset, .unset] [])) st531 ?_
    refine Run.st (T531.setTop (mkF m 184 #[.val (.int p0), .val (.int p1), .val (.int p2), .val (.int p3), .val (.int ((p0 &&& (255 : Int32)).toUInt32.toUInt16.toUInt32.toInt32)), .val (.int (((XT.ushr p0 (8 : Int32)) &&& (255 : Int32)).toUInt32.toUInt16.toUInt32.toInt32)), .val (.int ((p1 &&& (255 : Int32)).toUInt32.toUInt16.toUInt32.toInt32)), .val (.int (((XT.ushr p1 (8 : Int32)) &&& (255 : Int32)).toUInt32.toUInt16.toUInt32.toInt32)), .val (.int ((p2 &&& (255 : Int32)).toUInt32.toUInt16.toUInt32.toInt32)), .val (.int (((XT.ushr p2 (8 : Int32)) &&& (255 : Int32)).toUInt32.toUInt16.toUInt32.toInt32)), .val (.int (1 : Int32)), .val (.ref a477), .val (.ref a480), .val (.ref a483), .val (.ref a486), .val (.ref a502), .val (.ref a517), .val (.ref a530), .unset, .unset, .unset, .unset] [(.int (25 : Int32))])) (fun _ k => XS.bipush A531.here hx rfl (hb hby at_182) k) ?_
    obtain ⟨a532, T532, h532, kA532, A532, E532, g532, V532, st532⟩ := A531.newP hx (aty := .char) (N := (25 : Int32)) (tw0 H.1) (g := (mkF m 184 #[.val (.int p0), .val (.int p1), .val (.int p2), .val (.int p3), .val (.int ((p0 &&& (255 : Int32)).toUInt32.toUInt16.toUInt32.toInt32)), .val (.int (((XT.ushr p0 (8 : Int32)) &&& (255 : Int32)).toUInt32.toUInt16.toUInt32.toInt32)), .val (.int ((p1 &&& (255 : Int32)).toUInt32.toUInt16.toUInt32.toInt32)), .val (.int (((XT.ushr p1 (8 : Int32)) &&& (255 : Int32)).toUInt32.toUInt16.toUInt32.toInt32)), .val (.int ((p2 &&& (255 : Int32)).toUInt32.toUInt16.toUInt32.toInt32)), .val (.int (((XT.ushr p2 (8 : Int32)) &&& (255 : Int32)).toUInt32.toUInt16.toUInt32.toInt32)), .val (.int (1 : Int32)), .val (.ref a477), .val (.ref a480), .val (.ref a483), .val (.ref a486), .val (.ref a502), .val (.ref a517), .val (.ref a530), .unset, .unset, .unset, .unset] [(.int (25 : Int32))])) rfl (hb hby at_184) rfl (by decide) (cap := 25) (by decide) (by decide) (by decide) (by decide)
    refine Run.st (T532.setTop (mkF m 186 #[.val (.int p0), .val (.int p1), .val (.int p2), .val (.int p3), .val (.int ((p0 &&& (255 : Int32)).toUInt32.toUInt16.toUInt32.toInt32)), .val (.int (((XT.ushr p0 (8 : Int32)) &&& (255 : Int32)).toUInt32.toUInt16.toUInt32.toInt32)), .val (.int ((p1 &&& (255 : Int32)).toUInt32.toUInt16.toUInt32.toInt32)), .val (.int (((XT.ushr p1 (8 : Int32)) &&& (255 : Int32)).toUInt32.toUInt16.toUInt32.toInt32)), .val (.int ((p2 &&& (255 : Int32)).toUInt32.toUInt16.toUInt32.toInt32)), .val (.int (((XT.ushr p2 (8 : Int32)) &&& (255 : Int32)).toUInt32.toUInt16.toUInt32.toInt32)), .val (.int (1 : Int32)), .val (.ref a477), .val (.ref a480), .val (.ref a483), .val (.ref a486), .val (.ref a502), .val (.ref a517), .val (.ref a530), .unset, .unset, .unset, .unset] [(.ref a532)])) st532 ?_
    refine Run.st (T532.setTop (mkF m 198 #[.val (.int p0), .val (.int p1), .val (.int p2), .val (.int p3), .val (.int ((p0 &&& (255 : Int32)).toUInt32.toUInt16.toUInt32.toInt32)), .val (.int (((XT.ushr p0 (8 : Int32)) &&& (255 : Int32)).toUInt32.toUInt16.toUInt32.toInt32)), .val (.int ((p1 &&& (255 : Int32)).toUInt32.toUInt16.toUInt32.toInt32)), .val (.int (((XT.ushr p1 (8 : Int32)) &&& (255 : Int32)).toUInt32.toUInt16.toUInt32.toInt32)), .val (.int ((p2 &&& (255 : Int32)).toUInt32.toUInt16.toUInt32.toInt32)), .val (.int (((XT.ushr p2 (8 : Int32)) &&& (255 : Int32)).toUInt32.toUInt16.toUInt32.toInt32)), .val (.int (1 : Int32)), .val (.ref a477), .val (.ref a480), .val (.ref a483), .val (.ref a486), .val (.ref a502), .val (.ref a517), .val (.ref a530), .val (.ref a532), .unset, .unset, .unset] [(.int (((XT.ushr p1 (8 : Int32)) &&& (255 : Int32)).toUInt32.toUInt16.toUInt32.toInt32)), (.int ((p1 &&& (255 : Int32)).toUInt32.toUInt16.toUInt32.toInt32)), (.int (((XT.ushr p0 (8 : Int32)) &&& (255 : Int32)).toUInt32.toUInt16.toUInt32.toInt32)), (.int ((p0 &&& (255 : Int32)).toUInt32.toUInt16.toUInt32.toInt32)), (.ref a532)])) (fun _ k => XS.astore A532.here hx rfl (hb hby at_186) rfl rfl (l' := #[.val (.int p0), .val (.int p1), .val (.int p2), .val (.int p3), .val (.int ((p0 &&& (255 : Int32)).toUInt32.toUInt16.toUInt32.toInt32)), .val (.int (((XT.ushr p0 (8 : Int32)) &&& (255 : Int32)).toUInt32.toUInt16.toUInt32.toInt32)), .val (.int ((p1 &&& (255 : Int32)).toUInt32.toUInt16.toUInt32.toInt32)), .val (.int (((XT.ushr p1 (8 : Int32)) &&& (255 : Int32)).toUInt32.toUInt16.toUInt32.toInt32)), .val (.int ((p2 &&& (255 : Int32)).toUInt32.toUInt16.toUInt32.toInt32)), .val (.int (((XT.ushr p2 (8 : Int32)) &&& (255 : Int32)).toUInt32.toUInt16.toUInt32.toInt32)), .val (.int (1 : Int32)), .val (.ref a477), .val (.ref a480), .val (.ref a483), .val (.ref a486), .val (.ref a502), .val (.ref a517), .val (.ref a530), .val (.ref a532), .unset, .unset, .unset]) rfl (XS.aload A532.here hx rfl (hb hby at_188) rfl rfl (XS.iload A532.here hx rfl (hb hby at_190) rfl (XS.iload A532.here hx rfl (hb hby at_192) rfl (XS.iload A532.here hx rfl (hb hby at_194) rfl (XS.iload A532.here hx rfl (hb hby at_196) rfl k)))))) ?_
    obtain ⟨v533, T533, h533, AA533, K533, ⟨L533, Q533⟩, st533⟩ := A532.callS hx (tw30 H.1) (tw31 H.1) (tw32 H.1) (tw33 H.1) (by decide) (g := (mkF m 198 #[.val (.int p0), .val (.int p1), .val (.int p2), .val (.int p3), .val (.int ((p0 &&& (255 : Int32)).toUInt32.toUInt16.toUInt32.toInt32)), .val (.int (((XT.ushr p0 (8 : Int32)) &&& (255 : Int32)).toUInt32.toUInt16.toUInt32.toInt32)), .val (.int ((p1 &&& (255 : Int32)).toUInt32.toUInt16.toUInt32.toInt32)), .val (.int (((XT.ushr p1 (8 : Int32)) &&& (255 : Int32)).toUInt32.toUInt16.toUInt32.toInt32)), .val (.int ((p2 &&& (255 : Int32)).toUInt32.toUInt16.toUInt32.toInt32)), .val (.int (((XT.ushr p2 (8 : Int32)) &&& (255 : Int32)).toUInt32.toUInt16.toUInt32.toInt32)), .val (.int (1 : Int32)), .val (.ref a477), .val (.ref a480), .val (.ref a483), .val (.ref a486), .val (.ref a502), .val (.ref a517), .val (.ref a530), .val (.ref a532), .unset, .unset, .unset] [(.int (((XT.ushr p1 (8 : Int32)) &&& (255 : Int32)).toUInt32.toUInt16.toUInt32.toInt32)), (.int ((p1 &&& (255 : Int32)).toUInt32.toUInt16.toUInt32.toInt32)), (.int (((XT.ushr p0 (8 : Int32)) &&& (255 : Int32)).toUInt32.toUInt16.toUInt32.toInt32)), (.int ((p0 &&& (255 : Int32)).toUInt32.toUInt16.toUInt32.toInt32)), (.ref a532)])) rfl (by rw [hml]; rfl) [(.ref a532), (.int ((p0 &&& (255 : Int32)).toUInt32.toUInt16.toUInt32.toInt32)), (.int (((XT.ushr p0 (8 : Int32)) &&& (255 : Int32)).toUInt32.toUInt16.toUInt32.toInt32)), (.int ((p1 &&& (255 : Int32)).toUInt32.toUInt16.toUInt32.toInt32)), (.int (((XT.ushr p1 (8 : Int32)) &&& (255 : Int32)).toUInt32.toUInt16.toUInt32.toInt32))] [] (lenOf pd_21 rfl) rfl (Wd := 0) (by show 2 * 0 + _ ≤ _; exact Nat.le_of_eq rfl) (hb hby at_198) (by decide) (by decide) [a532] (fun _ _ _ q => q.2) (allS (List.mem_of_getElem? (i := 0) rfl) all0) (fun vm0 hZ => payN (ct_head25 H a532 kA532 ((p0 &&& (255 : Int32)).toUInt32.toUInt16.toUInt32.toInt32) (((XT.ushr p0 (8 : Int32)) &&& (255 : Int32)).toUInt32.toUInt16.toUInt32.toInt32) ((p1 &&& (255 : Int32)).toUInt32.toUInt16.toUInt32.toInt32) (((XT.ushr p1 (8 : Int32)) &&& (255 : Int32)).toUInt32.toUInt16.toUInt32.toInt32) A532.old V532 (A532.nle (List.mem_of_getElem? (i := 0) rfl)) V532.lt) (tw33 H.1) (tw32 H.1) (by decide) (by decide) hZ)
    obtain ⟨Q533, N533, -⟩ := Q533
    obtain ⟨rfl, Vh533⟩ := Q533
    have A533 := AA533 [] all0
    refine Run.st (T533.setTop (mkF m 201 #[.val (.int p0), .val (.int p1), .val (.int p2), .val (.int p3), .val (.int ((p0 &&& (255 : Int32)).toUInt32.toUInt16.toUInt32.toInt32)), .val (.int (((XT.ushr p0 (8 : Int32)) &&& (255 : Int32)).toUInt32.toUInt16.toUInt32.toInt32)), .val (.int ((p1 &&& (255 : Int32)).toUInt32.toUInt16.toUInt32.toInt32)), .val (.int (((XT.ushr p1 (8 : Int32)) &&& (255 : Int32)).toUInt32.toUInt16.toUInt32.toInt32)), .val (.int ((p2 &&& (255 : Int32)).toUInt32.toUInt16.toUInt32.toInt32)), .val (.int (((XT.ushr p2 (8 : Int32)) &&& (255 : Int32)).toUInt32.toUInt16.toUInt32.toInt32)), .val (.int (1 : Int32)), .val (.ref a477), .val (.ref a480), .val (.ref a483), .val (.ref a486), .val (.ref a502), .val (.ref a517), .val (.ref a530), .val (.ref a532), .unset, .unset, .unset] [])) st533 ?_
    refine Run.st (T533.setTop (mkF m 207 #[.val (.int p0), .val (.int p1), .val (.int p2), .val (.int p3), .val (.int ((p0 &&& (255 : Int32)).toUInt32.toUInt16.toUInt32.toInt32)), .val (.int (((XT.ushr p0 (8 : Int32)) &&& (255 : Int32)).toUInt32.toUInt16.toUInt32.toInt32)), .val (.int ((p1 &&& (255 : Int32)).toUInt32.toUInt16.toUInt32.toInt32)), .val (.int (((XT.ushr p1 (8 : Int32)) &&& (255 : Int32)).toUInt32.toUInt16.toUInt32.toInt32)), .val (.int ((p2 &&& (255 : Int32)).toUInt32.toUInt16.toUInt32.toInt32)), .val (.int (((XT.ushr p2 (8 : Int32)) &&& (255 : Int32)).toUInt32.toUInt16.toUInt32.toInt32)), .val (.int (1 : Int32)), .val (.ref a477), .val (.ref a480), .val (.ref a483), .val (.ref a486), .val (.ref a502), .val (.ref a517), .val (.ref a530), .val (.ref a532), .unset, .unset, .unset] [(.int (32 : Int32)), (.int (14 : Int32)), (.ref a532)])) (fun _ k => XS.aload A533.here hx rfl (hb hby at_201) rfl rfl (XS.bipush A533.here hx rfl (hb hby at_203) (XS.bipush A533.here hx rfl (hb hby at_205) k))) ?_
    obtain ⟨T534, h534, A534, K534, V534, st534⟩ := A533.stC hx Vh533 (List.mem_of_getElem? (i := 0) rfl) (j := (14 : Int32)) 14 rfl ⟨by decide, by decide⟩ (Nat.le_of_ble_eq_true rfl) (g := (mkF m 207 #[.val (.int p0), .val (.int p1), .val (.int p2), .val (.int p3), .val (.int ((p0 &&& (255 : Int32)).toUInt32.toUInt16.toUInt32.toInt32)), .val (.int (((XT.ushr p0 (8 : Int32)) &&& (255 : Int32)).toUInt32.toUInt16.toUInt32.toInt32)), .val (.int ((p1 &&& (255 : Int32)).toUInt32.toUInt16.toUInt32.toInt32)), .val (.int (((XT.ushr p1 (8 : Int32)) &&& (255 : Int32)).toUInt32.toUInt16.toUInt32.toInt32)), .val (.int ((p2 &&& (255 : Int32)).toUInt32.toUInt16.toUInt32.toInt32)), .val (.int (((XT.ushr p2 (8 : Int32)) &&& (255 : Int32)).toUInt32.toUInt16.toUInt32.toInt32)), .val (.int (1 : Int32)), .val (.ref a477), .val (.ref a480), .val (.ref a483), .val (.ref a486), .val (.ref a502), .val (.ref a517), .val (.ref a530), .val (.ref a532), .unset, .unset, .unset] [(.int (32 : Int32)), (.int (14 : Int32)), (.ref a532)])) rfl rfl (hb hby at_207)
    refine Run.st (T534.setTop (mkF m 208 #[.val (.int p0), .val (.int p1), .val (.int p2), .val (.int p3), .val (.int ((p0 &&& (255 : Int32)).toUInt32.toUInt16.toUInt32.toInt32)), .val (.int (((XT.ushr p0 (8 : Int32)) &&& (255 : Int32)).toUInt32.toUInt16.toUInt32.toInt32)), .val (.int ((p1 &&& (255 : Int32)).toUInt32.toUInt16.toUInt32.toInt32)), .val (.int (((XT.ushr p1 (8 : Int32)) &&& (255 : Int32)).toUInt32.toUInt16.toUInt32.toInt32)), .val (.int ((p2 &&& (255 : Int32)).toUInt32.toUInt16.toUInt32.toInt32)), .val (.int (((XT.ushr p2 (8 : Int32)) &&& (255 : Int32)).toUInt32.toUInt16.toUInt32.toInt32)), .val (.int (1 : Int32)), .val (.ref a477), .val (.ref a480), .val (.ref a483), .val (.ref a486), .val (.ref a502), .val (.ref a517), .val (.ref a530), .val (.ref a532), .unset, .unset, .unset] [])) st534 ?_
    refine Run.st (T534.setTop (mkF m 214 #[.val (.int p0), .val (.int p1), .val (.int p2), .val (.int p3), .val (.int ((p0 &&& (255 : Int32)).toUInt32.toUInt16.toUInt32.toInt32)), .val (.int (((XT.ushr p0 (8 : Int32)) &&& (255 : Int32)).toUInt32.toUInt16.toUInt32.toInt32)), .val (.int ((p1 &&& (255 : Int32)).toUInt32.toUInt16.toUInt32.toInt32)), .val (.int (((XT.ushr p1 (8 : Int32)) &&& (255 : Int32)).toUInt32.toUInt16.toUInt32.toInt32)), .val (.int ((p2 &&& (255 : Int32)).toUInt32.toUInt16.toUInt32.toInt32)), .val (.int (((XT.ushr p2 (8 : Int32)) &&& (255 : Int32)).toUInt32.toUInt16.toUInt32.toInt32)), .val (.int (1 : Int32)), .val (.ref a477), .val (.ref a480), .val (.ref a483), .val (.ref a486), .val (.ref a502), .val (.ref a517), .val (.ref a530), .val (.ref a532), .unset, .unset, .unset] [(.int (67 : Int32)), (.int (15 : Int32)), (.ref a532)])) (fun _ k => XS.aload A534.here hx rfl (hb hby at_208) rfl rfl (XS.bipush A534.here hx rfl (hb hby at_210) (XS.bipush A534.here hx rfl (hb hby at_212) k))) ?_
    obtain ⟨T535, h535, A535, K535, V535, st535⟩ := A534.stC hx V534 (List.mem_of_getElem? (i := 0) rfl) (j := (15 : Int32)) 15 rfl ⟨by decide, by decide⟩ (Nat.le_of_ble_eq_true rfl) (g := (mkF m 214 #[.val (.int p0), .val (.int p1), .val (.int p2), .val (.int p3), .val (.int ((p0 &&& (255 : Int32)).toUInt32.toUInt16.toUInt32.toInt32)), .val (.int (((XT.ushr p0 (8 : Int32)) &&& (255 : Int32)).toUInt32.toUInt16.toUInt32.toInt32)), .val (.int ((p1 &&& (255 : Int32)).toUInt32.toUInt16.toUInt32.toInt32)), .val (.int (((XT.ushr p1 (8 : Int32)) &&& (255 : Int32)).toUInt32.toUInt16.toUInt32.toInt32)), .val (.int ((p2 &&& (255 : Int32)).toUInt32.toUInt16.toUInt32.toInt32)), .val (.int (((XT.ushr p2 (8 : Int32)) &&& (255 : Int32)).toUInt32.toUInt16.toUInt32.toInt32)), .val (.int (1 : Int32)), .val (.ref a477), .val (.ref a480), .val (.ref a483), .val (.ref a486), .val (.ref a502), .val (.ref a517), .val (.ref a530), .val (.ref a532), .unset, .unset, .unset] [(.int (67 : Int32)), (.int (15 : Int32)), (.ref a532)])) rfl rfl (hb hby at_214)
    refine Run.st (T535.setTop (mkF m 215 #[.val (.int p0), .val (.int p1), .val (.int p2), .val (.int p3), .val (.int ((p0 &&& (255 : Int32)).toUInt32.toUInt16.toUInt32.toInt32)), .val (.int (((XT.ushr p0 (8 : Int32)) &&& (255 : Int32)).toUInt32.toUInt16.toUInt32.toInt32)), .val (.int ((p1 &&& (255 : Int32)).toUInt32.toUInt16.toUInt32.toInt32)), .val (.int (((XT.ushr p1 (8 : Int32)) &&& (255 : Int32)).toUInt32.toUInt16.toUInt32.toInt32)), .val (.int ((p2 &&& (255 : Int32)).toUInt32.toUInt16.toUInt32.toInt32)), .val (.int (((XT.ushr p2 (8 : Int32)) &&& (255 : Int32)).toUInt32.toUInt16.toUInt32.toInt32)), .val (.int (1 : Int32)), .val (.ref a477), .val (.ref a480), .val (.ref a483), .val (.ref a486), .val (.ref a502), .val (.ref a517), .val (.ref a530), .val (.ref a532), .unset, .unset, .unset] [])) st535 ?_
    refine Run.st (T535.setTop (mkF m 221 #[.val (.int p0), .val (.int p1), .val (.int p2), .val (.int p3), .val (.int ((p0 &&& (255 : Int32)).toUInt32.toUInt16.toUInt32.toInt32)), .val (.int (((XT.ushr p0 (8 : Int32)) &&& (255 : Int32)).toUInt32.toUInt16.toUInt32.toInt32)), .val (.int ((p1 &&& (255 : Int32)).toUInt32.toUInt16.toUInt32.toInt32)), .val (.int (((XT.ushr p1 (8 : Int32)) &&& (255 : Int32)).toUInt32.toUInt16.toUInt32.toInt32)), .val (.int ((p2 &&& (255 : Int32)).toUInt32.toUInt16.toUInt32.toInt32)), .val (.int (((XT.ushr p2 (8 : Int32)) &&& (255 : Int32)).toUInt32.toUInt16.toUInt32.toInt32)), .val (.int (1 : Int32)), .val (.ref a477), .val (.ref a480), .val (.ref a483), .val (.ref a486), .val (.ref a502), .val (.ref a517), .val (.ref a530), .val (.ref a532), .unset, .unset, .unset] [(.int (79 : Int32)), (.int (16 : Int32)), (.ref a532)])) (fun _ k => XS.aload A535.here hx rfl (hb hby at_215) rfl rfl (XS.bipush A535.here hx rfl (hb hby at_217) (XS.bipush A535.here hx rfl (hb hby at_219) k))) ?_
    obtain ⟨T536, h536, A536, K536, V536, st536⟩ := A535.stC hx V535 (List.mem_of_getElem? (i := 0) rfl) (j := (16 : Int32)) 16 rfl ⟨by decide, by decide⟩ (Nat.le_of_ble_eq_true rfl) (g := (mkF m 221 #[.val (.int p0), .val (.int p1), .val (.int p2), .val (.int p3), .val (.int ((p0 &&& (255 : Int32)).toUInt32.toUInt16.toUInt32.toInt32)), .val (.int (((XT.ushr p0 (8 : Int32)) &&& (255 : Int32)).toUInt32.toUInt16.toUInt32.toInt32)), .val (.int ((p1 &&& (255 : Int32)).toUInt32.toUInt16.toUInt32.toInt32)), .val (.int (((XT.ushr p1 (8 : Int32)) &&& (255 : Int32)).toUInt32.toUInt16.toUInt32.toInt32)), .val (.int ((p2 &&& (255 : Int32)).toUInt32.toUInt16.toUInt32.toInt32)), .val (.int (((XT.ushr p2 (8 : Int32)) &&& (255 : Int32)).toUInt32.toUInt16.toUInt32.toInt32)), .val (.int (1 : Int32)), .val (.ref a477), .val (.ref a480), .val (.ref a483), .val (.ref a486), .val (.ref a502), .val (.ref a517), .val (.ref a530), .val (.ref a532), .unset, .unset, .unset] [(.int (79 : Int32)), (.int (16 : Int32)), (.ref a532)])) rfl rfl (hb hby at_221)
    refine Run.st (T536.setTop (mkF m 222 #[.val (.int p0), .val (.int p1), .val (.int p2), .val (.int p3), .val (.int ((p0 &&& (255 : Int32)).toUInt32.toUInt16.toUInt32.toInt32)), .val (.int (((XT.ushr p0 (8 : Int32)) &&& (255 : Int32)).toUInt32.toUInt16.toUInt32.toInt32)), .val (.int ((p1 &&& (255 : Int32)).toUInt32.toUInt16.toUInt32.toInt32)), .val (.int (((XT.ushr p1 (8 : Int32)) &&& (255 : Int32)).toUInt32.toUInt16.toUInt32.toInt32)), .val (.int ((p2 &&& (255 : Int32)).toUInt32.toUInt16.toUInt32.toInt32)), .val (.int (((XT.ushr p2 (8 : Int32)) &&& (255 : Int32)).toUInt32.toUInt16.toUInt32.toInt32)), .val (.int (1 : Int32)), .val (.ref a477), .val (.ref a480), .val (.ref a483), .val (.ref a486), .val (.ref a502), .val (.ref a517), .val (.ref a530), .val (.ref a532), .unset, .unset, .unset] [])) st536 ?_
    refine Run.st (T536.setTop (mkF m 228 #[.val (.int p0), .val (.int p1), .val (.int p2), .val (.int p3), .val (.int ((p0 &&& (255 : Int32)).toUInt32.toUInt16.toUInt32.toInt32)), .val (.int (((XT.ushr p0 (8 : Int32)) &&& (255 : Int32)).toUInt32.toUInt16.toUInt32.toInt32)), .val (.int ((p1 &&& (255 : Int32)).toUInt32.toUInt16.toUInt32.toInt32)), .val (.int (((XT.ushr p1 (8 : Int32)) &&& (255 : Int32)).toUInt32.toUInt16.toUInt32.toInt32)), .val (.int ((p2 &&& (255 : Int32)).toUInt32.toUInt16.toUInt32.toInt32)), .val (.int (((XT.ushr p2 (8 : Int32)) &&& (255 : Int32)).toUInt32.toUInt16.toUInt32.toInt32)), .val (.int (1 : Int32)), .val (.ref a477), .val (.ref a480), .val (.ref a483), .val (.ref a486), .val (.ref a502), .val (.ref a517), .val (.ref a530), .val (.ref a532), .unset, .unset, .unset] [(.int (76 : Int32)), (.int (17 : Int32)), (.ref a532)])) (fun _ k => XS.aload A536.here hx rfl (hb hby at_222) rfl rfl (XS.bipush A536.here hx rfl (hb hby at_224) (XS.bipush A536.here hx rfl (hb hby at_226) k))) ?_
    obtain ⟨T537, h537, A537, K537, V537, st537⟩ := A536.stC hx V536 (List.mem_of_getElem? (i := 0) rfl) (j := (17 : Int32)) 17 rfl ⟨by decide, by decide⟩ (Nat.le_of_ble_eq_true rfl) (g := (mkF m 228 #[.val (.int p0), .val (.int p1), .val (.int p2), .val (.int p3), .val (.int ((p0 &&& (255 : Int32)).toUInt32.toUInt16.toUInt32.toInt32)), .val (.int (((XT.ushr p0 (8 : Int32)) &&& (255 : Int32)).toUInt32.toUInt16.toUInt32.toInt32)), .val (.int ((p1 &&& (255 : Int32)).toUInt32.toUInt16.toUInt32.toInt32)), .val (.int (((XT.ushr p1 (8 : Int32)) &&& (255 : Int32)).toUInt32.toUInt16.toUInt32.toInt32)), .val (.int ((p2 &&& (255 : Int32)).toUInt32.toUInt16.toUInt32.toInt32)), .val (.int (((XT.ushr p2 (8 : Int32)) &&& (255 : Int32)).toUInt32.toUInt16.toUInt32.toInt32)), .val (.int (1 : Int32)), .val (.ref a477), .val (.ref a480), .val (.ref a483), .val (.ref a486), .val (.ref a502), .val (.ref a517), .val (.ref a530), .val (.ref a532), .unset, .unset, .unset] [(.int (76 : Int32)), (.int (17 : Int32)), (.ref a532)])) rfl rfl (hb hby at_228)
    refine Run.st (T537.setTop (mkF m 229 #[.val (.int p0), .val (.int p1), .val (.int p2), .val (.int p3), .val (.int ((p0 &&& (255 : Int32)).toUInt32.toUInt16.toUInt32.toInt32)), .val (.int (((XT.ushr p0 (8 : Int32)) &&& (255 : Int32)).toUInt32.toUInt16.toUInt32.toInt32)), .val (.int ((p1 &&& (255 : Int32)).toUInt32.toUInt16.toUInt32.toInt32)), .val (.int (((XT.ushr p1 (8 : Int32)) &&& (255 : Int32)).toUInt32.toUInt16.toUInt32.toInt32)), .val (.int ((p2 &&& (255 : Int32)).toUInt32.toUInt16.toUInt32.toInt32)), .val (.int (((XT.ushr p2 (8 : Int32)) &&& (255 : Int32)).toUInt32.toUInt16.toUInt32.toInt32)), .val (.int (1 : Int32)), .val (.ref a477), .val (.ref a480), .val (.ref a483), .val (.ref a486), .val (.ref a502), .val (.ref a517), .val (.ref a530), .val (.ref a532), .unset, .unset, .unset] [])) st537 ?_
    refine Run.st (T537.setTop (mkF m 235 #[.val (.int p0), .val (.int p1), .val (.int p2), .val (.int p3), .val (.int ((p0 &&& (255 : Int32)).toUInt32.toUInt16.toUInt32.toInt32)), .val (.int (((XT.ushr p0 (8 : Int32)) &&& (255 : Int32)).toUInt32.toUInt16.toUInt32.toInt32)), .val (.int ((p1 &&& (255 : Int32)).toUInt32.toUInt16.toUInt32.toInt32)), .val (.int (((XT.ushr p1 (8 : Int32)) &&& (255 : Int32)).toUInt32.toUInt16.toUInt32.toInt32)), .val (.int ((p2 &&& (255 : Int32)).toUInt32.toUInt16.toUInt32.toInt32)), .val (.int (((XT.ushr p2 (8 : Int32)) &&& (255 : Int32)).toUInt32.toUInt16.toUInt32.toInt32)), .val (.int (1 : Int32)), .val (.ref a477), .val (.ref a480), .val (.ref a483), .val (.ref a486), .val (.ref a502), .val (.ref a517), .val (.ref a530), .val (.ref a532), .unset, .unset, .unset] [(.int (76 : Int32)), (.int (18 : Int32)), (.ref a532)])) (fun _ k => XS.aload A537.here hx rfl (hb hby at_229) rfl rfl (XS.bipush A537.here hx rfl (hb hby at_231) (XS.bipush A537.here hx rfl (hb hby at_233) k))) ?_
    obtain ⟨T538, h538, A538, K538, V538, st538⟩ := A537.stC hx V537 (List.mem_of_getElem? (i := 0) rfl) (j := (18 : Int32)) 18 rfl ⟨by decide, by decide⟩ (Nat.le_of_ble_eq_true rfl) (g := (mkF m 235 #[.val (.int p0), .val (.int p1), .val (.int p2), .val (.int p3), .val (.int ((p0 &&& (255 : Int32)).toUInt32.toUInt16.toUInt32.toInt32)), .val (.int (((XT.ushr p0 (8 : Int32)) &&& (255 : Int32)).toUInt32.toUInt16.toUInt32.toInt32)), .val (.int ((p1 &&& (255 : Int32)).toUInt32.toUInt16.toUInt32.toInt32)), .val (.int (((XT.ushr p1 (8 : Int32)) &&& (255 : Int32)).toUInt32.toUInt16.toUInt32.toInt32)), .val (.int ((p2 &&& (255 : Int32)).toUInt32.toUInt16.toUInt32.toInt32)), .val (.int (((XT.ushr p2 (8 : Int32)) &&& (255 : Int32)).toUInt32.toUInt16.toUInt32.toInt32)), .val (.int (1 : Int32)), .val (.ref a477), .val (.ref a480), .val (.ref a483), .val (.ref a486), .val (.ref a502), .val (.ref a517), .val (.ref a530), .val (.ref a532), .unset, .unset, .unset] [(.int (76 : Int32)), (.int (18 : Int32)), (.ref a532)])) rfl rfl (hb hby at_235)
    refine Run.st (T538.setTop (mkF m 236 #[.val (.int p0), .val (.int p1), .val (.int p2), .val (.int p3), .val (.int ((p0 &&& (255 : Int32)).toUInt32.toUInt16.toUInt32.toInt32)), .val (.int (((XT.ushr p0 (8 : Int32)) &&& (255 : Int32)).toUInt32.toUInt16.toUInt32.toInt32)), .val (.int ((p1 &&& (255 : Int32)).toUInt32.toUInt16.toUInt32.toInt32)), .val (.int (((XT.ushr p1 (8 : Int32)) &&& (255 : Int32)).toUInt32.toUInt16.toUInt32.toInt32)), .val (.int ((p2 &&& (255 : Int32)).toUInt32.toUInt16.toUInt32.toInt32)), .val (.int (((XT.ushr p2 (8 : Int32)) &&& (255 : Int32)).toUInt32.toUInt16.toUInt32.toInt32)), .val (.int (1 : Int32)), .val (.ref a477), .val (.ref a480), .val (.ref a483), .val (.ref a486), .val (.ref a502), .val (.ref a517), .val (.ref a530), .val (.ref a532), .unset, .unset, .unset] [])) st538 ?_
    refine Run.st (T538.setTop (mkF m 242 #[.val (.int p0), .val (.int p1), .val (.int p2), .val (.int p3), .val (.int ((p0 &&& (255 : Int32)).toUInt32.toUInt16.toUInt32.toInt32)), .val (.int (((XT.ushr p0 (8 : Int32)) &&& (255 : Int32)).toUInt32.toUInt16.toUInt32.toInt32)), .val (.int ((p1 &&& (255 : Int32)).toUInt32.toUInt16.toUInt32.toInt32)), .val (.int (((XT.ushr p1 (8 : Int32)) &&& (255 : Int32)).toUInt32.toUInt16.toUInt32.toInt32)), .val (.int ((p2 &&& (255 : Int32)).toUInt32.toUInt16.toUInt32.toInt32)), .val (.int (((XT.ushr p2 (8 : Int32)) &&& (255 : Int32)).toUInt32.toUInt16.toUInt32.toInt32)), .val (.int (1 : Int32)), .val (.ref a477), .val (.ref a480), .val (.ref a483), .val (.ref a486), .val (.ref a502), .val (.ref a517), .val (.ref a530), .val (.ref a532), .unset, .unset, .unset] [(.int (65 : Int32)), (.int (19 : Int32)), (.ref a532)])) (fun _ k => XS.aload A538.here hx rfl (hb hby at_236) rfl rfl (XS.bipush A538.here hx rfl (hb hby at_238) (XS.bipush A538.here hx rfl (hb hby at_240) k))) ?_
    obtain ⟨T539, h539, A539, K539, V539, st539⟩ := A538.stC hx V538 (List.mem_of_getElem? (i := 0) rfl) (j := (19 : Int32)) 19 rfl ⟨by decide, by decide⟩ (Nat.le_of_ble_eq_true rfl) (g := (mkF m 242 #[.val (.int p0), .val (.int p1), .val (.int p2), .val (.int p3), .val (.int ((p0 &&& (255 : Int32)).toUInt32.toUInt16.toUInt32.toInt32)), .val (.int (((XT.ushr p0 (8 : Int32)) &&& (255 : Int32)).toUInt32.toUInt16.toUInt32.toInt32)), .val (.int ((p1 &&& (255 : Int32)).toUInt32.toUInt16.toUInt32.toInt32)), .val (.int (((XT.ushr p1 (8 : Int32)) &&& (255 : Int32)).toUInt32.toUInt16.toUInt32.toInt32)), .val (.int ((p2 &&& (255 : Int32)).toUInt32.toUInt16.toUInt32.toInt32)), .val (.int (((XT.ushr p2 (8 : Int32)) &&& (255 : Int32)).toUInt32.toUInt16.toUInt32.toInt32)), .val (.int (1 : Int32)), .val (.ref a477), .val (.ref a480), .val (.ref a483), .val (.ref a486), .val (.ref a502), .val (.ref a517), .val (.ref a530), .val (.ref a532), .unset, .unset, .unset] [(.int (65 : Int32)), (.int (19 : Int32)), (.ref a532)])) rfl rfl (hb hby at_242)
    refine Run.st (T539.setTop (mkF m 243 #[.val (.int p0), .val (.int p1), .val (.int p2), .val (.int p3), .val (.int ((p0 &&& (255 : Int32)).toUInt32.toUInt16.toUInt32.toInt32)), .val (.int (((XT.ushr p0 (8 : Int32)) &&& (255 : Int32)).toUInt32.toUInt16.toUInt32.toInt32)), .val (.int ((p1 &&& (255 : Int32)).toUInt32.toUInt16.toUInt32.toInt32)), .val (.int (((XT.ushr p1 (8 : Int32)) &&& (255 : Int32)).toUInt32.toUInt16.toUInt32.toInt32)), .val (.int ((p2 &&& (255 : Int32)).toUInt32.toUInt16.toUInt32.toInt32)), .val (.int (((XT.ushr p2 (8 : Int32)) &&& (255 : Int32)).toUInt32.toUInt16.toUInt32.toInt32)), .val (.int (1 : Int32)), .val (.ref a477), .val (.ref a480), .val (.ref a483), .val (.ref a486), .val (.ref a502), .val (.ref a517), .val (.ref a530), .val (.ref a532), .unset, .unset, .unset] [])) st539 ?_
    refine Run.st (T539.setTop (mkF m 249 #[.val (.int p0), .val (.int p1), .val (.int p2), .val (.int p3), .val (.int ((p0 &&& (255 : Int32)).toUInt32.toUInt16.toUInt32.toInt32)), .val (.int (((XT.ushr p0 (8 : Int32)) &&& (255 : Int32)).toUInt32.toUInt16.toUInt32.toInt32)), .val (.int ((p1 &&& (255 : Int32)).toUInt32.toUInt16.toUInt32.toInt32)), .val (.int (((XT.ushr p1 (8 : Int32)) &&& (255 : Int32)).toUInt32.toUInt16.toUInt32.toInt32)), .val (.int ((p2 &&& (255 : Int32)).toUInt32.toUInt16.toUInt32.toInt32)), .val (.int (((XT.ushr p2 (8 : Int32)) &&& (255 : Int32)).toUInt32.toUInt16.toUInt32.toInt32)), .val (.int (1 : Int32)), .val (.ref a477), .val (.ref a480), .val (.ref a483), .val (.ref a486), .val (.ref a502), .val (.ref a517), .val (.ref a530), .val (.ref a532), .unset, .unset, .unset] [(.int (84 : Int32)), (.int (20 : Int32)), (.ref a532)])) (fun _ k => XS.aload A539.here hx rfl (hb hby at_243) rfl rfl (XS.bipush A539.here hx rfl (hb hby at_245) (XS.bipush A539.here hx rfl (hb hby at_247) k))) ?_
    obtain ⟨T540, h540, A540, K540, V540, st540⟩ := A539.stC hx V539 (List.mem_of_getElem? (i := 0) rfl) (j := (20 : Int32)) 20 rfl ⟨by decide, by decide⟩ (Nat.le_of_ble_eq_true rfl) (g := (mkF m 249 #[.val (.int p0), .val (.int p1), .val (.int p2), .val (.int p3), .val (.int ((p0 &&& (255 : Int32)).toUInt32.toUInt16.toUInt32.toInt32)), .val (.int (((XT.ushr p0 (8 : Int32)) &&& (255 : Int32)).toUInt32.toUInt16.toUInt32.toInt32)), .val (.int ((p1 &&& (255 : Int32)).toUInt32.toUInt16.toUInt32.toInt32)), .val (.int (((XT.ushr p1 (8 : Int32)) &&& (255 : Int32)).toUInt32.toUInt16.toUInt32.toInt32)), .val (.int ((p2 &&& (255 : Int32)).toUInt32.toUInt16.toUInt32.toInt32)), .val (.int (((XT.ushr p2 (8 : Int32)) &&& (255 : Int32)).toUInt32.toUInt16.toUInt32.toInt32)), .val (.int (1 : Int32)), .val (.ref a477), .val (.ref a480), .val (.ref a483), .val (.ref a486), .val (.ref a502), .val (.ref a517), .val (.ref a530), .val (.ref a532), .unset, .unset, .unset] [(.int (84 : Int32)), (.int (20 : Int32)), (.ref a532)])) rfl rfl (hb hby at_249)
    refine Run.st (T540.setTop (mkF m 250 #[.val (.int p0), .val (.int p1), .val (.int p2), .val (.int p3), .val (.int ((p0 &&& (255 : Int32)).toUInt32.toUInt16.toUInt32.toInt32)), .val (.int (((XT.ushr p0 (8 : Int32)) &&& (255 : Int32)).toUInt32.toUInt16.toUInt32.toInt32)), .val (.int ((p1 &&& (255 : Int32)).toUInt32.toUInt16.toUInt32.toInt32)), .val (.int (((XT.ushr p1 (8 : Int32)) &&& (255 : Int32)).toUInt32.toUInt16.toUInt32.toInt32)), .val (.int ((p2 &&& (255 : Int32)).toUInt32.toUInt16.toUInt32.toInt32)), .val (.int (((XT.ushr p2 (8 : Int32)) &&& (255 : Int32)).toUInt32.toUInt16.toUInt32.toInt32)), .val (.int (1 : Int32)), .val (.ref a477), .val (.ref a480), .val (.ref a483), .val (.ref a486), .val (.ref a502), .val (.ref a517), .val (.ref a530), .val (.ref a532), .unset, .unset, .unset] [])) st540 ?_
    refine Run.st (T540.setTop (mkF m 256 #[.val (.int p0), .val (.int p1), .val (.int p2), .val (.int p3), .val (.int ((p0 &&& (255 : Int32)).toUInt32.toUInt16.toUInt32.toInt32)), .val (.int (((XT.ushr p0 (8 : Int32)) &&& (255 : Int32)).toUInt32.toUInt16.toUInt32.toInt32)), .val (.int ((p1 &&& (255 : Int32)).toUInt32.toUInt16.toUInt32.toInt32)), .val (.int (((XT.ushr p1 (8 : Int32)) &&& (255 : Int32)).toUInt32.toUInt16.toUInt32.toInt32)), .val (.int ((p2 &&& (255 : Int32)).toUInt32.toUInt16.toUInt32.toInt32)), .val (.int (((XT.ushr p2 (8 : Int32)) &&& (255 : Int32)).toUInt32.toUInt16.toUInt32.toInt32)), .val (.int (1 : Int32)), .val (.ref a477), .val (.ref a480), .val (.ref a483), .val (.ref a486), .val (.ref a502), .val (.ref a517), .val (.ref a530), .val (.ref a532), .unset, .unset, .unset] [(.int (69 : Int32)), (.int (21 : Int32)), (.ref a532)])) (fun _ k => XS.aload A540.here hx rfl (hb hby at_250) rfl rfl (XS.bipush A540.here hx rfl (hb hby at_252) (XS.bipush A540.here hx rfl (hb hby at_254) k))) ?_
    obtain ⟨T541, h541, A541, K541, V541, st541⟩ := A540.stC hx V540 (List.mem_of_getElem? (i := 0) rfl) (j := (21 : Int32)) 21 rfl ⟨by decide, by decide⟩ (Nat.le_of_ble_eq_true rfl) (g := (mkF m 256 #[.val (.int p0), .val (.int p1), .val (.int p2), .val (.int p3), .val (.int ((p0 &&& (255 : Int32)).toUInt32.toUInt16.toUInt32.toInt32)), .val (.int (((XT.ushr p0 (8 : Int32)) &&& (255 : Int32)).toUInt32.toUInt16.toUInt32.toInt32)), .val (.int ((p1 &&& (255 : Int32)).toUInt32.toUInt16.toUInt32.toInt32)), .val (.int (((XT.ushr p1 (8 : Int32)) &&& (255 : Int32)).toUInt32.toUInt16.toUInt32.toInt32)), .val (.int ((p2 &&& (255 : Int32)).toUInt32.toUInt16.toUInt32.toInt32)), .val (.int (((XT.ushr p2 (8 : Int32)) &&& (255 : Int32)).toUInt32.toUInt16.toUInt32.toInt32)), .val (.int (1 : Int32)), .val (.ref a477), .val (.ref a480), .val (.ref a483), .val (.ref a486), .val (.ref a502), .val (.ref a517), .val (.ref a530), .val (.ref a532), .unset, .unset, .unset] [(.int (69 : Int32)), (.int (21 : Int32)), (.ref a532)])) rfl rfl (hb hby at_256)
    refine Run.st (T541.setTop (mkF m 257 #[.val (.int p0), .val (.int p1), .val (.int p2), .val (.int p3), .val (.int ((p0 &&& (255 : Int32)).toUInt32.toUInt16.toUInt32.toInt32)), .val (.int (((XT.ushr p0 (8 : Int32)) &&& (255 : Int32)).toUInt32.toUInt16.toUInt32.toInt32)), .val (.int ((p1 &&& (255 : Int32)).toUInt32.toUInt16.toUInt32.toInt32)), .val (.int (((XT.ushr p1 (8 : Int32)) &&& (255 : Int32)).toUInt32.toUInt16.toUInt32.toInt32)), .val (.int ((p2 &&& (255 : Int32)).toUInt32.toUInt16.toUInt32.toInt32)), .val (.int (((XT.ushr p2 (8 : Int32)) &&& (255 : Int32)).toUInt32.toUInt16.toUInt32.toInt32)), .val (.int (1 : Int32)), .val (.ref a477), .val (.ref a480), .val (.ref a483), .val (.ref a486), .val (.ref a502), .val (.ref a517), .val (.ref a530), .val (.ref a532), .unset, .unset, .unset] [])) st541 ?_
    refine Run.st (T541.setTop (mkF m 263 #[.val (.int p0), .val (.int p1), .val (.int p2), .val (.int p3), .val (.int ((p0 &&& (255 : Int32)).toUInt32.toUInt16.toUInt32.toInt32)), .val (.int (((XT.ushr p0 (8 : Int32)) &&& (255 : Int32)).toUInt32.toUInt16.toUInt32.toInt32)), .val (.int ((p1 &&& (255 : Int32)).toUInt32.toUInt16.toUInt32.toInt32)), .val (.int (((XT.ushr p1 (8 : Int32)) &&& (255 : Int32)).toUInt32.toUInt16.toUInt32.toInt32)), .val (.int ((p2 &&& (255 : Int32)).toUInt32.toUInt16.toUInt32.toInt32)), .val (.int (((XT.ushr p2 (8 : Int32)) &&& (255 : Int32)).toUInt32.toUInt16.toUInt32.toInt32)), .val (.int (1 : Int32)), .val (.ref a477), .val (.ref a480), .val (.ref a483), .val (.ref a486), .val (.ref a502), .val (.ref a517), .val (.ref a530), .val (.ref a532), .unset, .unset, .unset] [(.int (32 : Int32)), (.int (22 : Int32)), (.ref a532)])) (fun _ k => XS.aload A541.here hx rfl (hb hby at_257) rfl rfl (XS.bipush A541.here hx rfl (hb hby at_259) (XS.bipush A541.here hx rfl (hb hby at_261) k))) ?_
    obtain ⟨T542, h542, A542, K542, V542, st542⟩ := A541.stC hx V541 (List.mem_of_getElem? (i := 0) rfl) (j := (22 : Int32)) 22 rfl ⟨by decide, by decide⟩ (Nat.le_of_ble_eq_true rfl) (g := (mkF m 263 #[.val (.int p0), .val (.int p1), .val (.int p2), .val (.int p3), .val (.int ((p0 &&& (255 : Int32)).toUInt32.toUInt16.toUInt32.toInt32)), .val (.int (((XT.ushr p0 (8 : Int32)) &&& (255 : Int32)).toUInt32.toUInt16.toUInt32.toInt32)), .val (.int ((p1 &&& (255 : Int32)).toUInt32.toUInt16.toUInt32.toInt32)), .val (.int (((XT.ushr p1 (8 : Int32)) &&& (255 : Int32)).toUInt32.toUInt16.toUInt32.toInt32)), .val (.int ((p2 &&& (255 : Int32)).toUInt32.toUInt16.toUInt32.toInt32)), .val (.int (((XT.ushr p2 (8 : Int32)) &&& (255 : Int32)).toUInt32.toUInt16.toUInt32.toInt32)), .val (.int (1 : Int32)), .val (.ref a477), .val (.ref a480), .val (.ref a483), .val (.ref a486), .val (.ref a502), .val (.ref a517), .val (.ref a530), .val (.ref a532), .unset, .unset, .unset] [(.int (32 : Int32)), (.int (22 : Int32)), (.ref a532)])) rfl rfl (hb hby at_263)
    refine Run.st (T542.setTop (mkF m 264 #[.val (.int p0), .val (.int p1), .val (.int p2), .val (.int p3), .val (.int ((p0 &&& (255 : Int32)).toUInt32.toUInt16.toUInt32.toInt32)), .val (.int (((XT.ushr p0 (8 : Int32)) &&& (255 : Int32)).toUInt32.toUInt16.toUInt32.toInt32)), .val (.int ((p1 &&& (255 : Int32)).toUInt32.toUInt16.toUInt32.toInt32)), .val (.int (((XT.ushr p1 (8 : Int32)) &&& (255 : Int32)).toUInt32.toUInt16.toUInt32.toInt32)), .val (.int ((p2 &&& (255 : Int32)).toUInt32.toUInt16.toUInt32.toInt32)), .val (.int (((XT.ushr p2 (8 : Int32)) &&& (255 : Int32)).toUInt32.toUInt16.toUInt32.toInt32)), .val (.int (1 : Int32)), .val (.ref a477), .val (.ref a480), .val (.ref a483), .val (.ref a486), .val (.ref a502), .val (.ref a517), .val (.ref a530), .val (.ref a532), .unset, .unset, .unset] [])) st542 ?_
    refine Run.st (T542.setTop (mkF m 270 #[.val (.int p0), .val (.int p1), .val (.int p2), .val (.int p3), .val (.int ((p0 &&& (255 : Int32)).toUInt32.toUInt16.toUInt32.toInt32)), .val (.int (((XT.ushr p0 (8 : Int32)) &&& (255 : Int32)).toUInt32.toUInt16.toUInt32.toInt32)), .val (.int ((p1 &&& (255 : Int32)).toUInt32.toUInt16.toUInt32.toInt32)), .val (.int (((XT.ushr p1 (8 : Int32)) &&& (255 : Int32)).toUInt32.toUInt16.toUInt32.toInt32)), .val (.int ((p2 &&& (255 : Int32)).toUInt32.toUInt16.toUInt32.toInt32)), .val (.int (((XT.ushr p2 (8 : Int32)) &&& (255 : Int32)).toUInt32.toUInt16.toUInt32.toInt32)), .val (.int (1 : Int32)), .val (.ref a477), .val (.ref a480), .val (.ref a483), .val (.ref a486), .val (.ref a502), .val (.ref a517), .val (.ref a530), .val (.ref a532), .unset, .unset, .unset] [(.int ((p2 &&& (255 : Int32)).toUInt32.toUInt16.toUInt32.toInt32)), (.int (23 : Int32)), (.ref a532)])) (fun _ k => XS.aload A542.here hx rfl (hb hby at_264) rfl rfl (XS.bipush A542.here hx rfl (hb hby at_266) (XS.iload A542.here hx rfl (hb hby at_268) rfl k))) ?_
    obtain ⟨T543, h543, A543, K543, V543, st543⟩ := A542.stC hx V542 (List.mem_of_getElem? (i := 0) rfl) (j := (23 : Int32)) 23 rfl ⟨by decide, by decide⟩ (Nat.le_of_ble_eq_true rfl) (g := (mkF m 270 #[.val (.int p0), .val (.int p1), .val (.int p2), .val (.int p3), .val (.int ((p0 &&& (255 : Int32)).toUInt32.toUInt16.toUInt32.toInt32)), .val (.int (((XT.ushr p0 (8 : Int32)) &&& (255 : Int32)).toUInt32.toUInt16.toUInt32.toInt32)), .val (.int ((p1 &&& (255 : Int32)).toUInt32.toUInt16.toUInt32.toInt32)), .val (.int (((XT.ushr p1 (8 : Int32)) &&& (255 : Int32)).toUInt32.toUInt16.toUInt32.toInt32)), .val (.int ((p2 &&& (255 : Int32)).toUInt32.toUInt16.toUInt32.toInt32)), .val (.int (((XT.ushr p2 (8 : Int32)) &&& (255 : Int32)).toUInt32.toUInt16.toUInt32.toInt32)), .val (.int (1 : Int32)), .val (.ref a477), .val (.ref a480), .val (.ref a483), .val (.ref a486), .val (.ref a502), .val (.ref a517), .val (.ref a530), .val (.ref a532), .unset, .unset, .unset] [(.int ((p2 &&& (255 : Int32)).toUInt32.toUInt16.toUInt32.toInt32)), (.int (23 : Int32)), (.ref a532)])) rfl rfl (hb hby at_270)
    refine Run.st (T543.setTop (mkF m 271 #[.val (.int p0), .val (.int p1), .val (.int p2), .val (.int p3), .val (.int ((p0 &&& (255 : Int32)).toUInt32.toUInt16.toUInt32.toInt32)), .val (.int (((XT.ushr p0 (8 : Int32)) &&& (255 : Int32)).toUInt32.toUInt16.toUInt32.toInt32)), .val (.int ((p1 &&& (255 : Int32)).toUInt32.toUInt16.toUInt32.toInt32)), .val (.int (((XT.ushr p1 (8 : Int32)) &&& (255 : Int32)).toUInt32.toUInt16.toUInt32.toInt32)), .val (.int ((p2 &&& (255 : Int32)).toUInt32.toUInt16.toUInt32.toInt32)), .val (.int (((XT.ushr p2 (8 : Int32)) &&& (255 : Int32)).toUInt32.toUInt16.toUInt32.toInt32)), .val (.int (1 : Int32)), .val (.ref a477), .val (.ref a480), .val (.ref a483), .val (.ref a486), .val (.ref a502), .val (.ref a517), .val (.ref a530), .val (.ref a532), .unset, .unset, .unset] [])) st543 ?_
    refine Run.st (T543.setTop (mkF m 277 #[.val (.int p0), .val (.int p1), .val (.int p2), .val (.int p3), .val (.int ((p0 &&& (255 : Int32)).toUInt32.toUInt16.toUInt32.toInt32)), .val (.int (((XT.ushr p0 (8 : Int32)) &&& (255 : Int32)).toUInt32.toUInt16.toUInt32.toInt32)), .val (.int ((p1 &&& (255 : Int32)).toUInt32.toUInt16.toUInt32.toInt32)), .val (.int (((XT.ushr p1 (8 : Int32)) &&& (255 : Int32)).toUInt32.toUInt16.toUInt32.toInt32)), .val (.int ((p2 &&& (255 : Int32)).toUInt32.toUInt16.toUInt32.toInt32)), .val (.int (((XT.ushr p2 (8 : Int32)) &&& (255 : Int32)).toUInt32.toUInt16.toUInt32.toInt32)), .val (.int (1 : Int32)), .val (.ref a477), .val (.ref a480), .val (.ref a483), .val (.ref a486), .val (.ref a502), .val (.ref a517), .val (.ref a530), .val (.ref a532), .unset, .unset, .unset] [(.int (((XT.ushr p2 (8 : Int32)) &&& (255 : Int32)).toUInt32.toUInt16.toUInt32.toInt32)), (.int (24 : Int32)), (.ref a532)])) (fun _ k => XS.aload A543.here hx rfl (hb hby at_271) rfl rfl (XS.bipush A543.here hx rfl (hb hby at_273) (XS.iload A543.here hx rfl (hb hby at_275) rfl k))) ?_
    obtain ⟨T544, h544, A544, K544, V544, st544⟩ := A543.stC hx V543 (List.mem_of_getElem? (i := 0) rfl) (j := (24 : Int32)) 24 rfl ⟨by decide, by decide⟩ (Nat.le_of_ble_eq_true rfl) (g := (mkF m 277 #[.val (.int p0), .val (.int p1), .val (.int p2), .val (.int p3), .val (.int ((p0 &&& (255 : Int32)).toUInt32.toUInt16.toUInt32.toInt32)), .val (.int (((XT.ushr p0 (8 : Int32)) &&& (255 : Int32)).toUInt32.toUInt16.toUInt32.toInt32)), .val (.int ((p1 &&& (255 : Int32)).toUInt32.toUInt16.toUInt32.toInt32)), .val (.int (((XT.ushr p1 (8 : Int32)) &&& (255 : Int32)).toUInt32.toUInt16.toUInt32.toInt32)), .val (.int ((p2 &&& (255 : Int32)).toUInt32.toUInt16.toUInt32.toInt32)), .val (.int (((XT.ushr p2 (8 : Int32)) &&& (255 : Int32)).toUInt32.toUInt16.toUInt32.toInt32)), .val (.int (1 : Int32)), .val (.ref a477), .val (.ref a480), .val (.ref a483), .val (.ref a486), .val (.ref a502), .val (.ref a517), .val (.ref a530), .val (.ref a532), .unset, .unset, .unset] [(.int (((XT.ushr p2 (8 : Int32)) &&& (255 : Int32)).toUInt32.toUInt16.toUInt32.toInt32)), (.int (24 : Int32)), (.ref a532)])) rfl rfl (hb hby at_277)
    refine Run.st (T544.setTop (mkF m 278 #[.val (.int p0), .val (.int p1), .val (.int p2), .val (.int p3), .val (.int ((p0 &&& (255 : Int32)).toUInt32.toUInt16.toUInt32.toInt32)), .val (.int (((XT.ushr p0 (8 : Int32)) &&& (255 : Int32)).toUInt32.toUInt16.toUInt32.toInt32)), .val (.int ((p1 &&& (255 : Int32)).toUInt32.toUInt16.toUInt32.toInt32)), .val (.int (((XT.ushr p1 (8 : Int32)) &&& (255 : Int32)).toUInt32.toUInt16.toUInt32.toInt32)), .val (.int ((p2 &&& (255 : Int32)).toUInt32.toUInt16.toUInt32.toInt32)), .val (.int (((XT.ushr p2 (8 : Int32)) &&& (255 : Int32)).toUInt32.toUInt16.toUInt32.toInt32)), .val (.int (1 : Int32)), .val (.ref a477), .val (.ref a480), .val (.ref a483), .val (.ref a486), .val (.ref a502), .val (.ref a517), .val (.ref a530), .val (.ref a532), .unset, .unset, .unset] [])) st544 ?_
    refine Run.st (T544.setTop (mkF m 283 #[.val (.int p0), .val (.int p1), .val (.int p2), .val (.int p3), .val (.int ((p0 &&& (255 : Int32)).toUInt32.toUInt16.toUInt32.toInt32)), .val (.int (((XT.ushr p0 (8 : Int32)) &&& (255 : Int32)).toUInt32.toUInt16.toUInt32.toInt32)), .val (.int ((p1 &&& (255 : Int32)).toUInt32.toUInt16.toUInt32.toInt32)), .val (.int (((XT.ushr p1 (8 : Int32)) &&& (255 : Int32)).toUInt32.toUInt16.toUInt32.toInt32)), .val (.int ((p2 &&& (255 : Int32)).toUInt32.toUInt16.toUInt32.toInt32)), .val (.int (((XT.ushr p2 (8 : Int32)) &&& (255 : Int32)).toUInt32.toUInt16.toUInt32.toInt32)), .val (.int (1 : Int32)), .val (.ref a477), .val (.ref a480), .val (.ref a483), .val (.ref a486), .val (.ref a502), .val (.ref a517), .val (.ref a530), .val (.ref a532), .unset, .unset, .unset] [])) (fun _ k => XS.iload A544.here hx rfl (hb hby at_278) rfl (XS.ifNo A544.here hx rfl (hb hby at_280) rfl (by decide) k)) ?_
    obtain ⟨a545, T545, h545, A545, E545, g545, Ex545, D545, st545⟩ := A544.newO hx (tw1 H.1) (tw2 H.1) (tw3 H.1) (g := (mkF m 283 #[.val (.int p0), .val (.int p1), .val (.int p2), .val (.int p3), .val (.int ((p0 &&& (255 : Int32)).toUInt32.toUInt16.toUInt32.toInt32)), .val (.int (((XT.ushr p0 (8 : Int32)) &&& (255 : Int32)).toUInt32.toUInt16.toUInt32.toInt32)), .val (.int ((p1 &&& (255 : Int32)).toUInt32.toUInt16.toUInt32.toInt32)), .val (.int (((XT.ushr p1 (8 : Int32)) &&& (255 : Int32)).toUInt32.toUInt16.toUInt32.toInt32)), .val (.int ((p2 &&& (255 : Int32)).toUInt32.toUInt16.toUInt32.toInt32)), .val (.int (((XT.ushr p2 (8 : Int32)) &&& (255 : Int32)).toUInt32.toUInt16.toUInt32.toInt32)), .val (.int (1 : Int32)), .val (.ref a477), .val (.ref a480), .val (.ref a483), .val (.ref a486), .val (.ref a502), .val (.ref a517), .val (.ref a530), .val (.ref a532), .unset, .unset, .unset] [])) rfl (hb hby at_283) (by decide) (by decide)
    refine Run.st (T545.setTop (mkF m 286 #[.val (.int p0), .val (.int p1), .val (.int p2), .val (.int p3), .val (.int ((p0 &&& (255 : Int32)).toUInt32.toUInt16.toUInt32.toInt32)), .val (.int (((XT.ushr p0 (8 : Int32)) &&& (255 : Int32)).toUInt32.toUInt16.toUInt32.toInt32)), .val (.int ((p1 &&& (255 : Int32)).toUInt32.toUInt16.toUInt32.toInt32)), .val (.int (((XT.ushr p1 (8 : Int32)) &&& (255 : Int32)).toUInt32.toUInt16.toUInt32.toInt32)), .val (.int ((p2 &&& (255 : Int32)).toUInt32.toUInt16.toUInt32.toInt32)), .val (.int (((XT.ushr p2 (8 : Int32)) &&& (255 : Int32)).toUInt32.toUInt16.toUInt32.toInt32)), .val (.int (1 : Int32)), .val (.ref a477), .val (.ref a480), .val (.ref a483), .val (.ref a486), .val (.ref a502), .val (.ref a517), .val (.ref a530), .val (.ref a532), .unset, .unset, .unset] [(.ref a545)])) st545 ?_
    refine Run.st (T545.setTop (mkF m 289 #[.val (.int p0), .val (.int p1), .val (.int p2), .val (.int p3), .val (.int ((p0 &&& (255 : Int32)).toUInt32.toUInt16.toUInt32.toInt32)), .val (.int (((XT.ushr p0 (8 : Int32)) &&& (255 : Int32)).toUInt32.toUInt16.toUInt32.toInt32)), .val (.int ((p1 &&& (255 : Int32)).toUInt32.toUInt16.toUInt32.toInt32)), .val (.int (((XT.ushr p1 (8 : Int32)) &&& (255 : Int32)).toUInt32.toUInt16.toUInt32.toInt32)), .val (.int ((p2 &&& (255 : Int32)).toUInt32.toUInt16.toUInt32.toInt32)), .val (.int (((XT.ushr p2 (8 : Int32)) &&& (255 : Int32)).toUInt32.toUInt16.toUInt32.toInt32)), .val (.int (1 : Int32)), .val (.ref a477), .val (.ref a480), .val (.ref a483), .val (.ref a486), .val (.ref a502), .val (.ref a517), .val (.ref a530), .val (.ref a532), .unset, .unset, .unset] [(.ref a532), (.ref a545), (.ref a545)])) (fun _ k => XS.dup A545.here hx rfl (hb hby at_286) rfl rfl (XS.aload A545.here hx rfl (hb hby at_287) rfl rfl k)) ?_
    have X547 : Ext h544 h545 := E545
    have f548 := V544.ext X547
    have V549 : Arv Z h545 a532 kA532 .char (25 : Int32) [(.int (nar .char (67 : Int32))), (.int (nar .char (65 : Int32))), (.int (nar .char (83 : Int32))), (.int (nar .char (84 : Int32))), (.int (nar .char (40 : Int32))), (.int (nar .char ((p0 &&& (255 : Int32)).toUInt32.toUInt16.toUInt32.toInt32))), (.int (nar .char (((XT.ushr p0 (8 : Int32)) &&& (255 : Int32)).toUInt32.toUInt16.toUInt32.toInt32))), (.int (nar .char (32 : Int32))), (.int (nar .char (65 : Int32))), (.int (nar .char (83 : Int32))), (.int (nar .char (32 : Int32))), (.int (nar .char ((p1 &&& (255 : Int32)).toUInt32.toUInt16.toUInt32.toInt32))), (.int (nar .char (((XT.ushr p1 (8 : Int32)) &&& (255 : Int32)).toUInt32.toUInt16.toUInt32.toInt32))), (.int (nar .char (41 : Int32))), (.int (nar .char (32 : Int32))), (.int (nar .char (67 : Int32))), (.int (nar .char (79 : Int32))), (.int (nar .char (76 : Int32))), (.int (nar .char (76 : Int32))), (.int (nar .char (65 : Int32))), (.int (nar .char (84 : Int32))), (.int (nar .char (69 : Int32))), (.int (nar .char (32 : Int32))), (.int (nar .char ((p2 &&& (255 : Int32)).toUInt32.toUInt16.toUInt32.toInt32))), (.int (nar .char (((XT.ushr p2 (8 : Int32)) &&& (255 : Int32)).toUInt32.toUInt16.toUInt32.toInt32)))] (.int (0 : Int32)) := f548
    rw [show nar .char (67 : Int32) = (67 : Int32) from rfl, show nar .char (65 : Int32) = (65 : Int32) from rfl, show nar .char (83 : Int32) = (83 : Int32) from rfl, show nar .char (84 : Int32) = (84 : Int32) from rfl, show nar .char (40 : Int32) = (40 : Int32) from rfl, c8n p0, c8n (XT.ushr p0 (8 : Int32)), show nar .char (32 : Int32) = (32 : Int32) from rfl, c8n p1, c8n (XT.ushr p1 (8 : Int32)), show nar .char (41 : Int32) = (41 : Int32) from rfl, show nar .char (79 : Int32) = (79 : Int32) from rfl, show nar .char (76 : Int32) = (76 : Int32) from rfl, show nar .char (69 : Int32) = (69 : Int32) from rfl, c8n p2, c8n (XT.ushr p2 (8 : Int32))] at V549
    have F550 : Fld Z h545 a545 "java/lang/String" "value" "[B" .null := D545 (Or.inr (tw29 H.1)) (ty := (.array .byte)) (by decide)
    have F551 : Fld Z h545 a545 "java/lang/String" "coder" "B" (.int 0) := D545 (Or.inr (tw27 H.1)) (ty := .byte) (by decide)
    obtain ⟨v546, T546, h546, AA546, K546, ⟨L546, Q546⟩, st546⟩ := A545.callI hx (y := (⟨"java/lang/String", "<init>", "([C)V"⟩ : MethodName)) rfl (tw4 H.1) (tw5 H.1) (tw6 H.1) (by decide) (g := (mkF m 289 #[.val (.int p0), .val (.int p1), .val (.int p2), .val (.int p3), .val (.int ((p0 &&& (255 : Int32)).toUInt32.toUInt16.toUInt32.toInt32)), .val (.int (((XT.ushr p0 (8 : Int32)) &&& (255 : Int32)).toUInt32.toUInt16.toUInt32.toInt32)), .val (.int ((p1 &&& (255 : Int32)).toUInt32.toUInt16.toUInt32.toInt32)), .val (.int (((XT.ushr p1 (8 : Int32)) &&& (255 : Int32)).toUInt32.toUInt16.toUInt32.toInt32)), .val (.int ((p2 &&& (255 : Int32)).toUInt32.toUInt16.toUInt32.toInt32)), .val (.int (((XT.ushr p2 (8 : Int32)) &&& (255 : Int32)).toUInt32.toUInt16.toUInt32.toInt32)), .val (.int (1 : Int32)), .val (.ref a477), .val (.ref a480), .val (.ref a483), .val (.ref a486), .val (.ref a502), .val (.ref a517), .val (.ref a530), .val (.ref a532), .unset, .unset, .unset] [(.ref a532), (.ref a545), (.ref a545)])) rfl (by rw [hml]; rfl) a545 [(.ref a532)] [(.ref a545)] (lenOf pd_20 rfl) rfl (Wd := 1) (by show 2 * 0 + _ ≤ _; exact Nat.le_of_eq rfl) (hb hby at_289) (by decide) (by decide) [a545] (fun _ _ _ q => q.2.1) (allS (List.mem_of_getElem? (i := 0) rfl) all0) (fun vm0 hZ => payStr (nn := 25) H A545.old (A545.nle (List.mem_of_getElem? (i := 0) rfl)) Ex545 F550 F551 (cs := [(67 : Int32), (65 : Int32), (83 : Int32), (84 : Int32), (40 : Int32), (p0 &&& (255 : Int32)), ((XT.ushr p0 (8 : Int32)) &&& (255 : Int32)), (32 : Int32), (65 : Int32), (83 : Int32), (32 : Int32), (p1 &&& (255 : Int32)), ((XT.ushr p1 (8 : Int32)) &&& (255 : Int32)), (41 : Int32), (32 : Int32), (67 : Int32), (79 : Int32), (76 : Int32), (76 : Int32), (65 : Int32), (84 : Int32), (69 : Int32), (32 : Int32), (p2 &&& (255 : Int32)), ((XT.ushr p2 (8 : Int32)) &&& (255 : Int32))]) V549 rfl rfl (by decide) (by decide) (chsS (by decide) (chsS (by decide) (chsS (by decide) (chsS (by decide) (chsS (by decide) (chsS (c8r p0) (chsS (c8r (XT.ushr p0 (8 : Int32))) (chsS (by decide) (chsS (by decide) (chsS (by decide) (chsS (by decide) (chsS (c8r p1) (chsS (c8r (XT.ushr p1 (8 : Int32))) (chsS (by decide) (chsS (by decide) (chsS (by decide) (chsS (by decide) (chsS (by decide) (chsS (by decide) (chsS (by decide) (chsS (by decide) (chsS (by decide) (chsS (by decide) (chsS (c8r p2) (chsS (c8r (XT.ushr p2 (8 : Int32))) chs0))))))))))))))))))))))))) (by decide) (by decide) hZ)
    obtain ⟨rfl, -, S546⟩ := Q546
    have A546 := AA546 [] all0
    refine Run.st (T546.setTop (mkF m 292 #[.val (.int p0), .val (.int p1), .val (.int p2), .val (.int p3), .val (.int ((p0 &&& (255 : Int32)).toUInt32.toUInt16.toUInt32.toInt32)), .val (.int (((XT.ushr p0 (8 : Int32)) &&& (255 : Int32)).toUInt32.toUInt16.toUInt32.toInt32)), .val (.int ((p1 &&& (255 : Int32)).toUInt32.toUInt16.toUInt32.toInt32)), .val (.int (((XT.ushr p1 (8 : Int32)) &&& (255 : Int32)).toUInt32.toUInt16.toUInt32.toInt32)), .val (.int ((p2 &&& (255 : Int32)).toUInt32.toUInt16.toUInt32.toInt32)), .val (.int (((XT.ushr p2 (8 : Int32)) &&& (255 : Int32)).toUInt32.toUInt16.toUInt32.toInt32)), .val (.int (1 : Int32)), .val (.ref a477), .val (.ref a480), .val (.ref a483), .val (.ref a486), .val (.ref a502), .val (.ref a517), .val (.ref a530), .val (.ref a532), .unset, .unset, .unset] [(.ref a545)])) st546 ?_
    refine Run.st (T546.setTop (mkF m 306 #[.val (.int p0), .val (.int p1), .val (.int p2), .val (.int p3), .val (.int ((p0 &&& (255 : Int32)).toUInt32.toUInt16.toUInt32.toInt32)), .val (.int (((XT.ushr p0 (8 : Int32)) &&& (255 : Int32)).toUInt32.toUInt16.toUInt32.toInt32)), .val (.int ((p1 &&& (255 : Int32)).toUInt32.toUInt16.toUInt32.toInt32)), .val (.int (((XT.ushr p1 (8 : Int32)) &&& (255 : Int32)).toUInt32.toUInt16.toUInt32.toInt32)), .val (.int ((p2 &&& (255 : Int32)).toUInt32.toUInt16.toUInt32.toInt32)), .val (.int (((XT.ushr p2 (8 : Int32)) &&& (255 : Int32)).toUInt32.toUInt16.toUInt32.toInt32)), .val (.int (1 : Int32)), .val (.ref a477), .val (.ref a480), .val (.ref a483), .val (.ref a486), .val (.ref a502), .val (.ref a517), .val (.ref a530), .val (.ref a532), .val (.ref a545), .unset, .unset] [])) (fun _ k => XS.goto A546.here hx rfl (pc0 := 292) (pc' := 304) rfl (hb hby at_292) (by decide) (by decide) (XS.astore A546.here hx rfl (hb hby at_304) rfl rfl (l' := #[.val (.int p0), .val (.int p1), .val (.int p2), .val (.int p3), .val (.int ((p0 &&& (255 : Int32)).toUInt32.toUInt16.toUInt32.toInt32)), .val (.int (((XT.ushr p0 (8 : Int32)) &&& (255 : Int32)).toUInt32.toUInt16.toUInt32.toInt32)), .val (.int ((p1 &&& (255 : Int32)).toUInt32.toUInt16.toUInt32.toInt32)), .val (.int (((XT.ushr p1 (8 : Int32)) &&& (255 : Int32)).toUInt32.toUInt16.toUInt32.toInt32)), .val (.int ((p2 &&& (255 : Int32)).toUInt32.toUInt16.toUInt32.toInt32)), .val (.int (((XT.ushr p2 (8 : Int32)) &&& (255 : Int32)).toUInt32.toUInt16.toUInt32.toInt32)), .val (.int (1 : Int32)), .val (.ref a477), .val (.ref a480), .val (.ref a483), .val (.ref a486), .val (.ref a502), .val (.ref a517), .val (.ref a530), .val (.ref a532), .val (.ref a545), .unset, .unset]) rfl k)) ?_
    obtain ⟨a552, T552, h552, A552, E552, g552, Ex552, D552, st552⟩ := A546.newO hx (tw34 H.1) (tw35 H.1) (tw36 H.1) (g := (mkF m 306 #[.val (.int p0), .val (.int p1), .val (.int p2), .val (.int p3), .val (.int ((p0 &&& (255 : Int32)).toUInt32.toUInt16.toUInt32.toInt32)), .val (.int (((XT.ushr p0 (8 : Int32)) &&& (255 : Int32)).toUInt32.toUInt16.toUInt32.toInt32)), .val (.int ((p1 &&& (255 : Int32)).toUInt32.toUInt16.toUInt32.toInt32)), .val (.int (((XT.ushr p1 (8 : Int32)) &&& (255 : Int32)).toUInt32.toUInt16.toUInt32.toInt32)), .val (.int ((p2 &&& (255 : Int32)).toUInt32.toUInt16.toUInt32.toInt32)), .val (.int (((XT.ushr p2 (8 : Int32)) &&& (255 : Int32)).toUInt32.toUInt16.toUInt32.toInt32)), .val (.int (1 : Int32)), .val (.ref a477), .val (.ref a480), .val (.ref a483), .val (.ref a486), .val (.ref a502), .val (.ref a517), .val (.ref a530), .val (.ref a532), .val (.ref a545), .unset, .unset] [])) rfl (hb hby at_306) (by decide) (by decide)
    refine Run.st (T552.setTop (mkF m 309 #[.val (.int p0), .val (.int p1), .val (.int p2), .val (.int p3), .val (.int ((p0 &&& (255 : Int32)).toUInt32.toUInt16.toUInt32.toInt32)), .val (.int (((XT.ushr p0 (8 : Int32)) &&& (255 : Int32)).toUInt32.toUInt16.toUInt32.toInt32)), .val (.int ((p1 &&& (255 : Int32)).toUInt32.toUInt16.toUInt32.toInt32)), .val (.int (((XT.ushr p1 (8 : Int32)) &&& (255 : Int32)).toUInt32.toUInt16.toUInt32.toInt32)), .val (.int ((p2 &&& (255 : Int32)).toUInt32.toUInt16.toUInt32.toInt32)), .val (.int (((XT.ushr p2 (8 : Int32)) &&& (255 : Int32)).toUInt32.toUInt16.toUInt32.toInt32)), .val (.int (1 : Int32)), .val (.ref a477), .val (.ref a480), .val (.ref a483), .val (.ref a486), .val (.ref a502), .val (.ref a517), .val (.ref a530), .val (.ref a532), .val (.ref a545), .unset, .unset] [(.ref a552)])) st552 ?_
    refine Run.st (T552.setTop (mkF m 314 #[.val (.int p0), .val (.int p1), .val (.int p2), .val (.int p3), .val (.int ((p0 &&& (255 : Int32)).toUInt32.toUInt16.toUInt32.toInt32)), .val (.int (((XT.ushr p0 (8 : Int32)) &&& (255 : Int32)).toUInt32.toUInt16.toUInt32.toInt32)), .val (.int ((p1 &&& (255 : Int32)).toUInt32.toUInt16.toUInt32.toInt32)), .val (.int (((XT.ushr p1 (8 : Int32)) &&& (255 : Int32)).toUInt32.toUInt16.toUInt32.toInt32)), .val (.int ((p2 &&& (255 : Int32)).toUInt32.toUInt16.toUInt32.toInt32)), .val (.int (((XT.ushr p2 (8 : Int32)) &&& (255 : Int32)).toUInt32.toUInt16.toUInt32.toInt32)), .val (.int (1 : Int32)), .val (.ref a477), .val (.ref a480), .val (.ref a483), .val (.ref a486), .val (.ref a502), .val (.ref a517), .val (.ref a530), .val (.ref a532), .val (.ref a545), .unset, .unset] [(.ref a517), (.ref a502), (.ref a552), (.ref a552)])) (fun _ k => XS.dup A552.here hx rfl (hb hby at_309) rfl rfl (XS.aload A552.here hx rfl (hb hby at_310) rfl rfl (XS.aload A552.here hx rfl (hb hby at_312) rfl rfl k))) ?_
    have F554 : Fld Z h552 a552 "org/grantpath/TableSchema$Comparison" "type" "Ljava/lang/String;" .null := D552 (Or.inr (tw47 H.1)) (ty := (.object "java/lang/String")) (by decide)
    have F555 : Fld Z h552 a552 "org/grantpath/TableSchema$Comparison" "collation" "Ljava/lang/String;" .null := D552 (Or.inr (tw49 H.1)) (ty := (.object "java/lang/String")) (by decide)
    obtain ⟨v553, T553, h553, AA553, K553, ⟨L553, Q553⟩, st553⟩ := A552.callI hx (y := (⟨"org/grantpath/TableSchema$Comparison", "<init>", "(Ljava/lang/String;Ljava/lang/String;)V"⟩ : MethodName)) rfl (tw37 H.1) (tw38 H.1) (tw39 H.1) (by decide) (g := (mkF m 314 #[.val (.int p0), .val (.int p1), .val (.int p2), .val (.int p3), .val (.int ((p0 &&& (255 : Int32)).toUInt32.toUInt16.toUInt32.toInt32)), .val (.int (((XT.ushr p0 (8 : Int32)) &&& (255 : Int32)).toUInt32.toUInt16.toUInt32.toInt32)), .val (.int ((p1 &&& (255 : Int32)).toUInt32.toUInt16.toUInt32.toInt32)), .val (.int (((XT.ushr p1 (8 : Int32)) &&& (255 : Int32)).toUInt32.toUInt16.toUInt32.toInt32)), .val (.int ((p2 &&& (255 : Int32)).toUInt32.toUInt16.toUInt32.toInt32)), .val (.int (((XT.ushr p2 (8 : Int32)) &&& (255 : Int32)).toUInt32.toUInt16.toUInt32.toInt32)), .val (.int (1 : Int32)), .val (.ref a477), .val (.ref a480), .val (.ref a483), .val (.ref a486), .val (.ref a502), .val (.ref a517), .val (.ref a530), .val (.ref a532), .val (.ref a545), .unset, .unset] [(.ref a517), (.ref a502), (.ref a552), (.ref a552)])) rfl (by rw [hml]; rfl) a552 [(.ref a502), (.ref a517)] [(.ref a552)] (lenOf pd_22 rfl) rfl (Wd := 1) (by show 2 * 0 + _ ≤ _; exact Nat.le_of_eq rfl) (hb hby at_314) (by decide) (by decide) [a552] (fun _ _ _ q => q.2) (allS (List.mem_of_getElem? (i := 0) rfl) all0) (fun vm0 hZ => payN (ct_cmp H a552 a502 (.ref a517) .null .null A552.old Ex552 (A552.nle (List.mem_of_getElem? (i := 0) rfl)) Ex552.lt F554 F555 rfl) (tw39 H.1) (tw36 H.1) (by decide) (by decide) hZ)
    obtain ⟨Q553, N553, -⟩ := Q553
    obtain ⟨rfl, Ec553, Fc553_type, Fc553_collation⟩ := Q553
    have A553 := AA553 [] all0
    refine Run.st (T553.setTop (mkF m 317 #[.val (.int p0), .val (.int p1), .val (.int p2), .val (.int p3), .val (.int ((p0 &&& (255 : Int32)).toUInt32.toUInt16.toUInt32.toInt32)), .val (.int (((XT.ushr p0 (8 : Int32)) &&& (255 : Int32)).toUInt32.toUInt16.toUInt32.toInt32)), .val (.int ((p1 &&& (255 : Int32)).toUInt32.toUInt16.toUInt32.toInt32)), .val (.int (((XT.ushr p1 (8 : Int32)) &&& (255 : Int32)).toUInt32.toUInt16.toUInt32.toInt32)), .val (.int ((p2 &&& (255 : Int32)).toUInt32.toUInt16.toUInt32.toInt32)), .val (.int (((XT.ushr p2 (8 : Int32)) &&& (255 : Int32)).toUInt32.toUInt16.toUInt32.toInt32)), .val (.int (1 : Int32)), .val (.ref a477), .val (.ref a480), .val (.ref a483), .val (.ref a486), .val (.ref a502), .val (.ref a517), .val (.ref a530), .val (.ref a532), .val (.ref a545), .unset, .unset] [(.ref a552)])) st553 ?_
    refine Run.st (T553.setTop (mkF m 323 #[.val (.int p0), .val (.int p1), .val (.int p2), .val (.int p3), .val (.int ((p0 &&& (255 : Int32)).toUInt32.toUInt16.toUInt32.toInt32)), .val (.int (((XT.ushr p0 (8 : Int32)) &&& (255 : Int32)).toUInt32.toUInt16.toUInt32.toInt32)), .val (.int ((p1 &&& (255 : Int32)).toUInt32.toUInt16.toUInt32.toInt32)), .val (.int (((XT.ushr p1 (8 : Int32)) &&& (255 : Int32)).toUInt32.toUInt16.toUInt32.toInt32)), .val (.int ((p2 &&& (255 : Int32)).toUInt32.toUInt16.toUInt32.toInt32)), .val (.int (((XT.ushr p2 (8 : Int32)) &&& (255 : Int32)).toUInt32.toUInt16.toUInt32.toInt32)), .val (.int (1 : Int32)), .val (.ref a477), .val (.ref a480), .val (.ref a483), .val (.ref a486), .val (.ref a502), .val (.ref a517), .val (.ref a530), .val (.ref a532), .val (.ref a545), .val (.ref a552), .unset] [(.ref a486), (.ref a552)])) (fun _ k => XS.astore A553.here hx rfl (hb hby at_317) rfl rfl (l' := #[.val (.int p0), .val (.int p1), .val (.int p2), .val (.int p3), .val (.int ((p0 &&& (255 : Int32)).toUInt32.toUInt16.toUInt32.toInt32)), .val (.int (((XT.ushr p0 (8 : Int32)) &&& (255 : Int32)).toUInt32.toUInt16.toUInt32.toInt32)), .val (.int ((p1 &&& (255 : Int32)).toUInt32.toUInt16.toUInt32.toInt32)), .val (.int (((XT.ushr p1 (8 : Int32)) &&& (255 : Int32)).toUInt32.toUInt16.toUInt32.toInt32)), .val (.int ((p2 &&& (255 : Int32)).toUInt32.toUInt16.toUInt32.toInt32)), .val (.int (((XT.ushr p2 (8 : Int32)) &&& (255 : Int32)).toUInt32.toUInt16.toUInt32.toInt32)), .val (.int (1 : Int32)), .val (.ref a477), .val (.ref a480), .val (.ref a483), .val (.ref a486), .val (.ref a502), .val (.ref a517), .val (.ref a530), .val (.ref a532), .val (.ref a545), .val (.ref a552), .unset]) rfl (XS.aload A553.here hx rfl (hb hby at_319) rfl rfl (XS.aload A553.here hx rfl (hb hby at_321) rfl rfl k))) ?_
    have Z557 : h487.size ≤ h502.size := E502.1
    have Z558 : h487.size ≤ h503.size := Nat.le_trans Z557 K503.1
    have Z559 : h487.size ≤ h517.size := Nat.le_trans Z558 E517.1
    have Z560 : h487.size ≤ h518.size := Nat.le_trans Z559 K518.1
    have Z561 : h487.size ≤ h530.size := Nat.le_trans Z560 E530.1
    have Z562 : h487.size ≤ h531.size := Nat.le_trans Z561 K531.1
    have Z563 : h487.size ≤ h532.size := Nat.le_trans Z562 E532.1
    have Z564 : h487.size ≤ h533.size := Nat.le_trans Z563 K533.1
    have Z565 : h487.size ≤ h534.size := Nat.le_trans Z564 K534.1
    have Z566 : h487.size ≤ h535.size := Nat.le_trans Z565 K535.1
    have Z567 : h487.size ≤ h536.size := Nat.le_trans Z566 K536.1
    have Z568 : h487.size ≤ h537.size := Nat.le_trans Z567 K537.1
    have Z569 : h487.size ≤ h538.size := Nat.le_trans Z568 K538.1
    have Z570 : h487.size ≤ h539.size := Nat.le_trans Z569 K539.1
    have Z571 : h487.size ≤ h540.size := Nat.le_trans Z570 K540.1
    have Z572 : h487.size ≤ h541.size := Nat.le_trans Z571 K541.1
    have Z573 : h487.size ≤ h542.size := Nat.le_trans Z572 K542.1
    have Z574 : h487.size ≤ h543.size := Nat.le_trans Z573 K543.1
    have Z575 : h487.size ≤ h544.size := Nat.le_trans Z574 K544.1
    have Z576 : h487.size ≤ h545.size := Nat.le_trans Z575 E545.1
    have Z577 : h487.size ≤ h546.size := Nat.le_trans Z576 K546.1
    have X578 : Ext h487 h502 := E502
    have X579 : Ext h487 h503 := extK X578 K503 (allS (Nat.le_of_eq g502) all0)
    have X580 : Ext h487 h517 := (extT X579 E517)
    have X581 : Ext h487 h518 := extK X580 K518 (allS (Nat.le_trans Z558 (Nat.le_of_eq g517)) all0)
    have X582 : Ext h487 h530 := (extT X581 E530)
    have X583 : Ext h487 h531 := extK X582 K531 (allS (Nat.le_trans Z560 (Nat.le_of_eq g530)) all0)
    have X584 : Ext h487 h532 := (extT X583 E532)
    have X585 : Ext h487 h533 := extK X584 K533 (allS (Nat.le_trans Z562 (Nat.le_of_eq g532)) all0)
    have X586 : Ext h487 h534 := extK X585 K534 (allS (Nat.le_trans Z562 (Nat.le_of_eq g532)) all0)
    have X587 : Ext h487 h535 := extK X586 K535 (allS (Nat.le_trans Z562 (Nat.le_of_eq g532)) all0)
    have X588 : Ext h487 h536 := extK X587 K536 (allS (Nat.le_trans Z562 (Nat.le_of_eq g532)) all0)
    have X589 : Ext h487 h537 := extK X588 K537 (allS (Nat.le_trans Z562 (Nat.le_of_eq g532)) all0)
    have X590 : Ext h487 h538 := extK X589 K538 (allS (Nat.le_trans Z562 (Nat.le_of_eq g532)) all0)
    have X591 : Ext h487 h539 := extK X590 K539 (allS (Nat.le_trans Z562 (Nat.le_of_eq g532)) all0)
    have X592 : Ext h487 h540 := extK X591 K540 (allS (Nat.le_trans Z562 (Nat.le_of_eq g532)) all0)
    have X593 : Ext h487 h541 := extK X592 K541 (allS (Nat.le_trans Z562 (Nat.le_of_eq g532)) all0)
    have X594 : Ext h487 h542 := extK X593 K542 (allS (Nat.le_trans Z562 (Nat.le_of_eq g532)) all0)
    have X595 : Ext h487 h543 := extK X594 K543 (allS (Nat.le_trans Z562 (Nat.le_of_eq g532)) all0)
    have X596 : Ext h487 h544 := extK X595 K544 (allS (Nat.le_trans Z562 (Nat.le_of_eq g532)) all0)
    have X597 : Ext h487 h545 := (extT X596 E545)
    have X598 : Ext h487 h546 := extK X597 K546 (allS (Nat.le_trans Z575 (Nat.le_of_eq g545)) all0)
    have X599 : Ext h487 h552 := (extT X598 E552)
    have X600 : Ext h487 h553 := extK X599 K553 (allS (Nat.le_trans Z577 (Nat.le_of_eq g552)) all0)
    have f601 := S487.ext X600
    have Z602 : h503.size ≤ h517.size := E517.1
    have Z603 : h503.size ≤ h518.size := Nat.le_trans Z602 K518.1
    have Z604 : h503.size ≤ h530.size := Nat.le_trans Z603 E530.1
    have Z605 : h503.size ≤ h531.size := Nat.le_trans Z604 K531.1
    have Z606 : h503.size ≤ h532.size := Nat.le_trans Z605 E532.1
    have Z607 : h503.size ≤ h533.size := Nat.le_trans Z606 K533.1
    have Z608 : h503.size ≤ h534.size := Nat.le_trans Z607 K534.1
    have Z609 : h503.size ≤ h535.size := Nat.le_trans Z608 K535.1
    have Z610 : h503.size ≤ h536.size := Nat.le_trans Z609 K536.1
    have Z611 : h503.size ≤ h537.size := Nat.le_trans Z610 K537.1
    have Z612 : h503.size ≤ h538.size := Nat.le_trans Z611 K538.1
    have Z613 : h503.size ≤ h539.size := Nat.le_trans Z612 K539.1
    have Z614 : h503.size ≤ h540.size := Nat.le_trans Z613 K540.1
    have Z615 : h503.size ≤ h541.size := Nat.le_trans Z614 K541.1
    have Z616 : h503.size ≤ h542.size := Nat.le_trans Z615 K542.1
    have Z617 : h503.size ≤ h543.size := Nat.le_trans Z616 K543.1
    have Z618 : h503.size ≤ h544.size := Nat.le_trans Z617 K544.1
    have Z619 : h503.size ≤ h545.size := Nat.le_trans Z618 E545.1
    have Z620 : h503.size ≤ h546.size := Nat.le_trans Z619 K546.1
    have X621 : Ext h503 h517 := E517
    have X622 : Ext h503 h518 := extK X621 K518 (allS (Nat.le_of_eq g517) all0)
    have X623 : Ext h503 h530 := (extT X622 E530)
    have X624 : Ext h503 h531 := extK X623 K531 (allS (Nat.le_trans Z603 (Nat.le_of_eq g530)) all0)
    have X625 : Ext h503 h532 := (extT X624 E532)
    have X626 : Ext h503 h533 := extK X625 K533 (allS (Nat.le_trans Z605 (Nat.le_of_eq g532)) all0)
    have X627 : Ext h503 h534 := extK X626 K534 (allS (Nat.le_trans Z605 (Nat.le_of_eq g532)) all0)
    have X628 : Ext h503 h535 := extK X627 K535 (allS (Nat.le_trans Z605 (Nat.le_of_eq g532)) all0)
    have X629 : Ext h503 h536 := extK X628 K536 (allS (Nat.le_trans Z605 (Nat.le_of_eq g532)) all0)
    have X630 : Ext h503 h537 := extK X629 K537 (allS (Nat.le_trans Z605 (Nat.le_of_eq g532)) all0)
    have X631 : Ext h503 h538 := extK X630 K538 (allS (Nat.le_trans Z605 (Nat.le_of_eq g532)) all0)
    have X632 : Ext h503 h539 := extK X631 K539 (allS (Nat.le_trans Z605 (Nat.le_of_eq g532)) all0)
    have X633 : Ext h503 h540 := extK X632 K540 (allS (Nat.le_trans Z605 (Nat.le_of_eq g532)) all0)
    have X634 : Ext h503 h541 := extK X633 K541 (allS (Nat.le_trans Z605 (Nat.le_of_eq g532)) all0)
    have X635 : Ext h503 h542 := extK X634 K542 (allS (Nat.le_trans Z605 (Nat.le_of_eq g532)) all0)
    have X636 : Ext h503 h543 := extK X635 K543 (allS (Nat.le_trans Z605 (Nat.le_of_eq g532)) all0)
    have X637 : Ext h503 h544 := extK X636 K544 (allS (Nat.le_trans Z605 (Nat.le_of_eq g532)) all0)
    have X638 : Ext h503 h545 := (extT X637 E545)
    have X639 : Ext h503 h546 := extK X638 K546 (allS (Nat.le_trans Z618 (Nat.le_of_eq g545)) all0)
    have X640 : Ext h503 h552 := (extT X639 E552)
    have X641 : Ext h503 h553 := extK X640 K553 (allS (Nat.le_trans Z620 (Nat.le_of_eq g552)) all0)
    have f642 := S503.ext X641
    have Z643 : h518.size ≤ h530.size := E530.1
    have Z644 : h518.size ≤ h531.size := Nat.le_trans Z643 K531.1
    have Z645 : h518.size ≤ h532.size := Nat.le_trans Z644 E532.1
    have Z646 : h518.size ≤ h533.size := Nat.le_trans Z645 K533.1
    have Z647 : h518.size ≤ h534.size := Nat.le_trans Z646 K534.1
    have Z648 : h518.size ≤ h535.size := Nat.le_trans Z647 K535.1
    have Z649 : h518.size ≤ h536.size := Nat.le_trans Z648 K536.1
    have Z650 : h518.size ≤ h537.size := Nat.le_trans Z649 K537.1
    have Z651 : h518.size ≤ h538.size := Nat.le_trans Z650 K538.1
    have Z652 : h518.size ≤ h539.size := Nat.le_trans Z651 K539.1
    have Z653 : h518.size ≤ h540.size := Nat.le_trans Z652 K540.1
    have Z654 : h518.size ≤ h541.size := Nat.le_trans Z653 K541.1
    have Z655 : h518.size ≤ h542.size := Nat.le_trans Z654 K542.1
    have Z656 : h518.size ≤ h543.size := Nat.le_trans Z655 K543.1
    have Z657 : h518.size ≤ h544.size := Nat.le_trans Z656 K544.1
    have Z658 : h518.size ≤ h545.size := Nat.le_trans Z657 E545.1
    have Z659 : h518.size ≤ h546.size := Nat.le_trans Z658 K546.1
    have X660 : Ext h518 h530 := E530
    have X661 : Ext h518 h531 := extK X660 K531 (allS (Nat.le_of_eq g530) all0)
    have X662 : Ext h518 h532 := (extT X661 E532)
    have X663 : Ext h518 h533 := extK X662 K533 (allS (Nat.le_trans Z644 (Nat.le_of_eq g532)) all0)
    have X664 : Ext h518 h534 := extK X663 K534 (allS (Nat.le_trans Z644 (Nat.le_of_eq g532)) all0)
    have X665 : Ext h518 h535 := extK X664 K535 (allS (Nat.le_trans Z644 (Nat.le_of_eq g532)) all0)
    have X666 : Ext h518 h536 := extK X665 K536 (allS (Nat.le_trans Z644 (Nat.le_of_eq g532)) all0)
    have X667 : Ext h518 h537 := extK X666 K537 (allS (Nat.le_trans Z644 (Nat.le_of_eq g532)) all0)
    have X668 : Ext h518 h538 := extK X667 K538 (allS (Nat.le_trans Z644 (Nat.le_of_eq g532)) all0)
    have X669 : Ext h518 h539 := extK X668 K539 (allS (Nat.le_trans Z644 (Nat.le_of_eq g532)) all0)
    have X670 : Ext h518 h540 := extK X669 K540 (allS (Nat.le_trans Z644 (Nat.le_of_eq g532)) all0)
    have X671 : Ext h518 h541 := extK X670 K541 (allS (Nat.le_trans Z644 (Nat.le_of_eq g532)) all0)
    have X672 : Ext h518 h542 := extK X671 K542 (allS (Nat.le_trans Z644 (Nat.le_of_eq g532)) all0)
    have X673 : Ext h518 h543 := extK X672 K543 (allS (Nat.le_trans Z644 (Nat.le_of_eq g532)) all0)
    have X674 : Ext h518 h544 := extK X673 K544 (allS (Nat.le_trans Z644 (Nat.le_of_eq g532)) all0)
    have X675 : Ext h518 h545 := (extT X674 E545)
    have X676 : Ext h518 h546 := extK X675 K546 (allS (Nat.le_trans Z657 (Nat.le_of_eq g545)) all0)
    have X677 : Ext h518 h552 := (extT X676 E552)
    have X678 : Ext h518 h553 := extK X677 K553 (allS (Nat.le_trans Z659 (Nat.le_of_eq g552)) all0)
    have f679 := S518.ext X678
    obtain ⟨v556, T556, h556, A556, K556, ⟨L556, Q556⟩, st556⟩ := A553.callVW hx (y := (⟨"org/grantpath/TableSchema$Comparison", "of", "(Ljava/lang/String;)Ljava/lang/String;"⟩ : MethodName)) (z := (⟨"org/grantpath/TableSchema$Comparison", "of", "(Ljava/lang/String;)Ljava/lang/String;"⟩ : MethodName)) (tw50 H.1) (tw51 H.1) (tw53 H.1) (tw52 H.1) (nfSel (tw53 H.1)) (by decide) Ec553 (g := (mkF m 323 #[.val (.int p0), .val (.int p1), .val (.int p2), .val (.int p3), .val (.int ((p0 &&& (255 : Int32)).toUInt32.toUInt16.toUInt32.toInt32)), .val (.int (((XT.ushr p0 (8 : Int32)) &&& (255 : Int32)).toUInt32.toUInt16.toUInt32.toInt32)), .val (.int ((p1 &&& (255 : Int32)).toUInt32.toUInt16.toUInt32.toInt32)), .val (.int (((XT.ushr p1 (8 : Int32)) &&& (255 : Int32)).toUInt32.toUInt16.toUInt32.toInt32)), .val (.int ((p2 &&& (255 : Int32)).toUInt32.toUInt16.toUInt32.toInt32)), .val (.int (((XT.ushr p2 (8 : Int32)) &&& (255 : Int32)).toUInt32.toUInt16.toUInt32.toInt32)), .val (.int (1 : Int32)), .val (.ref a477), .val (.ref a480), .val (.ref a483), .val (.ref a486), .val (.ref a502), .val (.ref a517), .val (.ref a530), .val (.ref a532), .val (.ref a545), .val (.ref a552), .unset] [(.ref a486), (.ref a552)])) rfl (by rw [hml]; rfl) [(.ref a486)] [] (lenOf pd_23 rfl) rfl (Wd := 0) (by show 2 * 0 + _ ≤ _; exact Nat.le_of_eq rfl) (hb hby at_323) (by decide) (by decide) [] (fun _ _ _ q => q.2) all0 (fun vm0 hZ hE hC hS => payW (ct_of1 H a552 a486 (p0 &&& (255 : Int32)) ((XT.ushr p0 (8 : Int32)) &&& (255 : Int32)) a502 (p1 &&& (255 : Int32)) ((XT.ushr p1 (8 : Int32)) &&& (255 : Int32)) a517 (p2 &&& (255 : Int32)) ((XT.ushr p2 (8 : Int32)) &&& (255 : Int32)) A553.old Fc553_type Fc553_collation f601 f642 f679) (tw54 H.1) (tw36 H.1) (by decide) (by decide) hZ hE hC hS)
    obtain ⟨Q556, N556, -⟩ := Q556
    obtain ⟨a556, rfl, X556, S556⟩ := Q556
    refine Run.st (T556.setTop (mkF m 326 #[.val (.int p0), .val (.int p1), .val (.int p2), .val (.int p3), .val (.int ((p0 &&& (255 : Int32)).toUInt32.toUInt16.toUInt32.toInt32)), .val (.int (((XT.ushr p0 (8 : Int32)) &&& (255 : Int32)).toUInt32.toUInt16.toUInt32.toInt32)), .val (.int ((p1 &&& (255 : Int32)).toUInt32.toUInt16.toUInt32.toInt32)), .val (.int (((XT.ushr p1 (8 : Int32)) &&& (255 : Int32)).toUInt32.toUInt16.toUInt32.toInt32)), .val (.int ((p2 &&& (255 : Int32)).toUInt32.toUInt16.toUInt32.toInt32)), .val (.int (((XT.ushr p2 (8 : Int32)) &&& (255 : Int32)).toUInt32.toUInt16.toUInt32.toInt32)), .val (.int (1 : Int32)), .val (.ref a477), .val (.ref a480), .val (.ref a483), .val (.ref a486), .val (.ref a502), .val (.ref a517), .val (.ref a530), .val (.ref a532), .val (.ref a545), .val (.ref a552), .unset] [(.ref a556)])) st556 ?_
    refine Run.st (T556.setTop (mkF m 337 #[.val (.int p0), .val (.int p1), .val (.int p2), .val (.int p3), .val (.int ((p0 &&& (255 : Int32)).toUInt32.toUInt16.toUInt32.toInt32)), .val (.int (((XT.ushr p0 (8 : Int32)) &&& (255 : Int32)).toUInt32.toUInt16.toUInt32.toInt32)), .val (.int ((p1 &&& (255 : Int32)).toUInt32.toUInt16.toUInt32.toInt32)), .val (.int (((XT.ushr p1 (8 : Int32)) &&& (255 : Int32)).toUInt32.toUInt16.toUInt32.toInt32)), .val (.int ((p2 &&& (255 : Int32)).toUInt32.toUInt16.toUInt32.toInt32)), .val (.int (((XT.ushr p2 (8 : Int32)) &&& (255 : Int32)).toUInt32.toUInt16.toUInt32.toInt32)), .val (.int (1 : Int32)), .val (.ref a477), .val (.ref a480), .val (.ref a483), .val (.ref a486), .val (.ref a502), .val (.ref a517), .val (.ref a530), .val (.ref a532), .val (.ref a545), .val (.ref a552), .val (.ref a556)] [(.ref a545), (.ref a556)])) (fun _ k => XS.astore A556.here hx rfl (hb hby at_326) rfl rfl (l' := #[.val (.int p0), .val (.int p1), .val (.int p2), .val (.int p3), .val (.int ((p0 &&& (255 : Int32)).toUInt32.toUInt16.toUInt32.toInt32)), .val (.int (((XT.ushr p0 (8 : Int32)) &&& (255 : Int32)).toUInt32.toUInt16.toUInt32.toInt32)), .val (.int ((p1 &&& (255 : Int32)).toUInt32.toUInt16.toUInt32.toInt32)), .val (.int (((XT.ushr p1 (8 : Int32)) &&& (255 : Int32)).toUInt32.toUInt16.toUInt32.toInt32)), .val (.int ((p2 &&& (255 : Int32)).toUInt32.toUInt16.toUInt32.toInt32)), .val (.int (((XT.ushr p2 (8 : Int32)) &&& (255 : Int32)).toUInt32.toUInt16.toUInt32.toInt32)), .val (.int (1 : Int32)), .val (.ref a477), .val (.ref a480), .val (.ref a483), .val (.ref a486), .val (.ref a502), .val (.ref a517), .val (.ref a530), .val (.ref a532), .val (.ref a545), .val (.ref a552), .val (.ref a556)]) rfl (XS.aload A556.here hx rfl (hb hby at_328) rfl rfl (XS.ifnullNo A556.here hx rfl (hb hby at_330) rfl (XS.aload A556.here hx rfl (hb hby at_333) rfl rfl (XS.aload A556.here hx rfl (hb hby at_335) rfl rfl k))))) ?_
    have X681 : Ext h546 h552 := E552
    have X682 : Ext h546 h553 := extK X681 K553 (allS (Nat.le_of_eq g552) all0)
    have X683 : Ext h546 h556 := (extT X682 X556)
    have f684 := S546.ext X683
    obtain ⟨v680, T680, h680, AA680, K680, ⟨L680, Q680⟩, st680⟩ := A556.callV hx (y := (⟨"java/lang/String", "equals", "(Ljava/lang/Object;)Z"⟩ : MethodName)) (z := (⟨"java/lang/String", "equals", "(Ljava/lang/Object;)Z"⟩ : MethodName)) (tw188 H.1) (tw189 H.1) (tw191 H.1) (tw190 H.1) (nfSel (tw191 H.1)) (by decide) S556.1 (g := (mkF m 337 #[.val (.int p0), .val (.int p1), .val (.int p2), .val (.int p3), .val (.int ((p0 &&& (255 : Int32)).toUInt32.toUInt16.toUInt32.toInt32)), .val (.int (((XT.ushr p0 (8 : Int32)) &&& (255 : Int32)).toUInt32.toUInt16.toUInt32.toInt32)), .val (.int ((p1 &&& (255 : Int32)).toUInt32.toUInt16.toUInt32.toInt32)), .val (.int (((XT.ushr p1 (8 : Int32)) &&& (255 : Int32)).toUInt32.toUInt16.toUInt32.toInt32)), .val (.int ((p2 &&& (255 : Int32)).toUInt32.toUInt16.toUInt32.toInt32)), .val (.int (((XT.ushr p2 (8 : Int32)) &&& (255 : Int32)).toUInt32.toUInt16.toUInt32.toInt32)), .val (.int (1 : Int32)), .val (.ref a477), .val (.ref a480), .val (.ref a483), .val (.ref a486), .val (.ref a502), .val (.ref a517), .val (.ref a530), .val (.ref a532), .val (.ref a545), .val (.ref a552), .val (.ref a556)] [(.ref a545), (.ref a556)])) rfl (by rw [hml]; rfl) [(.ref a545)] [] (lenOf pd_24 rfl) rfl (Wd := 0) (by show 2 * 0 + _ ≤ _; exact Nat.le_of_eq rfl) (hb hby at_337) (by decide) (by decide) [] (fun _ _ _ q => by obtain ⟨⟨-, rfl⟩, rfl⟩ := q; exact ⟨Fr.nil _, Keep.refl _ _⟩) all0 (fun vm0 hZ => payEq H A556.old S556 f684 (by decide) (by decide) hZ)
    obtain ⟨⟨rfl, q680⟩, -⟩ := Q680
    have q680 := q680.symm
    subst q680
    have A680 := AA680 [] all0
    refine Run.st (T680.setTop (mkF m 340 #[.val (.int p0), .val (.int p1), .val (.int p2), .val (.int p3), .val (.int ((p0 &&& (255 : Int32)).toUInt32.toUInt16.toUInt32.toInt32)), .val (.int (((XT.ushr p0 (8 : Int32)) &&& (255 : Int32)).toUInt32.toUInt16.toUInt32.toInt32)), .val (.int ((p1 &&& (255 : Int32)).toUInt32.toUInt16.toUInt32.toInt32)), .val (.int (((XT.ushr p1 (8 : Int32)) &&& (255 : Int32)).toUInt32.toUInt16.toUInt32.toInt32)), .val (.int ((p2 &&& (255 : Int32)).toUInt32.toUInt16.toUInt32.toInt32)), .val (.int (((XT.ushr p2 (8 : Int32)) &&& (255 : Int32)).toUInt32.toUInt16.toUInt32.toInt32)), .val (.int (1 : Int32)), .val (.ref a477), .val (.ref a480), .val (.ref a483), .val (.ref a486), .val (.ref a502), .val (.ref a517), .val (.ref a530), .val (.ref a532), .val (.ref a545), .val (.ref a552), .val (.ref a556)] [(.int (bI (((67 : Int32) :: 65 :: 83 :: 84 :: 40 :: (p0 &&& (255 : Int32)) :: ((XT.ushr p0 (8 : Int32)) &&& (255 : Int32)) :: 32 :: 65 :: 83 :: 32 :: (p1 &&& (255 : Int32)) :: ((XT.ushr p1 (8 : Int32)) &&& (255 : Int32)) :: 41 :: 32 :: 67 :: 79 :: 76 :: 76 :: 65 :: 84 :: 69 :: 32 :: (p2 &&& (255 : Int32)) :: ((XT.ushr p2 (8 : Int32)) &&& (255 : Int32)) :: []) = [(67 : Int32), (65 : Int32), (83 : Int32), (84 : Int32), (40 : Int32), (p0 &&& (255 : Int32)), ((XT.ushr p0 (8 : Int32)) &&& (255 : Int32)), (32 : Int32), (65 : Int32), (83 : Int32), (32 : Int32), (p1 &&& (255 : Int32)), ((XT.ushr p1 (8 : Int32)) &&& (255 : Int32)), (41 : Int32), (32 : Int32), (67 : Int32), (79 : Int32), (76 : Int32), (76 : Int32), (65 : Int32), (84 : Int32), (69 : Int32), (32 : Int32), (p2 &&& (255 : Int32)), ((XT.ushr p2 (8 : Int32)) &&& (255 : Int32))])))])) st680 ?_
    refine Run.st (T680.setTop (mkF m 348 #[.val (.int p0), .val (.int p1), .val (.int p2), .val (.int p3), .val (.int ((p0 &&& (255 : Int32)).toUInt32.toUInt16.toUInt32.toInt32)), .val (.int (((XT.ushr p0 (8 : Int32)) &&& (255 : Int32)).toUInt32.toUInt16.toUInt32.toInt32)), .val (.int ((p1 &&& (255 : Int32)).toUInt32.toUInt16.toUInt32.toInt32)), .val (.int (((XT.ushr p1 (8 : Int32)) &&& (255 : Int32)).toUInt32.toUInt16.toUInt32.toInt32)), .val (.int ((p2 &&& (255 : Int32)).toUInt32.toUInt16.toUInt32.toInt32)), .val (.int (((XT.ushr p2 (8 : Int32)) &&& (255 : Int32)).toUInt32.toUInt16.toUInt32.toInt32)), .val (.int (1 : Int32)), .val (.ref a477), .val (.ref a480), .val (.ref a483), .val (.ref a486), .val (.ref a502), .val (.ref a517), .val (.ref a530), .val (.ref a532), .val (.ref a545), .val (.ref a552), .val (.ref a556)] [(.int (1 : Int32))])) (fun _ k => XS.ifNo A680.here hx rfl (hb hby at_340) rfl (by rw [if0]; exact (feq (bI1 rfl)).1) (XS.iconst A680.here hx rfl (hb hby at_343) (XS.goto A680.here hx rfl (pc0 := 344) (pc' := 348) rfl (hb hby at_344) (by decide) (by decide) k))) ?_
    exact A680.leaveW hlk hh0 (some (.int (1 : Int32))) (fun q => by rw [hrt] at q; cases q) (by decide) (by decide) rfl (fun X hr => retN X hx (t := .boolean) hrt (by simp) (hb hby at_348) hr)
set_option maxRecDepth 65536 in
set_option maxHeartbeats 40000000 in
theorem comes_1 {Post : Tables → Env → Array Value → State → Outcome → State → Prop} (hpost : ∀ tb e args s v u, (limb_1_1.after args s (.returned v) u = true ∧ limb_1_2.after args s (.returned v) u = true ∧ True) → ReturnedEndW s (.returned v) u (Jvm.fieldLocs frame_1_writes args s ++ Jvm.arrayLocs frame_1_arrays args s ++ Jvm.staticLocs frame_1_statics s) 64 4608 → Post tb e args s (.returned v) u) :
    ArmFor flags0 classFile x code maxLocals ret World_1 tables_1 room_1 Calls_1 rest_1 Pre_1 Post := by
  intro l hfl _ _ p e ha hc hk s m args below hf hA hF happ hP
  obtain ⟨hcalls, hrest, hpre⟩ := hP
  obtain ⟨-, -, -, hnamed, -, -, -, hat⟩ := (Spec.applies_iff hf).mp happ
  obtain ⟨hg, hn⟩ := and_e (Cond.before_iff.mp (show (Jvm.Cond.and given_1 narrow_1).before args s = true from hpre))
  obtain ⟨h1, h2⟩ := and_e hg
  obtain ⟨w0, w1, w2, w3, rfl⟩ : ∃ w0 w1 w2 w3 : Value, args = #[w0, w1, w2, w3] := by
    have hs : args.size = 4 := by simpa [Cond.value, given_1] using h1
    obtain ⟨L⟩ := args
    match L, hs with
    | [w0, w1, w2, w3], _ => exact ⟨w0, w1, w2, w3, rfl⟩
  obtain ⟨g0, r1⟩ := and_e h2
  obtain ⟨i0, e0⟩ := is_v g0
  obtain rfl : w0 = (.int i0) := Option.some.inj e0
  obtain ⟨g1, r2⟩ := and_e r1
  obtain ⟨i1, e1⟩ := is_v g1
  obtain rfl : w1 = (.int i1) := Option.some.inj e1
  obtain ⟨g2, r3⟩ := and_e r2
  obtain ⟨i2, e2⟩ := is_v g2
  obtain rfl : w2 = (.int i2) := Option.some.inj e2
  obtain ⟨i3, e3⟩ := is_v r3
  obtain rfl : w3 = (.int i3) := Option.some.inj e3
  have hw := fun d (hd : d ∈ tables_1) => atoms_spec (ws := Jvm.Cond.code x code maxLocals ret :: tables_1) hat d (List.mem_cons_of_mem _ hd)
  obtain ⟨hsets, hown0⟩ := atoms_of _ (rest_1_c_eq ▸ (show rest_1_c.before _ s = true from hrest))
  have n3 := not_v (Cond.before_iff.mp (hsets _ (List.mem_of_getElem? (i := 2) rfl)))
  obtain ⟨iz, ez⟩ := is_v (Cond.before_iff.mp (hsets _ (List.mem_of_getElem? (i := 1) rfl)))
  have Sz : Sta s s.heap "java/lang/String" "COMPACT_STRINGS" "Z" (.int iz) := Sta.start ez (Or.inl (hsets _ (List.mem_of_getElem? (i := 0) rfl)))
  obtain ⟨vf, ef, rf⟩ := isR_v (Cond.before_iff.mp (hsets _ (List.mem_of_getElem? (i := 8) rfl)))
  have Sf : Sta s s.heap "jdk/internal/util/Preconditions" "SIOOBE_FORMATTER" "Ljava/util/function/BiFunction;" vf := Sta.start ef (Or.inl (hsets _ (List.mem_of_getElem? (i := 7) rfl)))
  have cz : ¬ (iz = (0 : Int32)) := gotF (Cond.eq_ints ez (Term.int_eval (0))) n3
  have H : Ev s _ := ⟨hw, ⟨iz, Sz, cz⟩, ⟨vf, Sf, rf⟩⟩
  have hCH : CHv s EL s.vm s.heap := CHv.start (elA H) (show ∀ p ∈ EL, Jvm.Lit.constHeld s p.1 p.2 from hcalls.1) (hcw := hsets _ (List.mem_of_getElem? (i := 2) rfl)) (H.1 _ (by decide +kernel : Jvm.Cond.arrayClass .byte ∈ tables_1)) (H.1 _ (by decide +kernel : Jvm.Cond.instantiable "java/lang/String" 4 ∈ tables_1))
  obtain ⟨n, o, h1, h2, h3, _, L, rfl, ⟨hQ, N, -⟩, -, hq⟩ := ct_law (l := l) H i0 i1 i2 i3 (Old.start s) p e ha hc hk s m _ below hf ((Spec.applies_iff_loose hf).mp happ).1 ⟨rfl, State.Warmed39.refl s, rfl, hCH, all0⟩ trivial
  cases hQ
  refine ⟨n, _, h1, h2, h3, hpost _ _ _ _ _ _ ⟨Cond.after_iff.mpr rfl, Cond.after_iff.mpr (eq_i res_at (Term.int_eval (1)) rfl), trivial⟩ ⟨hq.1, hq.2.1, hq.2.2.1, (hq.2.2.2.sift fun y hy => Or.inr (N y hy)).mono (by decide) (by decide)⟩⟩
theorem main_1_1 : Claimed_1_1 := comes_1 fun _ _ _ _ _ _ h hF => ⟨h.1, hF⟩
theorem main_1_2 : Claimed_1_2 := comes_1 fun _ _ _ _ _ _ h hF => ⟨h.2.1, hF⟩
end Jvm.Pilot.@@N@@
namespace Jvm.Pilot.@@N@@
open Jvm Jvm.ClassFile Sem Op Lib Jvm.Free Jvm.Stand Jvm.Pilot.@@N@@.Jvm.D
/-! MADE BY PROGRAM (witnessworld.py) out of the Statement's table words and the real class files: 27 classes; the members and pool entries that the words name. The judged class is class 1, her method 2. -/
namespace start1
open Jvm.ClassFile
def u (s : String) : CpInfo := .utf8 (stringToUtf16 s)
/-- a pool by its gaps: so many unusable entries, then the entry; so many at the end -/
def gap : Nat → List CpInfo → List CpInfo
  | 0, r => r
  | n + 1, r => .unusable :: gap n r
def poolList (es : List (Nat × CpInfo)) (last : Nat) : List CpInfo := es.foldr (fun e r => gap e.1 (e.2 :: r)) (gap last [])
def pool (es : List (Nat × CpInfo)) (last : Nat) : Array CpInfo := ⟨poolList es last⟩
def fileOf (pool : Array CpInfo) (this : Nat) (attrs : Array Attribute := #[]) (ms : Array MethodInfo := #[]) (fl : Nat := 33) (sup : Nat := 0) (ifs : Array Nat := #[]) (fds : Array FieldInfo := #[]) : ClassFile where
  minorVersion := 0
  majorVersion := 65
  constantPool := pool
  accessFlags := fl
  thisClass := this
  superClass := sup
  interfaces := ifs
  fields := fds
  methods := ms
  attributes := attrs
def plain (name : String) (sup : Option ClassId) : Class where
  name := name
  kind := .ordinary
  loader := none
  accessFlags := 33
  super := sup
  interfaces := #[]
  cf := none
  fields := #[]
  methods := #[]
  instanceTypes := #[]
  staticTypes := #[]
  resolved := #[]
  callSites := []
  init := .initialized
  statics := none
  mirror := none

def pool0 : Array CpInfo := pool [(5, u "<init>"), (0, u "()V"), (1, .class_ 10), (1, u "java/lang/Object")] 113

def k0c0 : Code := { maxStack := 0, maxLocals := 1, code := object_method_1_code, exceptionTable := #[], attributes := #[] }
def k0m0 : Method := { name := "<init>", desc := "()V", sig := { parameters := [], returnType := none }, accessFlags := 1, code := some k0c0 }
/-- java/lang/Object -/
def k0 : Class := { plain "java/lang/Object" none with
  accessFlags := 33
  interfaces := #[]
  cf := some (fileOf pool0 8 #[] #[{ accessFlags := 1, nameIndex := 5, descriptorIndex := 6, attributes := #[] }] 33 0 #[] #[])
  fields := #[]
  methods := #[k0m0]
  instanceTypes := #[]
  staticTypes := #[]
  resolved := Array.replicate 124 none
  statics := none }

def pool1 : Array CpInfo := pool [(2, .class_ 4), (1, u "java/lang/Object"), (0, u "<init>"), (0, u "()V"), (0, .class_ 8), (0, u "java/lang/String"), (0, .methodref 7 10), (0, .nameAndType 5 11), (0, u "([C)V"), (0, .methodref 13 14), (0, .class_ 15), (0, .nameAndType 16 17), (0, u "org/grantpath/ComparisonOfPinLaw"), (0, u "head"), (0, u "([CCCCC)V"), (0, .class_ 19), (0, u "org/grantpath/TableSchema$Comparison"), (0, .methodref 18 21), (0, .nameAndType 5 22), (0, u "(Ljava/lang/String;Ljava/lang/String;)V"), (0, .methodref 18 24), (0, .nameAndType 25 26), (0, u "of"), (0, u "(Ljava/lang/String;)Ljava/lang/String;"), (0, .methodref 7 28), (0, .nameAndType 29 30), (0, u "equals"), (0, u "(Ljava/lang/Object;)Z"), (2, u "law"), (0, u "(IIII)Z")] 9

def k1m0 : Method := { name := "<init>", desc := "()V", sig := { parameters := [], returnType := none }, accessFlags := 1, code := none }
def k1c1 : Code := { maxStack := 3, maxLocals := 5, code := method_2_code, exceptionTable := #[], attributes := #[] }
def k1m1 : Method := { name := "head", desc := "([CCCCC)V", sig := { parameters := [(.array .char), .char, .char, .char, .char], returnType := none }, accessFlags := 10, code := some k1c1 }
def k1c2 : Code := { maxStack := 5, maxLocals := 22, code := code, exceptionTable := #[], attributes := #[] }
def k1m2 : Method := { name := "law", desc := "(IIII)Z", sig := { parameters := [.int, .int, .int, .int], returnType := some .boolean }, accessFlags := 9, code := some k1c2 }
/-- org/grantpath/ComparisonOfPinLaw -/
def k1 : Class := { plain "org/grantpath/ComparisonOfPinLaw" (some 0) with
  accessFlags := 49
  interfaces := #[]
  cf := some (fileOf pool1 13 #[] #[{ accessFlags := 1, nameIndex := 5, descriptorIndex := 6, attributes := #[] }, { accessFlags := 10, nameIndex := 16, descriptorIndex := 17, attributes := #[] }, { accessFlags := 9, nameIndex := 33, descriptorIndex := 34, attributes := #[] }] 49 2 #[] #[])
  fields := #[]
  methods := #[k1m0, k1m1, k1m2]
  instanceTypes := #[]
  staticTypes := #[]
  resolved := Array.replicate 44 none
  statics := none }

def pool2 : Array CpInfo := pool [(1, .class_ 2), (0, u "java/io/Serializable"), (0, .class_ 4), (0, u "java/lang/Object")] 2

/-- java/io/Serializable -/
def k2 : Class := { plain "java/io/Serializable" (some 0) with
  accessFlags := 1537
  interfaces := #[]
  cf := some (fileOf pool2 1 #[] #[] 1537 3 #[] #[])
  fields := #[]
  methods := #[]
  instanceTypes := #[]
  staticTypes := #[]
  resolved := Array.replicate 7 none
  statics := none }

def pool3 : Array CpInfo := pool [(1, .class_ 2), (0, u "java/lang/Comparable"), (0, .class_ 4), (0, u "java/lang/Object")] 7

/-- java/lang/Comparable -/
def k3 : Class := { plain "java/lang/Comparable" (some 0) with
  accessFlags := 1537
  interfaces := #[]
  cf := some (fileOf pool3 1 #[] #[] 1537 3 #[] #[])
  fields := #[]
  methods := #[]
  instanceTypes := #[]
  staticTypes := #[]
  resolved := Array.replicate 12 none
  statics := none }

def pool4 : Array CpInfo := pool [(2, .class_ 4), (1, u "java/lang/CharSequence"), (42, .class_ 48), (0, u "java/lang/CharSequence$1CodePointIterator"), (10, .class_ 60), (0, u "java/lang/CharSequence$1CharIterator"), (5, .class_ 67), (0, u "java/lang/Object")] 63

/-- java/lang/CharSequence -/
def k4 : Class := { plain "java/lang/CharSequence" (some 0) with
  accessFlags := 1537
  interfaces := #[]
  cf := some (fileOf pool4 2 #[.nestMembers #[47, 59]] #[] 1537 66 #[] #[])
  fields := #[]
  methods := #[]
  instanceTypes := #[]
  staticTypes := #[]
  resolved := Array.replicate 131 none
  statics := none }

def pool5 : Array CpInfo := pool [(1, .class_ 2), (0, u "java/lang/constant/Constable"), (0, .class_ 4), (0, u "java/lang/Object")] 6

/-- java/lang/constant/Constable -/
def k5 : Class := { plain "java/lang/constant/Constable" (some 0) with
  accessFlags := 1537
  interfaces := #[]
  cf := some (fileOf pool5 1 #[] #[] 1537 3 #[] #[])
  fields := #[]
  methods := #[]
  instanceTypes := #[]
  staticTypes := #[]
  resolved := Array.replicate 11 none
  statics := none }

def pool6 : Array CpInfo := pool [(1, .class_ 2), (0, u "java/lang/constant/ConstantDesc"), (0, .class_ 4), (0, u "java/lang/Object")] 32

/-- java/lang/constant/ConstantDesc -/
def k6 : Class := { plain "java/lang/constant/ConstantDesc" (some 0) with
  accessFlags := 1537
  interfaces := #[]
  cf := some (fileOf pool6 1 #[] #[] 1537 3 #[] #[])
  fields := #[]
  methods := #[]
  instanceTypes := #[]
  staticTypes := #[]
  resolved := Array.replicate 37 none
  statics := none }

def pool7 : Array CpInfo := pool [(1, .methodref 2 3), (0, .class_ 4), (0, .nameAndType 5 6), (0, u "java/lang/Object"), (0, u "<init>"), (0, u "()V"), (2, .fieldref 10 11), (0, .class_ 12), (0, .nameAndType 13 14), (0, u "java/lang/String"), (0, u "value"), (0, u "[B"), (0, .fieldref 10 16), (0, .nameAndType 17 18), (0, u "coder"), (0, u "B"), (2, u "hash"), (0, u "I"), (2, u "hashIsZero"), (0, u "Z"), (0, .methodref 10 28), (0, .nameAndType 5 29), (0, u "([CIILjava/lang/Void;)V"), (8, .fieldref 10 39), (0, .nameAndType 40 26), (0, u "COMPACT_STRINGS"), (1, .class_ 44), (1, u "java/lang/StringUTF16"), (0, u "compress"), (1, .methodref 42 48), (0, .nameAndType 49 50), (0, u "coderFromArrayLen"), (0, u "([BI)B"), (3, .methodref 55 56), (0, .class_ 57), (0, .nameAndType 58 59), (0, u "java/util/Arrays"), (0, u "copyOfRange"), (0, u "([BII)[B"), (47, .class_ 109), (1, u "java/lang/StringLatin1"), (32, u "()Z"), (34, .methodref 42 178), (0, .nameAndType 45 179), (0, u "([CII)[B"), (13, .class_ 195), (1, u "java/lang/System"), (16, .methodref 193 213), (0, .nameAndType 214 215), (0, u "arraycopy"), (0, u "(Ljava/lang/Object;ILjava/lang/Object;II)V"), (118, u "()I"), (0, .methodref 10 336), (0, .nameAndType 17 337), (0, u "()B"), (2, u "()[B"), (148, .methodref 10 490), (0, .nameAndType 5 491), (0, u "(Ljava/lang/AbstractStringBuilder;Ljava/lang/Void;)V"), (1, .nameAndType 494 142), (0, u "isLatin1"), (11, .nameAndType 507 334), (0, u "length"), (24, u "getBytes"), (8, .methodref 107 542), (0, .nameAndType 543 544), (0, u "equals"), (0, u "([B[B)Z"), (4, .methodref 550 506), (0, .class_ 551), (0, u "java/lang/AbstractStringBuilder"), (0, .methodref 550 553), (0, .nameAndType 554 340), (0, u "getValue"), (18, u "(Ljava/lang/Object;)Z"), (1, .class_ 576), (0, u "java/lang/CharSequence"), (22, u "CASE_INSENSITIVE_ORDER"), (0, u "Ljava/util/Comparator;"), (220, u "([BIB)V"), (188, u "([C)V"), (36, .methodref 550 493), (53, u "serialPersistentFields"), (0, u "[Ljava/io/ObjectStreamField;"), (0, .class_ 1104), (0, u "java/lang/String$CaseInsensitiveComparator"), (1, .class_ 1107), (0, u "java/io/Serializable"), (0, .class_ 1109), (0, u "java/lang/Comparable"), (0, .class_ 1111), (0, u "java/lang/constant/Constable"), (0, .class_ 1113), (0, u "java/lang/constant/ConstantDesc"), (2, u "serialVersionUID"), (0, u "J"), (3, u "REPL"), (0, u "C"), (2, u "LATIN1"), (1, u "UTF16"), (105, u "(Ljava/lang/StringBuilder;)V")] 217

def k7m0 : Method := { name := "<init>", desc := "()V", sig := { parameters := [], returnType := none }, accessFlags := 1, code := none }
def k7c1 : Code := { maxStack := 5, maxLocals := 2, code := jdk_42_method_3_code, exceptionTable := #[], attributes := #[] }
def k7m1 : Method := { name := "<init>", desc := "([C)V", sig := { parameters := [(.array .char)], returnType := none }, accessFlags := 1, code := some k7c1 }
def k7c2 : Code := { maxStack := 3, maxLocals := 2, code := jdk_42_method_53_code, exceptionTable := #[], attributes := #[] }
def k7m2 : Method := { name := "<init>", desc := "(Ljava/lang/StringBuilder;)V", sig := { parameters := [(.object "java/lang/StringBuilder")], returnType := none }, accessFlags := 1, code := some k7c2 }
def k7c3 : Code := { maxStack := 2, maxLocals := 1, code := jdk_42_method_54_code, exceptionTable := #[], attributes := #[] }
def k7m3 : Method := { name := "length", desc := "()I", sig := { parameters := [], returnType := some .int }, accessFlags := 1, code := some k7c3 }
def k7c4 : Code := { maxStack := 2, maxLocals := 3, code := jdk_42_method_66_code, exceptionTable := #[], attributes := #[] }
def k7m4 : Method := { name := "equals", desc := "(Ljava/lang/Object;)Z", sig := { parameters := [(.object "java/lang/Object")], returnType := some .boolean }, accessFlags := 1, code := some k7c4 }
def k7c5 : Code := { maxStack := 5, maxLocals := 4, code := jdk_42_method_147_code, exceptionTable := #[], attributes := #[] }
def k7m5 : Method := { name := "getBytes", desc := "([BIB)V", sig := { parameters := [(.array .byte), .int, .byte], returnType := none }, accessFlags := 0, code := some k7c5 }
def k7c6 : Code := { maxStack := 4, maxLocals := 6, code := jdk_42_method_149_code, exceptionTable := #[], attributes := #[] }
def k7m6 : Method := { name := "<init>", desc := "([CIILjava/lang/Void;)V", sig := { parameters := [(.array .char), .int, .int, (.object "java/lang/Void")], returnType := none }, accessFlags := 2, code := some k7c6 }
def k7c7 : Code := { maxStack := 5, maxLocals := 5, code := jdk_42_method_150_code, exceptionTable := #[], attributes := #[] }
def k7m7 : Method := { name := "<init>", desc := "(Ljava/lang/AbstractStringBuilder;Ljava/lang/Void;)V", sig := { parameters := [(.object "java/lang/AbstractStringBuilder"), (.object "java/lang/Void")], returnType := none }, accessFlags := 0, code := some k7c7 }
def k7c8 : Code := { maxStack := 1, maxLocals := 1, code := jdk_42_method_152_code, exceptionTable := #[], attributes := #[] }
def k7m8 : Method := { name := "coder", desc := "()B", sig := { parameters := [], returnType := some .byte }, accessFlags := 0, code := some k7c8 }
/-- java/lang/String -/
def k7 : Class := { plain "java/lang/String" (some 0) with
  accessFlags := 49
  interfaces := #[2, 3, 4, 5, 6]
  cf := some (fileOf pool7 10 #[.nestMembers #[1103]] #[{ accessFlags := 1, nameIndex := 5, descriptorIndex := 6, attributes := #[] }, { accessFlags := 1, nameIndex := 5, descriptorIndex := 1010, attributes := #[] }, { accessFlags := 1, nameIndex := 5, descriptorIndex := 1233, attributes := #[] }, { accessFlags := 1, nameIndex := 507, descriptorIndex := 334, attributes := #[] }, { accessFlags := 1, nameIndex := 543, descriptorIndex := 573, attributes := #[] }, { accessFlags := 0, nameIndex := 532, descriptorIndex := 821, attributes := #[] }, { accessFlags := 2, nameIndex := 5, descriptorIndex := 29, attributes := #[] }, { accessFlags := 0, nameIndex := 5, descriptorIndex := 491, attributes := #[] }, { accessFlags := 0, nameIndex := 17, descriptorIndex := 337, attributes := #[] }] 49 2 #[1106, 1108, 575, 1110, 1112] #[{ accessFlags := 18, nameIndex := 13, descriptorIndex := 14, attributes := #[] }, { accessFlags := 18, nameIndex := 17, descriptorIndex := 18, attributes := #[] }, { accessFlags := 2, nameIndex := 21, descriptorIndex := 22, attributes := #[] }, { accessFlags := 2, nameIndex := 25, descriptorIndex := 26, attributes := #[] }, { accessFlags := 26, nameIndex := 1116, descriptorIndex := 1117, attributes := #[] }, { accessFlags := 24, nameIndex := 40, descriptorIndex := 26, attributes := #[] }, { accessFlags := 26, nameIndex := 1101, descriptorIndex := 1102, attributes := #[] }, { accessFlags := 26, nameIndex := 1121, descriptorIndex := 1122, attributes := #[] }, { accessFlags := 25, nameIndex := 599, descriptorIndex := 600, attributes := #[] }, { accessFlags := 24, nameIndex := 1125, descriptorIndex := 18, attributes := #[] }, { accessFlags := 24, nameIndex := 1127, descriptorIndex := 18, attributes := #[] }])
  fields := #[{ name := "value", type := (.array .byte), accessFlags := 18, slot := 0, constantValue := 0 }, { name := "coder", type := .byte, accessFlags := 18, slot := 1, constantValue := 0 }, { name := "hash", type := .int, accessFlags := 2, slot := 2, constantValue := 0 }, { name := "hashIsZero", type := .boolean, accessFlags := 2, slot := 3, constantValue := 0 }, { name := "serialVersionUID", type := .long, accessFlags := 26, slot := 0, constantValue := 0 }, { name := "COMPACT_STRINGS", type := .boolean, accessFlags := 24, slot := 1, constantValue := 0 }, { name := "serialPersistentFields", type := (.array (.object "java/io/ObjectStreamField")), accessFlags := 26, slot := 2, constantValue := 0 }, { name := "REPL", type := .char, accessFlags := 26, slot := 3, constantValue := 0 }, { name := "CASE_INSENSITIVE_ORDER", type := (.object "java/util/Comparator"), accessFlags := 25, slot := 4, constantValue := 0 }, { name := "LATIN1", type := .byte, accessFlags := 24, slot := 5, constantValue := 0 }, { name := "UTF16", type := .byte, accessFlags := 24, slot := 6, constantValue := 0 }]
  methods := #[k7m0, k7m1, k7m2, k7m3, k7m4, k7m5, k7m6, k7m7, k7m8]
  instanceTypes := #[(.array .byte), .byte, .int, .boolean]
  staticTypes := #[.long, .boolean, (.array (.object "java/io/ObjectStreamField")), .char, (.object "java/util/Comparator"), .byte, .byte]
  resolved := Array.replicate 1451 none
  statics := some 0 }

def pool8 : Array CpInfo := pool [(6, .class_ 8), (1, u "java/lang/Object"), (0, u "<init>"), (0, u "()V"), (1, .class_ 14), (1, u "java/lang/StringUTF16"), (31, u "$assertionsDisabled"), (0, u "Z"), (13, u "HI_BYTE_SHIFT"), (0, u "I"), (2, u "LO_BYTE_SHIFT"), (49, .methodref 12 116), (0, .nameAndType 117 118), (0, u "compress"), (0, u "([CI[BII)I"), (3, u "([CII)[B"), (138, u "coderFromArrayLen"), (0, u "([BI)B"), (106, .class_ 371), (1, u "java/lang/StringUTF16$LinesSpliterator"), (58, u "MAX_LENGTH"), (196, .class_ 628), (0, u "java/lang/StringUTF16$CodePointsSpliterator"), (0, .class_ 630), (0, u "java/lang/StringUTF16$CharsSpliterator")] 4

def k8m0 : Method := { name := "<init>", desc := "()V", sig := { parameters := [], returnType := none }, accessFlags := 0, code := none }
def k8c1 : Code := { maxStack := 2, maxLocals := 2, code := jdk_52_method_15_code, exceptionTable := #[], attributes := #[] }
def k8m1 : Method := { name := "coderFromArrayLen", desc := "([BI)B", sig := { parameters := [(.array .byte), .int], returnType := some .byte }, accessFlags := 8, code := some k8c1 }
def k8c2 : Code := { maxStack := 5, maxLocals := 6, code := jdk_52_method_16_code, exceptionTable := #[], attributes := #[] }
def k8m2 : Method := { name := "compress", desc := "([CII)[B", sig := { parameters := [(.array .char), .int, .int], returnType := some (.array .byte) }, accessFlags := 9, code := some k8c2 }
def k8c3 : Code := { maxStack := 3, maxLocals := 7, code := jdk_52_method_21_code, exceptionTable := #[], attributes := #[] }
def k8m3 : Method := { name := "compress", desc := "([CI[BII)I", sig := { parameters := [(.array .char), .int, (.array .byte), .int, .int], returnType := some .int }, accessFlags := 9, code := some k8c3 }
/-- java/lang/StringUTF16 -/
def k8 : Class := { plain "java/lang/StringUTF16" (some 0) with
  accessFlags := 48
  interfaces := #[]
  cf := some (fileOf pool8 12 #[.nestMembers #[627, 629, 369]] #[{ accessFlags := 0, nameIndex := 9, descriptorIndex := 10, attributes := #[] }, { accessFlags := 8, nameIndex := 261, descriptorIndex := 262, attributes := #[] }, { accessFlags := 9, nameIndex := 117, descriptorIndex := 122, attributes := #[] }, { accessFlags := 9, nameIndex := 117, descriptorIndex := 118, attributes := #[] }] 48 6 #[] #[{ accessFlags := 26, nameIndex := 61, descriptorIndex := 62, attributes := #[] }, { accessFlags := 26, nameIndex := 65, descriptorIndex := 62, attributes := #[] }, { accessFlags := 24, nameIndex := 430, descriptorIndex := 62, attributes := #[] }, { accessFlags := 4120, nameIndex := 46, descriptorIndex := 47, attributes := #[] }])
  fields := #[{ name := "HI_BYTE_SHIFT", type := .int, accessFlags := 26, slot := 0, constantValue := 0 }, { name := "LO_BYTE_SHIFT", type := .int, accessFlags := 26, slot := 1, constantValue := 0 }, { name := "MAX_LENGTH", type := .int, accessFlags := 24, slot := 2, constantValue := 0 }, { name := "$assertionsDisabled", type := .boolean, accessFlags := 4120, slot := 3, constantValue := 0 }]
  methods := #[k8m0, k8m1, k8m2, k8m3]
  instanceTypes := #[]
  staticTypes := #[.int, .int, .int, .boolean]
  resolved := Array.replicate 635 none
  statics := none }

def pool9 : Array CpInfo := pool [(1, .methodref 2 3), (0, .class_ 4), (0, .nameAndType 5 6), (0, u "java/lang/Object"), (0, u "<init>"), (0, u "()V"), (0, .class_ 8), (0, u "java/lang/Record")] 13

def k9c0 : Code := { maxStack := 1, maxLocals := 1, code := jdk_30_method_1_code, exceptionTable := #[], attributes := #[] }
def k9m0 : Method := { name := "<init>", desc := "()V", sig := { parameters := [], returnType := none }, accessFlags := 4, code := some k9c0 }
/-- java/lang/Record -/
def k9 : Class := { plain "java/lang/Record" (some 0) with
  accessFlags := 1057
  interfaces := #[]
  cf := some (fileOf pool9 7 #[] #[{ accessFlags := 4, nameIndex := 5, descriptorIndex := 6, attributes := #[] }] 1057 2 #[] #[])
  fields := #[]
  methods := #[k9m0]
  instanceTypes := #[]
  staticTypes := #[]
  resolved := Array.replicate 22 none
  statics := none }

def pool10 : Array CpInfo := pool [(1, .methodref 2 3), (0, .class_ 4), (0, .nameAndType 5 6), (0, u "java/lang/Record"), (0, u "<init>"), (0, u "()V"), (0, .fieldref 8 9), (0, .class_ 10), (0, .nameAndType 11 12), (0, u "org/grantpath/TableSchema$Comparison"), (0, u "type"), (0, u "Ljava/lang/String;"), (0, .fieldref 8 14), (0, .nameAndType 15 12), (0, u "collation"), (0, .class_ 17), (0, u "java/lang/StringBuilder"), (0, .methodref 16 3), (0, .string 20), (0, u "CAST("), (0, .methodref 16 22), (0, .nameAndType 23 24), (0, u "append"), (0, u "(Ljava/lang/String;)Ljava/lang/StringBuilder;"), (0, .string 26), (0, u " AS "), (0, .string 28), (0, u ")"), (0, .methodref 16 30), (0, .nameAndType 31 32), (0, u "toString"), (0, u "()Ljava/lang/String;"), (0, .string 34), (0, u " COLLATE "), (11, u "(Ljava/lang/String;Ljava/lang/String;)V"), (3, u "of"), (0, u "(Ljava/lang/String;)Ljava/lang/String;"), (8, .class_ 61), (0, u "org/grantpath/TableSchema")] 20

def k10c0 : Code := { maxStack := 2, maxLocals := 3, code := prog_35_method_1_code, exceptionTable := #[], attributes := #[] }
def k10m0 : Method := { name := "<init>", desc := "(Ljava/lang/String;Ljava/lang/String;)V", sig := { parameters := [(.object "java/lang/String"), (.object "java/lang/String")], returnType := none }, accessFlags := 0, code := some k10c0 }
def k10c1 : Code := { maxStack := 2, maxLocals := 3, code := prog_35_method_2_code, exceptionTable := #[], attributes := #[] }
def k10m1 : Method := { name := "of", desc := "(Ljava/lang/String;)Ljava/lang/String;", sig := { parameters := [(.object "java/lang/String")], returnType := some (.object "java/lang/String") }, accessFlags := 0, code := some k10c1 }
/-- org/grantpath/TableSchema$Comparison -/
def k10 : Class := { plain "org/grantpath/TableSchema$Comparison" (some 9) with
  accessFlags := 48
  interfaces := #[]
  cf := some (fileOf pool10 8 #[.nestHost 60] #[{ accessFlags := 0, nameIndex := 5, descriptorIndex := 46, attributes := #[] }, { accessFlags := 0, nameIndex := 50, descriptorIndex := 51, attributes := #[] }] 48 2 #[] #[{ accessFlags := 18, nameIndex := 11, descriptorIndex := 12, attributes := #[] }, { accessFlags := 18, nameIndex := 15, descriptorIndex := 12, attributes := #[] }])
  fields := #[{ name := "type", type := (.object "java/lang/String"), accessFlags := 18, slot := 0, constantValue := 0 }, { name := "collation", type := (.object "java/lang/String"), accessFlags := 18, slot := 1, constantValue := 0 }]
  methods := #[k10m0, k10m1]
  instanceTypes := #[(.object "java/lang/String"), (.object "java/lang/String")]
  staticTypes := #[]
  resolved := Array.replicate 82 none
  statics := none }

def pool11 : Array CpInfo := pool [(1, .class_ 2), (0, u "java/lang/Appendable"), (0, .class_ 4), (0, u "java/lang/Object")] 9

/-- java/lang/Appendable -/
def k11 : Class := { plain "java/lang/Appendable" (some 0) with
  accessFlags := 1537
  interfaces := #[]
  cf := some (fileOf pool11 1 #[] #[] 1537 3 #[] #[])
  fields := #[]
  methods := #[]
  instanceTypes := #[]
  staticTypes := #[]
  resolved := Array.replicate 14 none
  statics := none }

def pool12 : Array CpInfo := pool [(1, .class_ 2), (0, u "java/lang/String"), (0, .methodref 4 5), (0, .class_ 6), (0, .nameAndType 7 8), (0, u "java/lang/Object"), (0, u "<init>"), (0, u "()V"), (1, .class_ 12), (1, u "java/lang/AbstractStringBuilder"), (0, u "EMPTYVALUE"), (0, u "[B"), (0, .fieldref 10 16), (0, .nameAndType 17 14), (0, u "value"), (0, .fieldref 1 19), (0, .nameAndType 20 21), (0, u "COMPACT_STRINGS"), (0, u "Z"), (0, .fieldref 10 23), (0, .nameAndType 24 25), (0, u "coder"), (0, u "B"), (6, .methodref 1 33), (0, .nameAndType 34 35), (0, u "length"), (0, u "()I"), (3, .integer 2147483647), (0, .methodref 1 41), (0, .nameAndType 24 42), (0, u "()B"), (2, u "append"), (0, u "(Ljava/lang/String;)Ljava/lang/AbstractStringBuilder;"), (1, .class_ 49), (0, u "java/lang/CharSequence"), (19, u "(Ljava/lang/String;)V"), (5, u "maybeLatin1"), (3, .fieldref 10 80), (0, .nameAndType 81 82), (0, u "count"), (0, u "I"), (2, u "isLatin1"), (0, u "()Z"), (13, .methodref 10 101), (0, .nameAndType 102 103), (0, u "ensureCapacityInternal"), (0, u "(I)V"), (0, .methodref 10 105), (0, .nameAndType 106 107), (0, u "newCapacity"), (0, u "(I)I"), (0, .methodref 109 110), (0, .class_ 111), (0, .nameAndType 112 113), (0, u "java/util/Arrays"), (0, u "copyOf"), (0, u "([BI)[B"), (0, .methodref 115 116), (0, .class_ 117), (0, .nameAndType 118 119), (0, u "jdk/internal/util/ArraysSupport"), (0, u "newLength"), (0, u "(III)I"), (88, .methodref 10 209), (0, .nameAndType 210 211), (0, u "putStringAt"), (0, u "(ILjava/lang/String;)V"), (5, u "inflateIfNeededFor"), (2, .nameAndType 221 222), (0, u "getBytes"), (0, u "([BIB)V"), (174, .methodref 10 398), (0, .nameAndType 217 69), (0, .methodref 1 220), (3, u "()[B"), (40, .class_ 445), (0, u "java/lang/Appendable"), (106, u "getValue")] 56

def k12m0 : Method := { name := "<init>", desc := "()V", sig := { parameters := [], returnType := none }, accessFlags := 0, code := none }
def k12c1 : Code := { maxStack := 2, maxLocals := 2, code := jdk_68_method_2_code, exceptionTable := #[], attributes := #[] }
def k12m1 : Method := { name := "<init>", desc := "(I)V", sig := { parameters := [.int], returnType := none }, accessFlags := 0, code := some k12c1 }
def k12c2 : Code := { maxStack := 1, maxLocals := 1, code := jdk_68_method_6_code, exceptionTable := #[], attributes := #[] }
def k12m2 : Method := { name := "length", desc := "()I", sig := { parameters := [], returnType := some .int }, accessFlags := 1, code := some k12c2 }
def k12c3 : Code := { maxStack := 4, maxLocals := 3, code := jdk_68_method_9_code, exceptionTable := #[], attributes := #[] }
def k12m3 : Method := { name := "ensureCapacityInternal", desc := "(I)V", sig := { parameters := [.int], returnType := none }, accessFlags := 2, code := some k12c3 }
def k12c4 : Code := { maxStack := 5, maxLocals := 6, code := jdk_68_method_10_code, exceptionTable := #[], attributes := #[] }
def k12m4 : Method := { name := "newCapacity", desc := "(I)I", sig := { parameters := [.int], returnType := some .int }, accessFlags := 2, code := some k12c4 }
def k12c5 : Code := { maxStack := 3, maxLocals := 3, code := jdk_68_method_22_code, exceptionTable := #[], attributes := #[] }
def k12m5 : Method := { name := "append", desc := "(Ljava/lang/String;)Ljava/lang/AbstractStringBuilder;", sig := { parameters := [(.object "java/lang/String")], returnType := some (.object "java/lang/AbstractStringBuilder") }, accessFlags := 1, code := some k12c5 }
def k12c6 : Code := { maxStack := 1, maxLocals := 1, code := jdk_68_method_64_code, exceptionTable := #[], attributes := #[] }
def k12m6 : Method := { name := "getValue", desc := "()[B", sig := { parameters := [], returnType := some (.array .byte) }, accessFlags := 16, code := some k12c6 }
def k12c7 : Code := { maxStack := 1, maxLocals := 1, code := jdk_68_method_68_code, exceptionTable := #[], attributes := #[] }
def k12m7 : Method := { name := "isLatin1", desc := "()Z", sig := { parameters := [], returnType := some .boolean }, accessFlags := 16, code := some k12c7 }
def k12c8 : Code := { maxStack := 2, maxLocals := 2, code := jdk_68_method_71_code, exceptionTable := #[], attributes := #[] }
def k12m8 : Method := { name := "inflateIfNeededFor", desc := "(Ljava/lang/String;)V", sig := { parameters := [(.object "java/lang/String")], returnType := none }, accessFlags := 2, code := some k12c8 }
def k12c9 : Code := { maxStack := 4, maxLocals := 3, code := jdk_68_method_73_code, exceptionTable := #[], attributes := #[] }
def k12m9 : Method := { name := "putStringAt", desc := "(ILjava/lang/String;)V", sig := { parameters := [.int, (.object "java/lang/String")], returnType := none }, accessFlags := 2, code := some k12c9 }
/-- java/lang/AbstractStringBuilder -/
def k12 : Class := { plain "java/lang/AbstractStringBuilder" (some 0) with
  accessFlags := 1056
  interfaces := #[11, 4]
  cf := some (fileOf pool12 10 #[] #[{ accessFlags := 0, nameIndex := 7, descriptorIndex := 8, attributes := #[] }, { accessFlags := 0, nameIndex := 7, descriptorIndex := 103, attributes := #[] }, { accessFlags := 1, nameIndex := 34, descriptorIndex := 35, attributes := #[] }, { accessFlags := 2, nameIndex := 102, descriptorIndex := 103, attributes := #[] }, { accessFlags := 2, nameIndex := 106, descriptorIndex := 107, attributes := #[] }, { accessFlags := 1, nameIndex := 45, descriptorIndex := 46, attributes := #[] }, { accessFlags := 16, nameIndex := 552, descriptorIndex := 403, attributes := #[] }, { accessFlags := 16, nameIndex := 85, descriptorIndex := 86, attributes := #[] }, { accessFlags := 2, nameIndex := 217, descriptorIndex := 69, attributes := #[] }, { accessFlags := 2, nameIndex := 210, descriptorIndex := 211, attributes := #[] }] 1056 4 #[444, 48] #[{ accessFlags := 0, nameIndex := 17, descriptorIndex := 14, attributes := #[] }, { accessFlags := 0, nameIndex := 24, descriptorIndex := 25, attributes := #[] }, { accessFlags := 0, nameIndex := 75, descriptorIndex := 21, attributes := #[] }, { accessFlags := 0, nameIndex := 81, descriptorIndex := 82, attributes := #[] }, { accessFlags := 26, nameIndex := 13, descriptorIndex := 14, attributes := #[] }])
  fields := #[{ name := "value", type := (.array .byte), accessFlags := 0, slot := 0, constantValue := 0 }, { name := "coder", type := .byte, accessFlags := 0, slot := 1, constantValue := 0 }, { name := "maybeLatin1", type := .boolean, accessFlags := 0, slot := 2, constantValue := 0 }, { name := "count", type := .int, accessFlags := 0, slot := 3, constantValue := 0 }, { name := "EMPTYVALUE", type := (.array .byte), accessFlags := 26, slot := 0, constantValue := 0 }]
  methods := #[k12m0, k12m1, k12m2, k12m3, k12m4, k12m5, k12m6, k12m7, k12m8, k12m9]
  instanceTypes := #[(.array .byte), .byte, .boolean, .int]
  staticTypes := #[(.array .byte)]
  resolved := Array.replicate 609 none
  statics := none }

def pool13 : Array CpInfo := pool [(1, .methodref 2 3), (0, .class_ 4), (0, .nameAndType 5 6), (0, u "java/lang/AbstractStringBuilder"), (0, u "<init>"), (0, u "(I)V"), (11, .class_ 20), (1, u "java/lang/String"), (3, .class_ 26), (1, u "java/lang/StringBuilder"), (0, u "append"), (0, u "(Ljava/lang/String;)Ljava/lang/StringBuilder;"), (0, .methodref 2 30), (0, .nameAndType 27 31), (0, u "(Ljava/lang/String;)Ljava/lang/AbstractStringBuilder;"), (105, .methodref 18 138), (0, .nameAndType 5 139), (0, u "(Ljava/lang/StringBuilder;)V"), (5, u "()V"), (10, u "()I"), (186, .methodref 2 344), (0, .nameAndType 345 156), (0, u "length"), (3, .class_ 350), (0, u "java/lang/Appendable"), (0, .class_ 352), (0, u "java/io/Serializable"), (0, .class_ 354), (0, u "java/lang/Comparable"), (0, .class_ 356), (0, u "java/lang/CharSequence"), (0, u "serialVersionUID"), (0, u "J"), (40, u "toString"), (0, u "()Ljava/lang/String;")] 21

def k13c0 : Code := { maxStack := 2, maxLocals := 1, code := jdk_67_method_1_code, exceptionTable := #[], attributes := #[] }
def k13m0 : Method := { name := "<init>", desc := "()V", sig := { parameters := [], returnType := none }, accessFlags := 1, code := some k13c0 }
def k13c1 : Code := { maxStack := 2, maxLocals := 2, code := jdk_67_method_7_code, exceptionTable := #[], attributes := #[] }
def k13m1 : Method := { name := "append", desc := "(Ljava/lang/String;)Ljava/lang/StringBuilder;", sig := { parameters := [(.object "java/lang/String")], returnType := some (.object "java/lang/StringBuilder") }, accessFlags := 1, code := some k13c1 }
def k13c2 : Code := { maxStack := 3, maxLocals := 1, code := jdk_67_method_42_code, exceptionTable := #[], attributes := #[] }
def k13m2 : Method := { name := "toString", desc := "()Ljava/lang/String;", sig := { parameters := [], returnType := some (.object "java/lang/String") }, accessFlags := 1, code := some k13c2 }
def k13c3 : Code := { maxStack := 1, maxLocals := 1, code := jdk_67_method_93_code, exceptionTable := #[], attributes := #[] }
def k13m3 : Method := { name := "length", desc := "()I", sig := { parameters := [], returnType := some .int }, accessFlags := 4161, code := some k13c3 }
/-- java/lang/StringBuilder -/
def k13 : Class := { plain "java/lang/StringBuilder" (some 12) with
  accessFlags := 49
  interfaces := #[11, 2, 3, 4]
  cf := some (fileOf pool13 24 #[] #[{ accessFlags := 1, nameIndex := 5, descriptorIndex := 145, attributes := #[] }, { accessFlags := 1, nameIndex := 27, descriptorIndex := 28, attributes := #[] }, { accessFlags := 1, nameIndex := 399, descriptorIndex := 400, attributes := #[] }, { accessFlags := 4161, nameIndex := 345, descriptorIndex := 156, attributes := #[] }] 49 2 #[349, 351, 353, 355] #[{ accessFlags := 24, nameIndex := 357, descriptorIndex := 358, attributes := #[] }])
  fields := #[{ name := "serialVersionUID", type := .long, accessFlags := 24, slot := 0, constantValue := 0 }]
  methods := #[k13m0, k13m1, k13m2, k13m3]
  instanceTypes := #[(.array .byte), .byte, .boolean, .int]
  staticTypes := #[.long]
  resolved := Array.replicate 422 none
  statics := none }

def pool14 : Array CpInfo := pool [(2, .class_ 4), (1, u "java/lang/Object"), (0, u "<init>"), (0, u "()V"), (1, .class_ 10), (1, u "java/lang/System"), (0, u "allowSecurityManager"), (0, u "I"), (16, u "cons"), (0, u "Ljava/io/Console;"), (77, .class_ 110), (1, u "java/lang/System$CallersHolder"), (43, u "initialErrStream"), (0, u "Ljava/io/PrintStream;"), (19, u "security"), (0, u "Ljava/lang/SecurityManager;"), (31, .class_ 209), (0, u "java/lang/System$1"), (7, u "props"), (0, u "Ljava/util/Properties;"), (2, u "lineSeparator"), (0, u "Ljava/lang/String;"), (96, .class_ 321), (1, u "java/lang/System$LoggerFinder"), (5, .class_ 328), (0, u "java/lang/System$Logger"), (67, u "err"), (2, u "out"), (91, u "notSupportedJnuEncoding"), (15, u "in"), (17, u "initialIn"), (0, u "Ljava/io/InputStream;"), (35, u "bootLayer"), (0, u "Ljava/lang/ModuleLayer;"), (99, .class_ 664), (0, u "java/lang/System$2"), (9, u "NEVER"), (2, u "MAYBE"), (49, u "arraycopy"), (0, u "(Ljava/lang/Object;ILjava/lang/Object;II)V"), (72, .class_ 802), (0, u "java/lang/System$Logger$Level")] 31

def k14m0 : Method := { name := "<init>", desc := "()V", sig := { parameters := [], returnType := none }, accessFlags := 2, code := none }
def k14m1 : Method := { name := "arraycopy", desc := "(Ljava/lang/Object;ILjava/lang/Object;II)V", sig := { parameters := [(.object "java/lang/Object"), .int, (.object "java/lang/Object"), .int, .int], returnType := none }, accessFlags := 265, code := none }
/-- java/lang/System -/
def k14 : Class := { plain "java/lang/System" (some 0) with
  accessFlags := 49
  interfaces := #[]
  cf := some (fileOf pool14 8 #[.nestMembers #[319, 327, 801, 108, 663, 208]] #[{ accessFlags := 2, nameIndex := 5, descriptorIndex := 6, attributes := #[] }, { accessFlags := 265, nameIndex := 727, descriptorIndex := 728, attributes := #[] }] 49 2 #[] #[{ accessFlags := 25, nameIndex := 507, descriptorIndex := 526, attributes := #[] }, { accessFlags := 25, nameIndex := 399, descriptorIndex := 155, attributes := #[] }, { accessFlags := 25, nameIndex := 396, descriptorIndex := 155, attributes := #[] }, { accessFlags := 10, nameIndex := 525, descriptorIndex := 526, attributes := #[] }, { accessFlags := 26, nameIndex := 674, descriptorIndex := 12, attributes := #[] }, { accessFlags := 26, nameIndex := 677, descriptorIndex := 12, attributes := #[] }, { accessFlags := 10, nameIndex := 11, descriptorIndex := 12, attributes := #[] }, { accessFlags := 74, nameIndex := 175, descriptorIndex := 176, attributes := #[] }, { accessFlags := 10, nameIndex := 491, descriptorIndex := 222, attributes := #[] }, { accessFlags := 74, nameIndex := 29, descriptorIndex := 30, attributes := #[] }, { accessFlags := 74, nameIndex := 154, descriptorIndex := 155, attributes := #[] }, { accessFlags := 10, nameIndex := 217, descriptorIndex := 218, attributes := #[] }, { accessFlags := 10, nameIndex := 221, descriptorIndex := 222, attributes := #[] }, { accessFlags := 8, nameIndex := 562, descriptorIndex := 563, attributes := #[] }])
  fields := #[{ name := "in", type := (.object "java/io/InputStream"), accessFlags := 25, slot := 0, constantValue := 0 }, { name := "out", type := (.object "java/io/PrintStream"), accessFlags := 25, slot := 1, constantValue := 0 }, { name := "err", type := (.object "java/io/PrintStream"), accessFlags := 25, slot := 2, constantValue := 0 }, { name := "initialIn", type := (.object "java/io/InputStream"), accessFlags := 10, slot := 3, constantValue := 0 }, { name := "NEVER", type := .int, accessFlags := 26, slot := 4, constantValue := 0 }, { name := "MAYBE", type := .int, accessFlags := 26, slot := 5, constantValue := 0 }, { name := "allowSecurityManager", type := .int, accessFlags := 10, slot := 6, constantValue := 0 }, { name := "security", type := (.object "java/lang/SecurityManager"), accessFlags := 74, slot := 7, constantValue := 0 }, { name := "notSupportedJnuEncoding", type := (.object "java/lang/String"), accessFlags := 10, slot := 8, constantValue := 0 }, { name := "cons", type := (.object "java/io/Console"), accessFlags := 74, slot := 9, constantValue := 0 }, { name := "initialErrStream", type := (.object "java/io/PrintStream"), accessFlags := 74, slot := 10, constantValue := 0 }, { name := "props", type := (.object "java/util/Properties"), accessFlags := 10, slot := 11, constantValue := 0 }, { name := "lineSeparator", type := (.object "java/lang/String"), accessFlags := 10, slot := 12, constantValue := 0 }, { name := "bootLayer", type := (.object "java/lang/ModuleLayer"), accessFlags := 8, slot := 13, constantValue := 0 }]
  methods := #[k14m0, k14m1]
  instanceTypes := #[]
  staticTypes := #[(.object "java/io/InputStream"), (.object "java/io/PrintStream"), (.object "java/io/PrintStream"), (.object "java/io/InputStream"), .int, .int, .int, (.object "java/lang/SecurityManager"), (.object "java/lang/String"), (.object "java/io/Console"), (.object "java/io/PrintStream"), (.object "java/util/Properties"), (.object "java/lang/String"), (.object "java/lang/ModuleLayer")]
  resolved := Array.replicate 834 none
  statics := none }

def pool15 : Array CpInfo := pool [(2, .class_ 4), (1, u "java/lang/Object"), (0, u "<init>"), (0, u "()V"), (7, .class_ 16), (1, u "java/util/Arrays"), (57, .class_ 76), (1, u "java/util/Arrays$NaturalOrder"), (36, .class_ 115), (1, u "java/util/Arrays$LegacyMergeSort"), (1, u "Z"), (21, u "copyOfRange"), (10, .methodref 151 152), (0, .class_ 153), (0, .nameAndType 154 155), (0, u "java/lang/System"), (0, u "arraycopy"), (0, u "(Ljava/lang/Object;ILjava/lang/Object;II)V"), (146, u "copyOf"), (1, .methodref 305 306), (0, .class_ 307), (0, .nameAndType 308 309), (0, u "java/lang/Math"), (0, u "min"), (0, u "(II)I"), (29, .methodref 14 340), (0, .nameAndType 341 342), (0, u "copyOfRangeByte"), (0, u "([BII)[B"), (0, .methodref 14 344), (0, .nameAndType 345 346), (0, u "checkLength"), (0, u "(II)V"), (28, .class_ 376), (0, u "java/util/Arrays$ArrayList"), (68, u "$assertionsDisabled"), (269, u "MIN_ARRAY_SORT_GRAN"), (0, u "I"), (2, u "INSERTIONSORT_THRESHOLD"), (149, u "([BI)[B"), (105, .class_ 976), (0, u "java/util/Arrays$ArrayItr")] 52

def k15m0 : Method := { name := "<init>", desc := "()V", sig := { parameters := [], returnType := none }, accessFlags := 2, code := none }
def k15c1 : Code := { maxStack := 6, maxLocals := 3, code := jdk_65_method_121_code, exceptionTable := #[], attributes := #[] }
def k15m1 : Method := { name := "copyOf", desc := "([BI)[B", sig := { parameters := [(.array .byte), .int], returnType := some (.array .byte) }, accessFlags := 9, code := some k15c1 }
def k15c2 : Code := { maxStack := 4, maxLocals := 2, code := jdk_65_method_131_code, exceptionTable := #[], attributes := #[] }
def k15m2 : Method := { name := "checkLength", desc := "(II)V", sig := { parameters := [.int, .int], returnType := none }, accessFlags := 10, code := some k15c2 }
def k15c3 : Code := { maxStack := 3, maxLocals := 3, code := jdk_65_method_132_code, exceptionTable := #[], attributes := #[] }
def k15m3 : Method := { name := "copyOfRange", desc := "([BII)[B", sig := { parameters := [(.array .byte), .int, .int], returnType := some (.array .byte) }, accessFlags := 9, code := some k15c3 }
def k15c4 : Code := { maxStack := 6, maxLocals := 5, code := jdk_65_method_133_code, exceptionTable := #[], attributes := #[] }
def k15m4 : Method := { name := "copyOfRangeByte", desc := "([BII)[B", sig := { parameters := [(.array .byte), .int, .int], returnType := some (.array .byte) }, accessFlags := 10, code := some k15c4 }
/-- java/util/Arrays -/
def k15 : Class := { plain "java/util/Arrays" (some 0) with
  accessFlags := 49
  interfaces := #[]
  cf := some (fileOf pool15 14 #[.nestMembers #[975, 375, 113, 74]] #[{ accessFlags := 2, nameIndex := 5, descriptorIndex := 6, attributes := #[] }, { accessFlags := 9, nameIndex := 302, descriptorIndex := 869, attributes := #[] }, { accessFlags := 10, nameIndex := 345, descriptorIndex := 346, attributes := #[] }, { accessFlags := 9, nameIndex := 139, descriptorIndex := 342, attributes := #[] }, { accessFlags := 10, nameIndex := 341, descriptorIndex := 342, attributes := #[] }] 49 2 #[] #[{ accessFlags := 26, nameIndex := 715, descriptorIndex := 716, attributes := #[] }, { accessFlags := 26, nameIndex := 719, descriptorIndex := 716, attributes := #[] }, { accessFlags := 4120, nameIndex := 445, descriptorIndex := 117, attributes := #[] }])
  fields := #[{ name := "MIN_ARRAY_SORT_GRAN", type := .int, accessFlags := 26, slot := 0, constantValue := 0 }, { name := "INSERTIONSORT_THRESHOLD", type := .int, accessFlags := 26, slot := 1, constantValue := 0 }, { name := "$assertionsDisabled", type := .boolean, accessFlags := 4120, slot := 2, constantValue := 0 }]
  methods := #[k15m0, k15m1, k15m2, k15m3, k15m4]
  instanceTypes := #[]
  staticTypes := #[.int, .int, .boolean]
  resolved := Array.replicate 1029 none
  statics := none }

def pool16 : Array CpInfo := pool [(1, .class_ 2), (0, u "java/lang/Math"), (1, .class_ 6), (1, u "java/lang/Object"), (0, u "<init>"), (0, u "()V"), (89, .class_ 100), (1, u "java/lang/Math$RandomNumberGeneratorHolder"), (71, u "negativeZeroFloatBits"), (0, u "J"), (2, u "negativeZeroDoubleBits"), (21, u "max"), (2, u "min"), (43, u "$assertionsDisabled"), (0, u "Z"), (88, u "(II)I"), (2, u "twoToTheDoubleScaleDown"), (0, u "D"), (4, u "twoToTheDoubleScaleUp"), (9, u "E"), (3, u "PI"), (2, u "TAU"), (2, u "DEGREES_TO_RADIANS"), (0, u "RADIANS_TO_DEGREES")] 94

def k16m0 : Method := { name := "<init>", desc := "()V", sig := { parameters := [], returnType := none }, accessFlags := 2, code := none }
def k16c1 : Code := { maxStack := 2, maxLocals := 2, code := jdk_29_method_65_code, exceptionTable := #[], attributes := #[] }
def k16m1 : Method := { name := "max", desc := "(II)I", sig := { parameters := [.int, .int], returnType := some .int }, accessFlags := 9, code := some k16c1 }
def k16c2 : Code := { maxStack := 2, maxLocals := 2, code := jdk_29_method_69_code, exceptionTable := #[], attributes := #[] }
def k16m2 : Method := { name := "min", desc := "(II)I", sig := { parameters := [.int, .int], returnType := some .int }, accessFlags := 9, code := some k16c2 }
/-- java/lang/Math -/
def k16 : Class := { plain "java/lang/Math" (some 0) with
  accessFlags := 49
  interfaces := #[]
  cf := some (fileOf pool16 1 #[.nestMembers #[98]] #[{ accessFlags := 2, nameIndex := 7, descriptorIndex := 8, attributes := #[] }, { accessFlags := 9, nameIndex := 198, descriptorIndex := 335, attributes := #[] }, { accessFlags := 9, nameIndex := 201, descriptorIndex := 335, attributes := #[] }] 49 4 #[] #[{ accessFlags := 25, nameIndex := 354, descriptorIndex := 339, attributes := #[] }, { accessFlags := 25, nameIndex := 358, descriptorIndex := 339, attributes := #[] }, { accessFlags := 25, nameIndex := 361, descriptorIndex := 339, attributes := #[] }, { accessFlags := 26, nameIndex := 364, descriptorIndex := 339, attributes := #[] }, { accessFlags := 26, nameIndex := 365, descriptorIndex := 339, attributes := #[] }, { accessFlags := 26, nameIndex := 172, descriptorIndex := 173, attributes := #[] }, { accessFlags := 26, nameIndex := 176, descriptorIndex := 173, attributes := #[] }, { accessFlags := 8, nameIndex := 344, descriptorIndex := 339, attributes := #[] }, { accessFlags := 8, nameIndex := 338, descriptorIndex := 339, attributes := #[] }, { accessFlags := 4120, nameIndex := 245, descriptorIndex := 246, attributes := #[] }])
  fields := #[{ name := "E", type := .double, accessFlags := 25, slot := 0, constantValue := 0 }, { name := "PI", type := .double, accessFlags := 25, slot := 1, constantValue := 0 }, { name := "TAU", type := .double, accessFlags := 25, slot := 2, constantValue := 0 }, { name := "DEGREES_TO_RADIANS", type := .double, accessFlags := 26, slot := 3, constantValue := 0 }, { name := "RADIANS_TO_DEGREES", type := .double, accessFlags := 26, slot := 4, constantValue := 0 }, { name := "negativeZeroFloatBits", type := .long, accessFlags := 26, slot := 5, constantValue := 0 }, { name := "negativeZeroDoubleBits", type := .long, accessFlags := 26, slot := 6, constantValue := 0 }, { name := "twoToTheDoubleScaleUp", type := .double, accessFlags := 8, slot := 7, constantValue := 0 }, { name := "twoToTheDoubleScaleDown", type := .double, accessFlags := 8, slot := 8, constantValue := 0 }, { name := "$assertionsDisabled", type := .boolean, accessFlags := 4120, slot := 9, constantValue := 0 }]
  methods := #[k16m0, k16m1, k16m2]
  instanceTypes := #[]
  staticTypes := #[.double, .double, .double, .double, .double, .long, .long, .double, .double, .boolean]
  resolved := Array.replicate 460 none
  statics := none }

def pool17 : Array CpInfo := pool [(9, u "<init>"), (6, .class_ 18), (1, u "java/lang/Object"), (0, u "()V"), (1, .class_ 23), (1, u "jdk/internal/util/ArraysSupport"), (0, u "LOG2_ARRAY_LONG_INDEX_SCALE"), (0, u "I"), (2, u "U"), (0, u "Ljdk/internal/misc/Unsafe;"), (8, u "BIG_ENDIAN"), (0, u "Z"), (8, u "LOG2_BYTE_BIT_SIZE"), (4, u "LOG2_ARRAY_INT_INDEX_SCALE"), (54, u "JLA"), (0, u "Ljdk/internal/access/JavaLangAccess;"), (11, u "LOG2_ARRAY_BOOLEAN_INDEX_SCALE"), (9, u "LOG2_ARRAY_BYTE_INDEX_SCALE"), (5, u "LOG2_ARRAY_CHAR_INDEX_SCALE"), (5, u "LOG2_ARRAY_SHORT_INDEX_SCALE"), (18, u "LOG2_ARRAY_FLOAT_INDEX_SCALE"), (24, u "LOG2_ARRAY_DOUBLE_INDEX_SCALE"), (6, .methodref 195 196), (0, .class_ 197), (0, .nameAndType 198 199), (0, u "java/lang/Math"), (0, u "max"), (0, u "(II)I"), (0, .integer 2147483639), (76, u "T_BOOLEAN"), (2, u "T_CHAR"), (1, u "T_FLOAT"), (1, u "T_DOUBLE"), (1, u "T_BYTE"), (1, u "T_SHORT"), (1, u "T_INT"), (1, u "T_LONG"), (1, u "SOFT_MAX_ARRAY_LENGTH"), (56, u "newLength"), (0, u "(III)I")] 25

def k17m0 : Method := { name := "<init>", desc := "()V", sig := { parameters := [], returnType := none }, accessFlags := 2, code := none }
def k17c1 : Code := { maxStack := 3, maxLocals := 4, code := jdk_48_method_27_code, exceptionTable := #[], attributes := #[] }
def k17m1 : Method := { name := "newLength", desc := "(III)I", sig := { parameters := [.int, .int, .int], returnType := some .int }, accessFlags := 9, code := some k17c1 }
/-- jdk/internal/util/ArraysSupport -/
def k17 : Class := { plain "jdk/internal/util/ArraysSupport" (some 0) with
  accessFlags := 33
  interfaces := #[]
  cf := some (fileOf pool17 21 #[] #[{ accessFlags := 2, nameIndex := 9, descriptorIndex := 19, attributes := #[] }, { accessFlags := 9, nameIndex := 351, descriptorIndex := 352, attributes := #[] }] 33 16 #[] #[{ accessFlags := 24, nameIndex := 28, descriptorIndex := 29, attributes := #[] }, { accessFlags := 26, nameIndex := 38, descriptorIndex := 39, attributes := #[] }, { accessFlags := 25, nameIndex := 121, descriptorIndex := 25, attributes := #[] }, { accessFlags := 25, nameIndex := 131, descriptorIndex := 25, attributes := #[] }, { accessFlags := 25, nameIndex := 137, descriptorIndex := 25, attributes := #[] }, { accessFlags := 25, nameIndex := 143, descriptorIndex := 25, attributes := #[] }, { accessFlags := 25, nameIndex := 53, descriptorIndex := 25, attributes := #[] }, { accessFlags := 25, nameIndex := 24, descriptorIndex := 25, attributes := #[] }, { accessFlags := 25, nameIndex := 162, descriptorIndex := 25, attributes := #[] }, { accessFlags := 25, nameIndex := 187, descriptorIndex := 25, attributes := #[] }, { accessFlags := 26, nameIndex := 48, descriptorIndex := 25, attributes := #[] }, { accessFlags := 25, nameIndex := 277, descriptorIndex := 25, attributes := #[] }, { accessFlags := 25, nameIndex := 280, descriptorIndex := 25, attributes := #[] }, { accessFlags := 25, nameIndex := 282, descriptorIndex := 25, attributes := #[] }, { accessFlags := 25, nameIndex := 284, descriptorIndex := 25, attributes := #[] }, { accessFlags := 25, nameIndex := 286, descriptorIndex := 25, attributes := #[] }, { accessFlags := 25, nameIndex := 288, descriptorIndex := 25, attributes := #[] }, { accessFlags := 25, nameIndex := 290, descriptorIndex := 25, attributes := #[] }, { accessFlags := 25, nameIndex := 292, descriptorIndex := 25, attributes := #[] }, { accessFlags := 26, nameIndex := 108, descriptorIndex := 109, attributes := #[] }, { accessFlags := 25, nameIndex := 294, descriptorIndex := 25, attributes := #[] }])
  fields := #[{ name := "U", type := (.object "jdk/internal/misc/Unsafe"), accessFlags := 24, slot := 0, constantValue := 0 }, { name := "BIG_ENDIAN", type := .boolean, accessFlags := 26, slot := 1, constantValue := 0 }, { name := "LOG2_ARRAY_BOOLEAN_INDEX_SCALE", type := .int, accessFlags := 25, slot := 2, constantValue := 0 }, { name := "LOG2_ARRAY_BYTE_INDEX_SCALE", type := .int, accessFlags := 25, slot := 3, constantValue := 0 }, { name := "LOG2_ARRAY_CHAR_INDEX_SCALE", type := .int, accessFlags := 25, slot := 4, constantValue := 0 }, { name := "LOG2_ARRAY_SHORT_INDEX_SCALE", type := .int, accessFlags := 25, slot := 5, constantValue := 0 }, { name := "LOG2_ARRAY_INT_INDEX_SCALE", type := .int, accessFlags := 25, slot := 6, constantValue := 0 }, { name := "LOG2_ARRAY_LONG_INDEX_SCALE", type := .int, accessFlags := 25, slot := 7, constantValue := 0 }, { name := "LOG2_ARRAY_FLOAT_INDEX_SCALE", type := .int, accessFlags := 25, slot := 8, constantValue := 0 }, { name := "LOG2_ARRAY_DOUBLE_INDEX_SCALE", type := .int, accessFlags := 25, slot := 9, constantValue := 0 }, { name := "LOG2_BYTE_BIT_SIZE", type := .int, accessFlags := 26, slot := 10, constantValue := 0 }, { name := "T_BOOLEAN", type := .int, accessFlags := 25, slot := 11, constantValue := 0 }, { name := "T_CHAR", type := .int, accessFlags := 25, slot := 12, constantValue := 0 }, { name := "T_FLOAT", type := .int, accessFlags := 25, slot := 13, constantValue := 0 }, { name := "T_DOUBLE", type := .int, accessFlags := 25, slot := 14, constantValue := 0 }, { name := "T_BYTE", type := .int, accessFlags := 25, slot := 15, constantValue := 0 }, { name := "T_SHORT", type := .int, accessFlags := 25, slot := 16, constantValue := 0 }, { name := "T_INT", type := .int, accessFlags := 25, slot := 17, constantValue := 0 }, { name := "T_LONG", type := .int, accessFlags := 25, slot := 18, constantValue := 0 }, { name := "JLA", type := (.object "jdk/internal/access/JavaLangAccess"), accessFlags := 26, slot := 19, constantValue := 0 }, { name := "SOFT_MAX_ARRAY_LENGTH", type := .int, accessFlags := 25, slot := 20, constantValue := 0 }]
  methods := #[k17m0, k17m1]
  instanceTypes := #[]
  staticTypes := #[(.object "jdk/internal/misc/Unsafe"), .boolean, .int, .int, .int, .int, .int, .int, .int, .int, .int, .int, .int, .int, .int, .int, .int, .int, .int, (.object "jdk/internal/access/JavaLangAccess"), .int]
  resolved := Array.replicate 378 none
  statics := none }

def pool18 : Array CpInfo := pool [(4, .class_ 6), (1, u "java/lang/Object"), (0, u "<init>"), (0, u "()V"), (5, .class_ 16), (1, u "java/lang/StringLatin1"), (104, u "$assertionsDisabled"), (0, u "Z"), (98, .class_ 223), (1, u "java/lang/StringLatin1$LinesSpliterator"), (57, u "equals"), (0, u "([B[B)Z"), (107, .class_ 391), (0, u "java/lang/StringLatin1$CharsSpliterator")] 3

def k18m0 : Method := { name := "<init>", desc := "()V", sig := { parameters := [], returnType := none }, accessFlags := 0, code := none }
def k18c1 : Code := { maxStack := 3, maxLocals := 3, code := jdk_43_method_13_code, exceptionTable := #[], attributes := #[] }
def k18m1 : Method := { name := "equals", desc := "([B[B)Z", sig := { parameters := [(.array .byte), (.array .byte)], returnType := some .boolean }, accessFlags := 9, code := some k18c1 }
/-- java/lang/StringLatin1 -/
def k18 : Class := { plain "java/lang/StringLatin1" (some 0) with
  accessFlags := 48
  interfaces := #[]
  cf := some (fileOf pool18 14 #[.nestMembers #[390, 221]] #[{ accessFlags := 0, nameIndex := 7, descriptorIndex := 8, attributes := #[] }, { accessFlags := 9, nameIndex := 281, descriptorIndex := 282, attributes := #[] }] 48 4 #[] #[{ accessFlags := 4120, nameIndex := 121, descriptorIndex := 122, attributes := #[] }])
  fields := #[{ name := "$assertionsDisabled", type := .boolean, accessFlags := 4120, slot := 0, constantValue := 0 }]
  methods := #[k18m0, k18m1]
  instanceTypes := #[]
  staticTypes := #[.boolean]
  resolved := Array.replicate 395 none
  statics := none }

def pool19 : Array CpInfo := pool [(2, .class_ 4), (1, u "java/lang/Object"), (0, u "<init>"), (0, u "()V"), (17, .class_ 26), (1, u "jdk/internal/util/Preconditions"), (28, .class_ 56), (0, u "jdk/internal/util/Preconditions$4"), (57, .class_ 115), (0, u "jdk/internal/util/Preconditions$1"), (7, u "SIOOBE_FORMATTER"), (0, u "Ljava/util/function/BiFunction;"), (0, .class_ 126), (0, u "jdk/internal/util/Preconditions$2"), (3, u "AIOOBE_FORMATTER"), (0, .class_ 132), (0, u "jdk/internal/util/Preconditions$3"), (3, u "IOOBE_FORMATTER")] 57

def k19m0 : Method := { name := "<init>", desc := "()V", sig := { parameters := [], returnType := none }, accessFlags := 1, code := none }
/-- jdk/internal/util/Preconditions -/
def k19 : Class := { plain "jdk/internal/util/Preconditions" (some 0) with
  accessFlags := 33
  interfaces := #[]
  cf := some (fileOf pool19 24 #[.nestMembers #[55, 131, 125, 114]] #[{ accessFlags := 1, nameIndex := 5, descriptorIndex := 6, attributes := #[] }] 33 2 #[] #[{ accessFlags := 25, nameIndex := 123, descriptorIndex := 124, attributes := #[] }, { accessFlags := 25, nameIndex := 130, descriptorIndex := 124, attributes := #[] }, { accessFlags := 25, nameIndex := 136, descriptorIndex := 124, attributes := #[] }])
  fields := #[{ name := "SIOOBE_FORMATTER", type := (.object "java/util/function/BiFunction"), accessFlags := 25, slot := 0, constantValue := 0 }, { name := "AIOOBE_FORMATTER", type := (.object "java/util/function/BiFunction"), accessFlags := 25, slot := 1, constantValue := 0 }, { name := "IOOBE_FORMATTER", type := (.object "java/util/function/BiFunction"), accessFlags := 25, slot := 2, constantValue := 0 }]
  methods := #[k19m0]
  instanceTypes := #[]
  staticTypes := #[(.object "java/util/function/BiFunction"), (.object "java/util/function/BiFunction"), (.object "java/util/function/BiFunction")]
  resolved := Array.replicate 194 none
  statics := some 1 }

def pool20 : Array CpInfo := pool [(1, u "java/lang/Cloneable"), (0, .class_ 1), (0, u "java/lang/Object"), (0, .class_ 3)] 3

/-- java/lang/Cloneable -/
def k20 : Class := { plain "java/lang/Cloneable" (some 0) with
  accessFlags := 1537
  interfaces := #[]
  cf := some (fileOf pool20 2 #[] #[] 1537 4 #[] #[])
  fields := #[]
  methods := #[]
  instanceTypes := #[]
  staticTypes := #[]
  resolved := Array.replicate 8 none
  statics := none }

/-- the primitive byte -/
def k21 : Class := { plain "byte" none with kind := .primitive 'B', accessFlags := 0x411 }
/-- [B -/
def k22 : Class := { plain "[B" (some 0) with kind := .array 21 .byte, interfaces := #[20, 2], accessFlags := 1041 }

/-- the primitive char -/
def k23 : Class := { plain "char" none with kind := .primitive 'C', accessFlags := 0x411 }
/-- [C -/
def k24 : Class := { plain "[C" (some 0) with kind := .array 23 .char, interfaces := #[20, 2], accessFlags := 1041 }

/-- the primitive int -/
def k25 : Class := { plain "int" none with kind := .primitive 'I', accessFlags := 0x411 }
/-- [I -/
def k26 : Class := { plain "[I" (some 0) with kind := .array 25 .int, interfaces := #[20, 2], accessFlags := 1041 }

def heap : Heap := #[{ cls := 7, slots := #[.long 0, .int 1, .null, .int 0, .null, .int 0, .int 0], vm := .statics 7 },
  { cls := 19, slots := #[.null, .null, .null], vm := .statics 19 }]
def classes : Array Class := #[k0, k1, k2, k3, k4, k5, k6, k7, k8, k9, k10, k11, k12, k13, k14, k15, k16, k17, k18, k19, k20, k21, k22, k23, k24, k25, k26]
def interned : List (Array UInt16 × Addr) := []
def slotsUsed : Nat := 10
def theMethod : MethodId := ⟨1, 2⟩
def args0 : Array Value := #[.int 7, .int 11, .int 13, .int 3]
def aboutOver (below : List Frame) : State where
  vm := { classes := classes, interned := interned.toArray }
  heap := heap
  slotsUsed := slotsUsed
  threads := #[{ frames := .invoking theMethod args0 :: below }]
def below0 : List Frame := [.native { method := ⟨0, 0⟩, args := #[] }]
def about1 : State := aboutOver below0
def p0 : Program := .bare "" "" ""
def e0 : Env := launch0.env 0 0 0
theorem w_frames : about1.frames = Frame.invoking theMethod args0 :: below0 := rfl
set_option maxRecDepth 65536 in
theorem w_args : argsFit about1.vm theMethod args0 = true := by decide +kernel
set_option maxRecDepth 65536 in
theorem w_heap : heapFits about1 = true := by decide +kernel
set_option maxRecDepth 65536 in
theorem w_runnable : about1.curStatus? = some .runnable := by decide +kernel
set_option maxRecDepth 65536 in
theorem w_alone : about1.alone = true := by decide +kernel
set_option maxRecDepth 65536 in
theorem w_named : about1.methodNamed? x = some theMethod := by decide +kernel
set_option maxRecDepth 65536 in
theorem w_hears : about1.hears theMethod below0 = true := by decide +kernel
set_option maxRecDepth 65536 in
theorem w_ripe : about1.ripe theMethod args0 below0 = true := by decide +kernel
theorem w_running : about1.status = .running := rfl
set_option maxRecDepth 65536 in
theorem w_room : about1.hasRoom e0.platform room_1 = true :=
  launch0.hasRoom_least _ room_1 (by decide +kernel) (by decide +kernel) (by decide +kernel) (by decide +kernel) (by decide +kernel) (by decide +kernel)
theorem allAtoms_all (ts : List Jvm.Cond) (a : Array Jvm.Value) (st : Jvm.State) : (allAtoms ts).before a st = ts.all (fun c => c.before a st) := by
  induction ts with
  | nil => rfl
  | cons c t ih =>
    show (Jvm.Cond.and c (allAtoms t)).before a st = _
    rw [Jvm.Cond.before_and, ih, List.all_cons]
def words1 : List Jvm.Cond := Jvm.Cond.code x code maxLocals ret :: tables_1
/-- a 'code' word, met by the world's own term for the bytes: nothing is compared byte by byte -/
theorem code_word {y : MethodName} {bytes : ByteArray} {mx : Nat} {rt : Option FieldType} {a : Array Value} {s : State} {m : MethodId} {meth : Method} {c : Code} (h1 : s.methodNamed? y = some m) (h2 : s.vm.method? m = some meth) (h3 : meth.code = some c) (h4 : c.code = bytes)
    (h5 : (c.maxLocals == mx && c.exceptionTable.isEmpty && decide (c.maxStack ≤ mostOperands) && decide (meth.sig.returnType = rt) && !meth.locks && decide (parseMethodDescriptor y.desc = some meth.sig)) = true) : (Jvm.Cond.code y bytes mx rt).before a s = true := by
  simp only [Bool.and_eq_true, beq_iff_eq, Bool.not_eq_true', decide_eq_true_eq] at h5
  obtain ⟨⟨⟨⟨⟨g1, g2⟩, g3⟩, g4⟩, g5⟩, g6⟩ := h5
  simp [Cond.before, Cond.holds, Cond.value, h1, h2, h3, h4, g1, g2, g3, g4, g5, g6]
def isCode : Jvm.Cond → Bool
  | .code _ _ _ _ => true
  | _ => false
theorem all_split {L : List Jvm.Cond} {P : Jvm.Cond → Bool} (h1 : L.all (fun c => isCode c || P c) = true) (h2 : ∀ c ∈ L.filter isCode, P c = true) : L.all P = true := by
  refine List.all_eq_true.mpr fun c hc => ?_
  have h := List.all_eq_true.mp h1 c hc
  rcases Bool.eq_false_or_eq_true (isCode c) with hi | hi
  · exact h2 c (List.mem_filter.mpr ⟨hc, hi⟩)
  · simpa [hi] using h
set_option maxRecDepth 65536 in
theorem w_c0 : (Jvm.Cond.code x code maxLocals ret).before args0 about1 = true := code_word (m := ⟨1, 2⟩) (meth := k1m2) (c := k1c2) (by decide +kernel) rfl rfl rfl (by decide +kernel)
set_option maxRecDepth 65536 in
theorem w_c1 : (Jvm.Cond.code ({ cls := "java/lang/String", name := "<init>", desc := "([C)V" } : Jvm.MethodName) jdk_42_method_3_code (2 : Nat) (Option.none : Option Jvm.ClassFile.FieldType)).before args0 about1 = true := code_word (m := ⟨7, 1⟩) (meth := k7m1) (c := k7c1) (by decide +kernel) rfl rfl rfl (by decide +kernel)
set_option maxRecDepth 65536 in
theorem w_c2 : (Jvm.Cond.code ({ cls := "java/lang/String", name := "<init>", desc := "([CIILjava/lang/Void;)V" } : Jvm.MethodName) jdk_42_method_149_code (6 : Nat) (Option.none : Option Jvm.ClassFile.FieldType)).before args0 about1 = true := code_word (m := ⟨7, 6⟩) (meth := k7m6) (c := k7c6) (by decide +kernel) rfl rfl rfl (by decide +kernel)
set_option maxRecDepth 65536 in
theorem w_c3 : (Jvm.Cond.code ({ cls := "java/lang/Object", name := "<init>", desc := "()V" } : Jvm.MethodName) object_method_1_code (1 : Nat) (Option.none : Option Jvm.ClassFile.FieldType)).before args0 about1 = true := code_word (m := ⟨0, 0⟩) (meth := k0m0) (c := k0c0) (by decide +kernel) rfl rfl rfl (by decide +kernel)
set_option maxRecDepth 65536 in
theorem w_c4 : (Jvm.Cond.code ({ cls := "java/lang/StringUTF16", name := "compress", desc := "([CII)[B" } : Jvm.MethodName) jdk_52_method_16_code (6 : Nat) (Option.some (Jvm.ClassFile.FieldType.array Jvm.ClassFile.FieldType.byte))).before args0 about1 = true := code_word (m := ⟨8, 2⟩) (meth := k8m2) (c := k8c2) (by decide +kernel) rfl rfl rfl (by decide +kernel)
set_option maxRecDepth 65536 in
theorem w_c5 : (Jvm.Cond.code ({ cls := "java/lang/StringUTF16", name := "compress", desc := "([CI[BII)I" } : Jvm.MethodName) jdk_52_method_21_code (7 : Nat) (Option.some Jvm.ClassFile.FieldType.int)).before args0 about1 = true := code_word (m := ⟨8, 3⟩) (meth := k8m3) (c := k8c3) (by decide +kernel) rfl rfl rfl (by decide +kernel)
set_option maxRecDepth 65536 in
theorem w_c6 : (Jvm.Cond.code ({ cls := "java/lang/StringUTF16", name := "coderFromArrayLen", desc := "([BI)B" } : Jvm.MethodName) jdk_52_method_15_code (2 : Nat) (Option.some Jvm.ClassFile.FieldType.byte)).before args0 about1 = true := code_word (m := ⟨8, 1⟩) (meth := k8m1) (c := k8c1) (by decide +kernel) rfl rfl rfl (by decide +kernel)
set_option maxRecDepth 65536 in
theorem w_c7 : (Jvm.Cond.code ({ cls := "org/grantpath/ComparisonOfPinLaw", name := "head", desc := "([CCCCC)V" } : Jvm.MethodName) method_2_code (5 : Nat) (Option.none : Option Jvm.ClassFile.FieldType)).before args0 about1 = true := code_word (m := ⟨1, 1⟩) (meth := k1m1) (c := k1c1) (by decide +kernel) rfl rfl rfl (by decide +kernel)
set_option maxRecDepth 65536 in
theorem w_c8 : (Jvm.Cond.code ({ cls := "org/grantpath/TableSchema$Comparison", name := "<init>", desc := "(Ljava/lang/String;Ljava/lang/String;)V" } : Jvm.MethodName) prog_35_method_1_code (3 : Nat) (Option.none : Option Jvm.ClassFile.FieldType)).before args0 about1 = true := code_word (m := ⟨10, 0⟩) (meth := k10m0) (c := k10c0) (by decide +kernel) rfl rfl rfl (by decide +kernel)
set_option maxRecDepth 65536 in
theorem w_c9 : (Jvm.Cond.code ({ cls := "java/lang/Record", name := "<init>", desc := "()V" } : Jvm.MethodName) jdk_30_method_1_code (1 : Nat) (Option.none : Option Jvm.ClassFile.FieldType)).before args0 about1 = true := code_word (m := ⟨9, 0⟩) (meth := k9m0) (c := k9c0) (by decide +kernel) rfl rfl rfl (by decide +kernel)
set_option maxRecDepth 65536 in
theorem w_c10 : (Jvm.Cond.code ({ cls := "org/grantpath/TableSchema$Comparison", name := "of", desc := "(Ljava/lang/String;)Ljava/lang/String;" } : Jvm.MethodName) prog_35_method_2_code (3 : Nat) (Option.some (Jvm.ClassFile.FieldType.object "java/lang/String"))).before args0 about1 = true := code_word (m := ⟨10, 1⟩) (meth := k10m1) (c := k10c1) (by decide +kernel) rfl rfl rfl (by decide +kernel)
set_option maxRecDepth 65536 in
theorem w_c11 : (Jvm.Cond.code ({ cls := "java/lang/StringBuilder", name := "<init>", desc := "()V" } : Jvm.MethodName) jdk_67_method_1_code (1 : Nat) (Option.none : Option Jvm.ClassFile.FieldType)).before args0 about1 = true := code_word (m := ⟨13, 0⟩) (meth := k13m0) (c := k13c0) (by decide +kernel) rfl rfl rfl (by decide +kernel)
set_option maxRecDepth 65536 in
theorem w_c12 : (Jvm.Cond.code ({ cls := "java/lang/AbstractStringBuilder", name := "<init>", desc := "(I)V" } : Jvm.MethodName) jdk_68_method_2_code (2 : Nat) (Option.none : Option Jvm.ClassFile.FieldType)).before args0 about1 = true := code_word (m := ⟨12, 1⟩) (meth := k12m1) (c := k12c1) (by decide +kernel) rfl rfl rfl (by decide +kernel)
set_option maxRecDepth 65536 in
theorem w_c13 : (Jvm.Cond.code ({ cls := "java/lang/StringBuilder", name := "append", desc := "(Ljava/lang/String;)Ljava/lang/StringBuilder;" } : Jvm.MethodName) jdk_67_method_7_code (2 : Nat) (Option.some (Jvm.ClassFile.FieldType.object "java/lang/StringBuilder"))).before args0 about1 = true := code_word (m := ⟨13, 1⟩) (meth := k13m1) (c := k13c1) (by decide +kernel) rfl rfl rfl (by decide +kernel)
set_option maxRecDepth 65536 in
theorem w_c14 : (Jvm.Cond.code ({ cls := "java/lang/AbstractStringBuilder", name := "append", desc := "(Ljava/lang/String;)Ljava/lang/AbstractStringBuilder;" } : Jvm.MethodName) jdk_68_method_22_code (3 : Nat) (Option.some (Jvm.ClassFile.FieldType.object "java/lang/AbstractStringBuilder"))).before args0 about1 = true := code_word (m := ⟨12, 5⟩) (meth := k12m5) (c := k12c5) (by decide +kernel) rfl rfl rfl (by decide +kernel)
set_option maxRecDepth 65536 in
theorem w_c15 : (Jvm.Cond.code ({ cls := "java/lang/String", name := "length", desc := "()I" } : Jvm.MethodName) jdk_42_method_54_code (1 : Nat) (Option.some Jvm.ClassFile.FieldType.int)).before args0 about1 = true := code_word (m := ⟨7, 3⟩) (meth := k7m3) (c := k7c3) (by decide +kernel) rfl rfl rfl (by decide +kernel)
set_option maxRecDepth 65536 in
theorem w_c16 : (Jvm.Cond.code ({ cls := "java/lang/String", name := "coder", desc := "()B" } : Jvm.MethodName) jdk_42_method_152_code (1 : Nat) (Option.some Jvm.ClassFile.FieldType.byte)).before args0 about1 = true := code_word (m := ⟨7, 8⟩) (meth := k7m8) (c := k7c8) (by decide +kernel) rfl rfl rfl (by decide +kernel)
set_option maxRecDepth 65536 in
theorem w_c17 : (Jvm.Cond.code ({ cls := "java/lang/AbstractStringBuilder", name := "ensureCapacityInternal", desc := "(I)V" } : Jvm.MethodName) jdk_68_method_9_code (3 : Nat) (Option.none : Option Jvm.ClassFile.FieldType)).before args0 about1 = true := code_word (m := ⟨12, 3⟩) (meth := k12m3) (c := k12c3) (by decide +kernel) rfl rfl rfl (by decide +kernel)
set_option maxRecDepth 65536 in
theorem w_c18 : (Jvm.Cond.code ({ cls := "java/lang/AbstractStringBuilder", name := "putStringAt", desc := "(ILjava/lang/String;)V" } : Jvm.MethodName) jdk_68_method_73_code (3 : Nat) (Option.none : Option Jvm.ClassFile.FieldType)).before args0 about1 = true := code_word (m := ⟨12, 9⟩) (meth := k12m9) (c := k12c9) (by decide +kernel) rfl rfl rfl (by decide +kernel)
set_option maxRecDepth 65536 in
theorem w_c19 : (Jvm.Cond.code ({ cls := "java/lang/AbstractStringBuilder", name := "inflateIfNeededFor", desc := "(Ljava/lang/String;)V" } : Jvm.MethodName) jdk_68_method_71_code (2 : Nat) (Option.none : Option Jvm.ClassFile.FieldType)).before args0 about1 = true := code_word (m := ⟨12, 8⟩) (meth := k12m8) (c := k12c8) (by decide +kernel) rfl rfl rfl (by decide +kernel)
set_option maxRecDepth 65536 in
theorem w_c20 : (Jvm.Cond.code ({ cls := "java/lang/String", name := "getBytes", desc := "([BIB)V" } : Jvm.MethodName) jdk_42_method_147_code (4 : Nat) (Option.none : Option Jvm.ClassFile.FieldType)).before args0 about1 = true := code_word (m := ⟨7, 5⟩) (meth := k7m5) (c := k7c5) (by decide +kernel) rfl rfl rfl (by decide +kernel)
set_option maxRecDepth 65536 in
theorem w_c21 : (Jvm.Cond.code ({ cls := "java/lang/StringBuilder", name := "toString", desc := "()Ljava/lang/String;" } : Jvm.MethodName) jdk_67_method_42_code (1 : Nat) (Option.some (Jvm.ClassFile.FieldType.object "java/lang/String"))).before args0 about1 = true := code_word (m := ⟨13, 2⟩) (meth := k13m2) (c := k13c2) (by decide +kernel) rfl rfl rfl (by decide +kernel)
set_option maxRecDepth 65536 in
theorem w_c22 : (Jvm.Cond.code ({ cls := "java/lang/String", name := "<init>", desc := "(Ljava/lang/StringBuilder;)V" } : Jvm.MethodName) jdk_42_method_53_code (2 : Nat) (Option.none : Option Jvm.ClassFile.FieldType)).before args0 about1 = true := code_word (m := ⟨7, 2⟩) (meth := k7m2) (c := k7c2) (by decide +kernel) rfl rfl rfl (by decide +kernel)
set_option maxRecDepth 65536 in
theorem w_c23 : (Jvm.Cond.code ({ cls := "java/lang/String", name := "<init>", desc := "(Ljava/lang/AbstractStringBuilder;Ljava/lang/Void;)V" } : Jvm.MethodName) jdk_42_method_150_code (5 : Nat) (Option.none : Option Jvm.ClassFile.FieldType)).before args0 about1 = true := code_word (m := ⟨7, 7⟩) (meth := k7m7) (c := k7c7) (by decide +kernel) rfl rfl rfl (by decide +kernel)
set_option maxRecDepth 65536 in
theorem w_c24 : (Jvm.Cond.code ({ cls := "java/lang/AbstractStringBuilder", name := "getValue", desc := "()[B" } : Jvm.MethodName) jdk_68_method_64_code (1 : Nat) (Option.some (Jvm.ClassFile.FieldType.array Jvm.ClassFile.FieldType.byte))).before args0 about1 = true := code_word (m := ⟨12, 6⟩) (meth := k12m6) (c := k12c6) (by decide +kernel) rfl rfl rfl (by decide +kernel)
set_option maxRecDepth 65536 in
theorem w_c25 : (Jvm.Cond.code ({ cls := "java/lang/StringBuilder", name := "length", desc := "()I" } : Jvm.MethodName) jdk_67_method_93_code (1 : Nat) (Option.some Jvm.ClassFile.FieldType.int)).before args0 about1 = true := code_word (m := ⟨13, 3⟩) (meth := k13m3) (c := k13c3) (by decide +kernel) rfl rfl rfl (by decide +kernel)
set_option maxRecDepth 65536 in
theorem w_c26 : (Jvm.Cond.code ({ cls := "java/lang/AbstractStringBuilder", name := "length", desc := "()I" } : Jvm.MethodName) jdk_68_method_6_code (1 : Nat) (Option.some Jvm.ClassFile.FieldType.int)).before args0 about1 = true := code_word (m := ⟨12, 2⟩) (meth := k12m2) (c := k12c2) (by decide +kernel) rfl rfl rfl (by decide +kernel)
set_option maxRecDepth 65536 in
theorem w_c27 : (Jvm.Cond.code ({ cls := "java/lang/AbstractStringBuilder", name := "isLatin1", desc := "()Z" } : Jvm.MethodName) jdk_68_method_68_code (1 : Nat) (Option.some Jvm.ClassFile.FieldType.boolean)).before args0 about1 = true := code_word (m := ⟨12, 7⟩) (meth := k12m7) (c := k12c7) (by decide +kernel) rfl rfl rfl (by decide +kernel)
set_option maxRecDepth 65536 in
theorem w_c28 : (Jvm.Cond.code ({ cls := "java/util/Arrays", name := "copyOfRange", desc := "([BII)[B" } : Jvm.MethodName) jdk_65_method_132_code (3 : Nat) (Option.some (Jvm.ClassFile.FieldType.array Jvm.ClassFile.FieldType.byte))).before args0 about1 = true := code_word (m := ⟨15, 3⟩) (meth := k15m3) (c := k15c3) (by decide +kernel) rfl rfl rfl (by decide +kernel)
set_option maxRecDepth 65536 in
theorem w_c29 : (Jvm.Cond.code ({ cls := "java/util/Arrays", name := "copyOfRangeByte", desc := "([BII)[B" } : Jvm.MethodName) jdk_65_method_133_code (5 : Nat) (Option.some (Jvm.ClassFile.FieldType.array Jvm.ClassFile.FieldType.byte))).before args0 about1 = true := code_word (m := ⟨15, 4⟩) (meth := k15m4) (c := k15c4) (by decide +kernel) rfl rfl rfl (by decide +kernel)
set_option maxRecDepth 65536 in
theorem w_c30 : (Jvm.Cond.code ({ cls := "java/util/Arrays", name := "checkLength", desc := "(II)V" } : Jvm.MethodName) jdk_65_method_131_code (2 : Nat) (Option.none : Option Jvm.ClassFile.FieldType)).before args0 about1 = true := code_word (m := ⟨15, 2⟩) (meth := k15m2) (c := k15c2) (by decide +kernel) rfl rfl rfl (by decide +kernel)
set_option maxRecDepth 65536 in
theorem w_c31 : (Jvm.Cond.code ({ cls := "java/lang/Math", name := "min", desc := "(II)I" } : Jvm.MethodName) jdk_29_method_69_code (2 : Nat) (Option.some Jvm.ClassFile.FieldType.int)).before args0 about1 = true := code_word (m := ⟨16, 2⟩) (meth := k16m2) (c := k16c2) (by decide +kernel) rfl rfl rfl (by decide +kernel)
set_option maxRecDepth 65536 in
theorem w_c32 : (Jvm.Cond.code ({ cls := "java/lang/AbstractStringBuilder", name := "newCapacity", desc := "(I)I" } : Jvm.MethodName) jdk_68_method_10_code (6 : Nat) (Option.some Jvm.ClassFile.FieldType.int)).before args0 about1 = true := code_word (m := ⟨12, 4⟩) (meth := k12m4) (c := k12c4) (by decide +kernel) rfl rfl rfl (by decide +kernel)
set_option maxRecDepth 65536 in
theorem w_c33 : (Jvm.Cond.code ({ cls := "jdk/internal/util/ArraysSupport", name := "newLength", desc := "(III)I" } : Jvm.MethodName) jdk_48_method_27_code (4 : Nat) (Option.some Jvm.ClassFile.FieldType.int)).before args0 about1 = true := code_word (m := ⟨17, 1⟩) (meth := k17m1) (c := k17c1) (by decide +kernel) rfl rfl rfl (by decide +kernel)
set_option maxRecDepth 65536 in
theorem w_c34 : (Jvm.Cond.code ({ cls := "java/lang/Math", name := "max", desc := "(II)I" } : Jvm.MethodName) jdk_29_method_65_code (2 : Nat) (Option.some Jvm.ClassFile.FieldType.int)).before args0 about1 = true := code_word (m := ⟨16, 1⟩) (meth := k16m1) (c := k16c1) (by decide +kernel) rfl rfl rfl (by decide +kernel)
set_option maxRecDepth 65536 in
theorem w_c35 : (Jvm.Cond.code ({ cls := "java/util/Arrays", name := "copyOf", desc := "([BI)[B" } : Jvm.MethodName) jdk_65_method_121_code (3 : Nat) (Option.some (Jvm.ClassFile.FieldType.array Jvm.ClassFile.FieldType.byte))).before args0 about1 = true := code_word (m := ⟨15, 1⟩) (meth := k15m1) (c := k15c1) (by decide +kernel) rfl rfl rfl (by decide +kernel)
set_option maxRecDepth 65536 in
theorem w_c36 : (Jvm.Cond.code ({ cls := "java/lang/String", name := "equals", desc := "(Ljava/lang/Object;)Z" } : Jvm.MethodName) jdk_42_method_66_code (3 : Nat) (Option.some Jvm.ClassFile.FieldType.boolean)).before args0 about1 = true := code_word (m := ⟨7, 4⟩) (meth := k7m4) (c := k7c4) (by decide +kernel) rfl rfl rfl (by decide +kernel)
set_option maxRecDepth 65536 in
theorem w_c37 : (Jvm.Cond.code ({ cls := "java/lang/StringLatin1", name := "equals", desc := "([B[B)Z" } : Jvm.MethodName) jdk_43_method_13_code (3 : Nat) (Option.some Jvm.ClassFile.FieldType.boolean)).before args0 about1 = true := code_word (m := ⟨18, 1⟩) (meth := k18m1) (c := k18c1) (by decide +kernel) rfl rfl rfl (by decide +kernel)
def codes1 : List Jvm.Cond := [Jvm.Cond.code x code maxLocals ret, Jvm.Cond.code ({ cls := "java/lang/String", name := "<init>", desc := "([C)V" } : Jvm.MethodName) jdk_42_method_3_code (2 : Nat) (Option.none : Option Jvm.ClassFile.FieldType), Jvm.Cond.code ({ cls := "java/lang/String", name := "<init>", desc := "([CIILjava/lang/Void;)V" } : Jvm.MethodName) jdk_42_method_149_code (6 : Nat) (Option.none : Option Jvm.ClassFile.FieldType), Jvm.Cond.code ({ cls := "java/lang/Object", name := "<init>", desc := "()V" } : Jvm.MethodName) object_method_1_code (1 : Nat) (Option.none : Option Jvm.ClassFile.FieldType), Jvm.Cond.code ({ cls := "java/lang/StringUTF16", name := "compress", desc := "([CII)[B" } : Jvm.MethodName) jdk_52_method_16_code (6 : Nat) (Option.some (Jvm.ClassFile.FieldType.array Jvm.ClassFile.FieldType.byte)), Jvm.Cond.code ({ cls := "java/lang/StringUTF16", name := "compress", desc := "([CI[BII)I" } : Jvm.MethodName) jdk_52_method_21_code (7 : Nat) (Option.some Jvm.ClassFile.FieldType.int), Jvm.Cond.code ({ cls := "java/lang/StringUTF16", name := "coderFromArrayLen", desc := "([BI)B" } : Jvm.MethodName) jdk_52_method_15_code (2 : Nat) (Option.some Jvm.ClassFile.FieldType.byte), Jvm.Cond.code ({ cls := "org/grantpath/ComparisonOfPinLaw", name := "head", desc := "([CCCCC)V" } : Jvm.MethodName) method_2_code (5 : Nat) (Option.none : Option Jvm.ClassFile.FieldType), Jvm.Cond.code ({ cls := "org/grantpath/TableSchema$Comparison", name := "<init>", desc := "(Ljava/lang/String;Ljava/lang/String;)V" } : Jvm.MethodName) prog_35_method_1_code (3 : Nat) (Option.none : Option Jvm.ClassFile.FieldType), Jvm.Cond.code ({ cls := "java/lang/Record", name := "<init>", desc := "()V" } : Jvm.MethodName) jdk_30_method_1_code (1 : Nat) (Option.none : Option Jvm.ClassFile.FieldType), Jvm.Cond.code ({ cls := "org/grantpath/TableSchema$Comparison", name := "of", desc := "(Ljava/lang/String;)Ljava/lang/String;" } : Jvm.MethodName) prog_35_method_2_code (3 : Nat) (Option.some (Jvm.ClassFile.FieldType.object "java/lang/String")), Jvm.Cond.code ({ cls := "java/lang/StringBuilder", name := "<init>", desc := "()V" } : Jvm.MethodName) jdk_67_method_1_code (1 : Nat) (Option.none : Option Jvm.ClassFile.FieldType), Jvm.Cond.code ({ cls := "java/lang/AbstractStringBuilder", name := "<init>", desc := "(I)V" } : Jvm.MethodName) jdk_68_method_2_code (2 : Nat) (Option.none : Option Jvm.ClassFile.FieldType), Jvm.Cond.code ({ cls := "java/lang/StringBuilder", name := "append", desc := "(Ljava/lang/String;)Ljava/lang/StringBuilder;" } : Jvm.MethodName) jdk_67_method_7_code (2 : Nat) (Option.some (Jvm.ClassFile.FieldType.object "java/lang/StringBuilder")), Jvm.Cond.code ({ cls := "java/lang/AbstractStringBuilder", name := "append", desc := "(Ljava/lang/String;)Ljava/lang/AbstractStringBuilder;" } : Jvm.MethodName) jdk_68_method_22_code (3 : Nat) (Option.some (Jvm.ClassFile.FieldType.object "java/lang/AbstractStringBuilder")), Jvm.Cond.code ({ cls := "java/lang/String", name := "length", desc := "()I" } : Jvm.MethodName) jdk_42_method_54_code (1 : Nat) (Option.some Jvm.ClassFile.FieldType.int), Jvm.Cond.code ({ cls := "java/lang/String", name := "coder", desc := "()B" } : Jvm.MethodName) jdk_42_method_152_code (1 : Nat) (Option.some Jvm.ClassFile.FieldType.byte), Jvm.Cond.code ({ cls := "java/lang/AbstractStringBuilder", name := "ensureCapacityInternal", desc := "(I)V" } : Jvm.MethodName) jdk_68_method_9_code (3 : Nat) (Option.none : Option Jvm.ClassFile.FieldType), Jvm.Cond.code ({ cls := "java/lang/AbstractStringBuilder", name := "putStringAt", desc := "(ILjava/lang/String;)V" } : Jvm.MethodName) jdk_68_method_73_code (3 : Nat) (Option.none : Option Jvm.ClassFile.FieldType), Jvm.Cond.code ({ cls := "java/lang/AbstractStringBuilder", name := "inflateIfNeededFor", desc := "(Ljava/lang/String;)V" } : Jvm.MethodName) jdk_68_method_71_code (2 : Nat) (Option.none : Option Jvm.ClassFile.FieldType), Jvm.Cond.code ({ cls := "java/lang/String", name := "getBytes", desc := "([BIB)V" } : Jvm.MethodName) jdk_42_method_147_code (4 : Nat) (Option.none : Option Jvm.ClassFile.FieldType), Jvm.Cond.code ({ cls := "java/lang/StringBuilder", name := "toString", desc := "()Ljava/lang/String;" } : Jvm.MethodName) jdk_67_method_42_code (1 : Nat) (Option.some (Jvm.ClassFile.FieldType.object "java/lang/String")), Jvm.Cond.code ({ cls := "java/lang/String", name := "<init>", desc := "(Ljava/lang/StringBuilder;)V" } : Jvm.MethodName) jdk_42_method_53_code (2 : Nat) (Option.none : Option Jvm.ClassFile.FieldType), Jvm.Cond.code ({ cls := "java/lang/String", name := "<init>", desc := "(Ljava/lang/AbstractStringBuilder;Ljava/lang/Void;)V" } : Jvm.MethodName) jdk_42_method_150_code (5 : Nat) (Option.none : Option Jvm.ClassFile.FieldType), Jvm.Cond.code ({ cls := "java/lang/AbstractStringBuilder", name := "getValue", desc := "()[B" } : Jvm.MethodName) jdk_68_method_64_code (1 : Nat) (Option.some (Jvm.ClassFile.FieldType.array Jvm.ClassFile.FieldType.byte)), Jvm.Cond.code ({ cls := "java/lang/StringBuilder", name := "length", desc := "()I" } : Jvm.MethodName) jdk_67_method_93_code (1 : Nat) (Option.some Jvm.ClassFile.FieldType.int), Jvm.Cond.code ({ cls := "java/lang/AbstractStringBuilder", name := "length", desc := "()I" } : Jvm.MethodName) jdk_68_method_6_code (1 : Nat) (Option.some Jvm.ClassFile.FieldType.int), Jvm.Cond.code ({ cls := "java/lang/AbstractStringBuilder", name := "isLatin1", desc := "()Z" } : Jvm.MethodName) jdk_68_method_68_code (1 : Nat) (Option.some Jvm.ClassFile.FieldType.boolean), Jvm.Cond.code ({ cls := "java/util/Arrays", name := "copyOfRange", desc := "([BII)[B" } : Jvm.MethodName) jdk_65_method_132_code (3 : Nat) (Option.some (Jvm.ClassFile.FieldType.array Jvm.ClassFile.FieldType.byte)), Jvm.Cond.code ({ cls := "java/util/Arrays", name := "copyOfRangeByte", desc := "([BII)[B" } : Jvm.MethodName) jdk_65_method_133_code (5 : Nat) (Option.some (Jvm.ClassFile.FieldType.array Jvm.ClassFile.FieldType.byte)), Jvm.Cond.code ({ cls := "java/util/Arrays", name := "checkLength", desc := "(II)V" } : Jvm.MethodName) jdk_65_method_131_code (2 : Nat) (Option.none : Option Jvm.ClassFile.FieldType), Jvm.Cond.code ({ cls := "java/lang/Math", name := "min", desc := "(II)I" } : Jvm.MethodName) jdk_29_method_69_code (2 : Nat) (Option.some Jvm.ClassFile.FieldType.int), Jvm.Cond.code ({ cls := "java/lang/AbstractStringBuilder", name := "newCapacity", desc := "(I)I" } : Jvm.MethodName) jdk_68_method_10_code (6 : Nat) (Option.some Jvm.ClassFile.FieldType.int), Jvm.Cond.code ({ cls := "jdk/internal/util/ArraysSupport", name := "newLength", desc := "(III)I" } : Jvm.MethodName) jdk_48_method_27_code (4 : Nat) (Option.some Jvm.ClassFile.FieldType.int), Jvm.Cond.code ({ cls := "java/lang/Math", name := "max", desc := "(II)I" } : Jvm.MethodName) jdk_29_method_65_code (2 : Nat) (Option.some Jvm.ClassFile.FieldType.int), Jvm.Cond.code ({ cls := "java/util/Arrays", name := "copyOf", desc := "([BI)[B" } : Jvm.MethodName) jdk_65_method_121_code (3 : Nat) (Option.some (Jvm.ClassFile.FieldType.array Jvm.ClassFile.FieldType.byte)), Jvm.Cond.code ({ cls := "java/lang/String", name := "equals", desc := "(Ljava/lang/Object;)Z" } : Jvm.MethodName) jdk_42_method_66_code (3 : Nat) (Option.some Jvm.ClassFile.FieldType.boolean), Jvm.Cond.code ({ cls := "java/lang/StringLatin1", name := "equals", desc := "([B[B)Z" } : Jvm.MethodName) jdk_43_method_13_code (3 : Nat) (Option.some Jvm.ClassFile.FieldType.boolean)]
set_option maxRecDepth 65536 in
theorem codes_eq : words1.filter isCode = codes1 := rfl
theorem w_codes : ∀ c ∈ words1.filter isCode, c.before args0 about1 = true := by
  rw [codes_eq]
  intro c hc
  simp only [codes1, List.mem_cons, List.not_mem_nil, or_false] at hc
  rcases hc with rfl | rfl | rfl | rfl | rfl | rfl | rfl | rfl | rfl | rfl | rfl | rfl | rfl | rfl | rfl | rfl | rfl | rfl | rfl | rfl | rfl | rfl | rfl | rfl | rfl | rfl | rfl | rfl | rfl | rfl | rfl | rfl | rfl | rfl | rfl | rfl | rfl | rfl
  · exact w_c0
  · exact w_c1
  · exact w_c2
  · exact w_c3
  · exact w_c4
  · exact w_c5
  · exact w_c6
  · exact w_c7
  · exact w_c8
  · exact w_c9
  · exact w_c10
  · exact w_c11
  · exact w_c12
  · exact w_c13
  · exact w_c14
  · exact w_c15
  · exact w_c16
  · exact w_c17
  · exact w_c18
  · exact w_c19
  · exact w_c20
  · exact w_c21
  · exact w_c22
  · exact w_c23
  · exact w_c24
  · exact w_c25
  · exact w_c26
  · exact w_c27
  · exact w_c28
  · exact w_c29
  · exact w_c30
  · exact w_c31
  · exact w_c32
  · exact w_c33
  · exact w_c34
  · exact w_c35
  · exact w_c36
  · exact w_c37
set_option maxRecDepth 65536 in
theorem w_t1 : (words1.take 24).all (fun c => isCode c || c.before args0 about1) = true := by decide +kernel
set_option maxRecDepth 65536 in
theorem w_t2 : ((words1.drop 24).take 24).all (fun c => isCode c || c.before args0 about1) = true := by decide +kernel
set_option maxRecDepth 65536 in
theorem w_t3 : (((words1.drop 24).drop 24).take 24).all (fun c => isCode c || c.before args0 about1) = true := by decide +kernel
set_option maxRecDepth 65536 in
theorem w_t4 : ((((words1.drop 24).drop 24).drop 24).take 24).all (fun c => isCode c || c.before args0 about1) = true := by decide +kernel
set_option maxRecDepth 65536 in
theorem w_t5 : (((((words1.drop 24).drop 24).drop 24).drop 24).take 24).all (fun c => isCode c || c.before args0 about1) = true := by decide +kernel
set_option maxRecDepth 65536 in
theorem w_t6 : ((((((words1.drop 24).drop 24).drop 24).drop 24).drop 24).take 24).all (fun c => isCode c || c.before args0 about1) = true := by decide +kernel
set_option maxRecDepth 65536 in
theorem w_t7 : (((((((words1.drop 24).drop 24).drop 24).drop 24).drop 24).drop 24).take 24).all (fun c => isCode c || c.before args0 about1) = true := by decide +kernel
set_option maxRecDepth 65536 in
theorem w_t8 : ((((((((words1.drop 24).drop 24).drop 24).drop 24).drop 24).drop 24).drop 24).take 24).all (fun c => isCode c || c.before args0 about1) = true := by decide +kernel
set_option maxRecDepth 65536 in
theorem w_t9 : ((((((((words1.drop 24).drop 24).drop 24).drop 24).drop 24).drop 24).drop 24).drop 24).all (fun c => isCode c || c.before args0 about1) = true := by decide +kernel
theorem w_tables : (allAtoms (Jvm.Cond.code x code maxLocals ret :: tables_1)).before args0 about1 = true := by
  rw [allAtoms_all]
  show words1.all (fun c => c.before args0 about1) = true
  refine all_split ?_ w_codes
  rw [← List.take_append_drop 24 words1, List.all_append, w_t1, ← List.take_append_drop 24 (words1.drop 24), List.all_append, w_t2, ← List.take_append_drop 24 ((words1.drop 24).drop 24), List.all_append, w_t3, ← List.take_append_drop 24 (((words1.drop 24).drop 24).drop 24), List.all_append, w_t4, ← List.take_append_drop 24 ((((words1.drop 24).drop 24).drop 24).drop 24), List.all_append, w_t5, ← List.take_append_drop 24 (((((words1.drop 24).drop 24).drop 24).drop 24).drop 24), List.all_append, w_t6, ← List.take_append_drop 24 ((((((words1.drop 24).drop 24).drop 24).drop 24).drop 24).drop 24), List.all_append, w_t7, ← List.take_append_drop 24 (((((((words1.drop 24).drop 24).drop 24).drop 24).drop 24).drop 24).drop 24), List.all_append, w_t8, w_t9]
  rfl
set_option maxRecDepth 65536 in
theorem w_rest : rest_1_c.before args0 about1 = true := by decide +kernel
set_option maxRecDepth 65536 in
theorem w_case : (Jvm.Cond.and given_1 narrow_1).before args0 about1 = true := by decide +kernel
set_option maxRecDepth 65536 in
theorem w_consts : constsHeld consts_1 about1 := Jvm.Lit.constsHeldB_iff.mp (by decide +kernel)
theorem w_applies : (headSpec (Jvm.Cond.code x code maxLocals ret :: tables_1) room_1).applies x e0.platform about1 = true :=
  (Spec.applies_iff w_frames).mpr ⟨w_running, w_runnable, w_alone, w_named, w_hears, w_ripe, w_room, w_tables⟩
theorem atStart : AtStart classFile x code maxLocals ret World_1 tables_1 room_1 Calls_1 rest_1 Pre_1 launch0 p0 e0 about1 theMethod args0 below0 :=
  ⟨lists_1, trivial, launch0.admits_env _ _ _, launch0.least_env, fairChoices_fair.cas, fairChoices_fair.clock, w_frames, w_args, w_heap, w_applies, ⟨w_consts, trivial⟩, w_rest, w_case⟩
end start1
theorem witness_1 : WitnessClaimed_1 := ⟨start1.p0, start1.e0, start1.about1, start1.theMethod, start1.args0, start1.below0, start1.atStart⟩
end Jvm.Pilot.@@N@@
