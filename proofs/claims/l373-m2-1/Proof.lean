import JvmDerived
import JvmDerived.Pilot.@@N@@Statement
import JvmDerived.Pilot.@@N@@Code
set_option linter.unusedVariables false
set_option linter.unusedSimpArgs false
@@BLOCK:NumsL.lean.txt@@
namespace Jvm.RoadKit
open Sem ClassFile Op Lib Jvm.Stand Jvm.Free Jvm.LawKit
section New
variable {p : Program} {l : Launch} {e : Env} {R : Room} {s : State} {m : MethodId} {args : Array Value} {below : List Frame} {meth : Method} {c : Code} {T : State} {locs : List Loc} {cells slots : Nat}
theorem retI (X : Stand p l e R s m args below meth c T locs cells slots) (hx : p.tables.exec = Jvm.exec) {pc : Nat} {Ls : Array Slot} {z : Int32} {rest : List Value} (hret : meth.sig.returnType = some .int) (hd : decode c.code pc = .ok (.ireturn, 1)) {fs : List Frame}
    (hl : ∀ (f : JFrame) (acts : List Action), f.method = m → f.locked = none → f.entered = [] → (doReturn e (T.setTop f) acts (some (.int z))).1 = T.setFrames fs) : Steps p.tables e below (T.setTop (mkF m pc Ls (.int z :: rest))) (T.setFrames fs) := by
  have hm' : T.vm.method? m = some meth := X.method'
  have hn : narrow .int (.int z) = .int z := rfl
  show Steps p.tables e below (T.setTop { method := m, pc := pc, locals := Ls, stack := _ :: rest, locked := none }) _
  jvm_step X.here [X.here.top, hx, hd, hm', hret, hn]
  first | (intro acts; rw [hl _ acts rfl rfl rfl]) | rw [hl _ _ rfl rfl rfl]
  exact Steps.refl _
end New
end Jvm.RoadKit
namespace Jvm.RoadKit
open Sem ClassFile Op Lib Jvm.Stand Jvm.Free Jvm.LawKit
def fup (f : Nat → Value) (j : Nat) (v : Value) : Nat → Value := fun i => if i = j then v else f i
def AR (Z : State) (h : Heap) (a : Addr) (ty : FieldType) (n : Nat) (f : Nat → Value) : Prop := n < 2147483648 ∧ ∃ c : Cell, Arr Z h a c ty ∧ c.slots.size = n ∧ ∀ i, i < n → c.slots[i]? = some (f i)
section Own
variable {p : Program} {l : Launch} {e : Env} {R : Room} {s : State} {m : MethodId} {args : Array Value} {below : List Frame} {meth : Method} {c : Code} {T : State} {locs : List Loc} {cells slots : Nat}
variable {Z : State} {h h' : Heap} {a b : Addr} {ty : FieldType} {n : Nat} {f f' : Nat → Value} {v : Value} {sl : Nat} {ws : List Addr}
theorem AR.lt (F : AR Z h a ty n f) : a < h.size := by obtain ⟨-, c, A, -⟩ := F; exact A.lt
theorem AR.ext (F : AR Z h a ty n f) (E : Ext h h') : AR Z h' a ty n f := by obtain ⟨q, c, A, r⟩ := F; exact ⟨q, c, A.ext E, r⟩
theorem AR.other (F : AR Z h b ty n f) (W : Wr h h' a sl v) (q : b ≠ a) : AR Z h' b ty n f := by obtain ⟨k, c, A, r⟩ := F; exact ⟨k, c, A.other W q, r⟩
theorem AR.keep (F : AR Z h a ty n f) (K : Keep h h' ws) (q : a ∉ ws) : AR Z h' a ty n f := by obtain ⟨k, c, A, r⟩ := F; exact ⟨k, c, ⟨K.2.1 a c A.1 q, A.2⟩, r⟩
theorem AR.same (F : AR Z h a ty n f) (W : Wr h h' a sl v) : AR Z h' a ty n (fup f sl v) := by
  obtain ⟨k, c, A, S, H⟩ := F
  refine ⟨k, c.setSlot sl v, A.same W, by simpa [Cell.setSlot] using S, fun i hi => ?_⟩
  obtain ⟨c', e1, -, -, -, -, e6, e7⟩ := wr_at W A.1
  obtain ⟨e8, e9, -⟩ := e7 rfl
  unfold fup
  by_cases q : i = sl
  · rw [if_pos q, q, ← e8]; exact e9
  · rw [if_neg q, ← e8, e6 i q]; exact H i hi
theorem AR.eq (F : AR Z h a ty n f) (q : ∀ i, i < n → f' i = f i) : AR Z h a ty n f' := by
  obtain ⟨k, c, A, S, H⟩ := F
  exact ⟨k, c, A, S, fun i hi => by rw [q i hi]; exact H i hi⟩
theorem own_fupI {g : Nat → Int32} {i : Nat} {x : Int32} (F : AR Z h a ty n (fup (fun j => .int (g j)) i (.int x))) : AR Z h a ty n (fun j => .int (if j = i then x else g j)) :=
  F.eq fun j _ => by unfold fup; split <;> rfl
theorem AR.new {k : ClassId} {z : Int32} (A : Arr Z h a (newA k ty z) ty) (q : ¬ z < 0) {n : Nat} (hn : z.toNatClampNeg = n) : AR Z h a ty n (fun _ => defaultValue ty) := by
  obtain ⟨c, A', -, S, -, H, -⟩ := Arv.new A q
  subst hn
  refine ⟨?_, c, A', S, fun i hi => ?_⟩
  · have h1 := z.toInt_lt; have h2 := nat_of q; omega
  · have := H i (by rw [S]; exact hi); simpa using this
theorem ar_in {c : Cell} {j : Int32} (S : c.slots.size = n) (q : ¬ j < 0 ∧ j.toNatClampNeg < n) : ¬ (j < 0 ∨ c.slots.size ≤ j.toNatClampNeg) := by
  rintro (u | u)
  · exact q.1 u
  · rw [S] at u; exact absurd q.2 (Nat.not_lt.mpr u)
theorem own_ldI (X : Stand p l e R s m args below meth c T locs cells slots) (hx : p.tables.exec = Jvm.exec) (hZ : Z.Warmed39 s.vm) (eT : T.heap = h) (A : AR Z h a .int n f) {j x : Int32} (hj : ¬ j < 0 ∧ j.toNatClampNeg < n) (hf : f j.toNatClampNeg = .int x) {g : JFrame} (hg : g.method = m) {rest : List Value} (hs : g.stack = .int j :: .ref a :: rest) (hd : decode c.code g.pc = .ok (.iaload, 1)) (target : State)
    (hr : Steps p.tables e below (T.setTop { g with pc := g.pc + 1, stack := .int x :: rest }) target) : Steps p.tables e below (T.setTop g) target := by
  obtain ⟨k, cl, A', S, H⟩ := A
  exact X.iaload hx (j := j) (v := .int x) (by rw [eT]; exact A'.1) (State.isArrayOf_alike hZ.alike A'.2.1) A'.2.2 (ar_in S hj) (by rw [H _ hj.2, hf]) hg hs hd target hr
theorem own_ldJ (X : Stand p l e R s m args below meth c T locs cells slots) (hx : p.tables.exec = Jvm.exec) (hZ : Z.Warmed39 s.vm) (eT : T.heap = h) (A : AR Z h a .long n f) {j : Int32} {x : Int64} (hj : ¬ j < 0 ∧ j.toNatClampNeg < n) (hf : f j.toNatClampNeg = .long x) {g : JFrame} (hg : g.method = m) {rest : List Value} (hs : g.stack = .int j :: .ref a :: rest) (hd : decode c.code g.pc = .ok (.laload, 1)) (target : State)
    (hr : Steps p.tables e below (T.setTop { g with pc := g.pc + 1, stack := .long x :: rest }) target) : Steps p.tables e below (T.setTop g) target := by
  obtain ⟨k, cl, A', S, H⟩ := A
  exact X.laload hx (j := j) (v := .long x) (by rw [eT]; exact A'.1) (State.isArrayOf_alike hZ.alike A'.2.1) A'.2.2 (ar_in S hj) (by rw [H _ hj.2, hf]) hg hs hd target hr
theorem own_ldD (X : Stand p l e R s m args below meth c T locs cells slots) (hx : p.tables.exec = Jvm.exec) (hZ : Z.Warmed39 s.vm) (eT : T.heap = h) (A : AR Z h a .double n f) {j : Int32} {x : UInt64} (hj : ¬ j < 0 ∧ j.toNatClampNeg < n) (hf : f j.toNatClampNeg = .double x) {g : JFrame} (hg : g.method = m) {rest : List Value} (hs : g.stack = .int j :: .ref a :: rest) (hd : decode c.code g.pc = .ok (.daload, 1)) (target : State)
    (hr : Steps p.tables e below (T.setTop { g with pc := g.pc + 1, stack := .double x :: rest }) target) : Steps p.tables e below (T.setTop g) target := by
  obtain ⟨k, cl, A', S, H⟩ := A
  exact X.daload hx (j := j) (v := .double x) (by rw [eT]; exact A'.1) (State.isArrayOf_alike hZ.alike A'.2.1) A'.2.2 (ar_in S hj) (by rw [H _ hj.2, hf]) hg hs hd target hr
theorem own_len (X : Stand p l e R s m args below meth c T locs cells slots) (hx : p.tables.exec = Jvm.exec) (hZ : Z.Warmed39 s.vm) (eT : T.heap = h) (A : AR Z h a ty n f) {z : Int32} (hz : n.toInt32 = z) {g : JFrame} (hg : g.method = m) {rest : List Value} (hs : g.stack = .ref a :: rest) (hd : decode c.code g.pc = .ok (.arraylength, 1)) (target : State)
    (hr : Steps p.tables e below (T.setTop { g with pc := g.pc + 1, stack := .int z :: rest }) target) : Steps p.tables e below (T.setTop g) target := by
  obtain ⟨k, cl, A', S, H⟩ := A
  exact X.arraylength hx (by rw [eT]; exact A'.1) (State.isArrayOf_alike hZ.alike A'.2.1) hg hs hd target (by rw [S, hz]; exact hr)
theorem own_stI (X : Stand p l e R s m args below meth c T locs cells slots) (hx : p.tables.exec = Jvm.exec) (hZ : Z.Warmed39 s.vm) (eT : T.heap = h) (A : AR Z h a .int n f) {j x : Int32} (hj : ¬ j < 0 ∧ j.toNatClampNeg < n) {g : JFrame} (hg : g.method = m) {rest : List Value} (hs : g.stack = .int x :: .int j :: .ref a :: rest) (hd : decode c.code g.pc = .ok (.iastore, 1)) :
    ∃ T' h', Stand p l e R s m args below meth c T' (locs ++ [⟨a, j.toNatClampNeg⟩]) cells slots ∧ T'.heap = h' ∧ Wr h h' a j.toNatClampNeg (.int x) ∧ AR Z h' a .int n (fup f j.toNatClampNeg (.int x)) ∧ ∀ target, Steps p.tables e below (T'.setTop { g with pc := g.pc + 1, stack := rest }) target → Steps p.tables e below (T.setTop g) target := by
  have A0 := A
  obtain ⟨k, cl, A', S, H⟩ := A
  obtain ⟨T', h', X', e', W', st⟩ := stI X hx hZ eT A' (ar_in S hj) hg hs hd
  exact ⟨T', h', X', e', W', A0.same W', st⟩
theorem own_stJ (X : Stand p l e R s m args below meth c T locs cells slots) (hx : p.tables.exec = Jvm.exec) (hZ : Z.Warmed39 s.vm) (eT : T.heap = h) (A : AR Z h a .long n f) {j : Int32} {x : Int64} (hj : ¬ j < 0 ∧ j.toNatClampNeg < n) {g : JFrame} (hg : g.method = m) {rest : List Value} (hs : g.stack = .long x :: .int j :: .ref a :: rest) (hd : decode c.code g.pc = .ok (.lastore, 1)) :
    ∃ T' h', Stand p l e R s m args below meth c T' (locs ++ [⟨a, j.toNatClampNeg⟩]) cells slots ∧ T'.heap = h' ∧ Wr h h' a j.toNatClampNeg (.long x) ∧ AR Z h' a .long n (fup f j.toNatClampNeg (.long x)) ∧ ∀ target, Steps p.tables e below (T'.setTop { g with pc := g.pc + 1, stack := rest }) target → Steps p.tables e below (T.setTop g) target := by
  have A0 := A
  obtain ⟨k, cl, A', S, H⟩ := A
  obtain ⟨T', h', X', e', W', st⟩ := stJ X hx hZ eT A' (ar_in S hj) hg hs hd
  exact ⟨T', h', X', e', W', A0.same W', st⟩
theorem own_stD (X : Stand p l e R s m args below meth c T locs cells slots) (hx : p.tables.exec = Jvm.exec) (hZ : Z.Warmed39 s.vm) (eT : T.heap = h) (A : AR Z h a .double n f) {j : Int32} {x : UInt64} (hj : ¬ j < 0 ∧ j.toNatClampNeg < n) {g : JFrame} (hg : g.method = m) {rest : List Value} (hs : g.stack = .double x :: .int j :: .ref a :: rest) (hd : decode c.code g.pc = .ok (.dastore, 1)) :
    ∃ T' h', Stand p l e R s m args below meth c T' (locs ++ [⟨a, j.toNatClampNeg⟩]) cells slots ∧ T'.heap = h' ∧ Wr h h' a j.toNatClampNeg (.double x) ∧ AR Z h' a .double n (fup f j.toNatClampNeg (.double x)) ∧ ∀ target, Steps p.tables e below (T'.setTop { g with pc := g.pc + 1, stack := rest }) target → Steps p.tables e below (T.setTop g) target := by
  have A0 := A
  obtain ⟨k, cl, A', S, H⟩ := A
  obtain ⟨T', h', X', e', W', st⟩ := stD X hx hZ eT A' (ar_in S hj) hg hs hd
  exact ⟨T', h', X', e', W', A0.same W', st⟩
end Own
end Jvm.RoadKit
namespace Jvm.Pilot.@@N@@
open Jvm Jvm.ClassFile Sem Op Lib Jvm.Free Jvm.Stand Jvm.LawKit Jvm.RoadKit Bundle Jvm.Pilot.@@N@@.Jvm.D
def own_lb (n : Nat) : Nat := (Int32.ofNat n &&& -(Int32.ofNat n)).toNatClampNeg
theorem own_lb_tab : ∀ n : Fin 1025, ∀ k : Fin 11, n.val % 2 ^ (k.val + 1) = 2 ^ k.val → own_lb n.val = 2 ^ k.val := by decide +kernel
theorem own_lb_ex : ∀ n : Fin 1025, n.val = 0 ∨ ∃ k : Fin 11, n.val % 2 ^ (k.val + 1) = 2 ^ k.val := by decide +kernel
theorem own_lb32 : ∀ n : Fin 1025, (Int32.ofNat n.val &&& -(Int32.ofNat n.val)) = Int32.ofNat (own_lb n.val) := by decide +kernel
theorem own_lb_spec (n : Nat) (h1 : 0 < n) (h2 : n < 1025) : ∃ k, k < 11 ∧ own_lb n = 2 ^ k ∧ n % 2 ^ (k + 1) = 2 ^ k := by
  rcases own_lb_ex ⟨n, h2⟩ with h | ⟨k, hk⟩
  · exact absurd h (by show n ≠ 0; omega)
  · exact ⟨k.val, k.isLt, own_lb_tab ⟨n, h2⟩ k hk, hk⟩
theorem own_dlt {d x y : Nat} (hx : d ∣ x) (hy : d ∣ y) (h : x < y) : x + d ≤ y := by
  obtain ⟨a, rfl⟩ := hx
  obtain ⟨b, rfl⟩ := hy
  have : a < b := Nat.lt_of_mul_lt_mul_left h
  calc d * a + d = d * (a + 1) := by rw [Nat.mul_add, Nat.mul_one]
    _ ≤ d * b := Nat.mul_le_mul_left _ this
theorem own_dv {n k : Nat} (h : n % 2 ^ (k + 1) = 2 ^ k) : 2 ^ k ∣ n ∧ 2 ^ (k + 1) ∣ n - 2 ^ k ∧ 2 ^ k ≤ n ∧ ¬ 2 ^ (k + 1) ∣ n := by
  have hp : 0 < 2 ^ k := Nat.pow_pos (by decide)
  have e : 2 ^ (k + 1) = 2 * 2 ^ k := by rw [Nat.pow_succ, Nat.mul_comm]
  have hd := Nat.div_add_mod n (2 ^ (k + 1))
  rw [h] at hd
  generalize n / 2 ^ (k + 1) = q at hd
  have e2 : n - 2 ^ k = 2 ^ (k + 1) * q := by omega
  refine ⟨⟨2 * q + 1, ?_⟩, ⟨q, e2⟩, by omega, fun hh => ?_⟩
  · rw [← hd, e, Nat.mul_add, Nat.mul_one, Nat.mul_assoc, Nat.mul_left_comm]
  · have := Nat.mod_eq_zero_of_dvd hh; omega
/-- the path of an update and the places that an entry sums -/
theorem own_path (i j : Nat) (hi : 0 < i) (hi2 : i < 1025) (hj : 0 < j) (hj2 : j < 1025) (hne : i ≠ j) :
    (j - own_lb j < i ∧ i ≤ j) ↔ (j - own_lb j < i + own_lb i ∧ i + own_lb i ≤ j) := by
  obtain ⟨m, hm, em, cm⟩ := own_lb_spec i hi hi2
  obtain ⟨k, hk, ek, ck⟩ := own_lb_spec j hj hj2
  obtain ⟨m1, m2, m3, m4⟩ := own_dv cm
  obtain ⟨k1, k2, k3, k4⟩ := own_dv ck
  rw [em, ek]
  have hpk : 0 < 2 ^ k := Nat.pow_pos (by decide)
  have hpm : 0 < 2 ^ m := Nat.pow_pos (by decide)
  have e2k : 2 ^ (k + 1) = 2 * 2 ^ k := by rw [Nat.pow_succ, Nat.mul_comm]
  have k2' : 2 ^ k ∣ j - 2 ^ k := Nat.dvd_trans (Nat.pow_dvd_pow 2 (by omega)) k2
  constructor
  · rintro ⟨h1, h2⟩
    have hlt : i < j := by omega
    have hmk : m < k := by
      apply Nat.lt_of_not_le
      intro hle
      have d1 : 2 ^ k ∣ i := Nat.dvd_trans (Nat.pow_dvd_pow 2 hle) m1
      have := own_dlt k2' d1 h1
      omega
    have d2 : 2 ^ m ∣ j := Nat.dvd_trans (Nat.pow_dvd_pow 2 (by omega)) k1
    have := own_dlt m1 d2 hlt
    omega
  · rintro ⟨h1, h2⟩
    refine ⟨?_, by omega⟩
    apply Nat.lt_of_not_le
    intro hle
    by_cases hmk : m ≤ k
    · have d3 : 2 ^ m ∣ j - 2 ^ k := Nat.dvd_trans (Nat.pow_dvd_pow 2 hmk) k2'
      by_cases he : i = j - 2 ^ k
      · exact m4 (Nat.dvd_trans (Nat.pow_dvd_pow 2 (by omega)) (he ▸ k2))
      · have := own_dlt m1 d3 (by omega)
        omega
    · have d4 : 2 ^ (k + 1) ∣ i := Nat.dvd_trans (Nat.pow_dvd_pow 2 (by omega)) m1
      have d5 : 2 ^ (k + 1) ∣ 2 ^ m := Nat.pow_dvd_pow 2 (by omega)
      have := own_dlt k2 (Nat.dvd_add d4 d5) h1
      omega
def own_fen (g : Nat → Int32) (i : Nat) (c : Int32) (j : Nat) : Int32 := if j - own_lb j < i ∧ i ≤ j then g j + c else g j
def own_pt (g : Nat → Int32) (i : Nat) (c : Int32) (j : Nat) : Int32 := if j = i then g j + c else g j
theorem own_fen_out (g : Nat → Int32) (i n : Nat) (c : Int32) (h : n ≤ i) (j : Nat) (hj : j < n) : own_fen g i c j = g j := by
  unfold own_fen; rw [if_neg]; omega
theorem own_fen_in (g : Nat → Int32) (i : Nat) (c : Int32) (hi : 0 < i) (hi2 : i < 1025) (j : Nat) (hj : j < 1025) :
    own_fen (fun x => if x = i then g i + c else g x) (i + own_lb i) c j = own_fen g i c j := by
  obtain ⟨m, hm, em, cm⟩ := own_lb_spec i hi hi2
  have hpm : 0 < 2 ^ m := Nat.pow_pos (by decide)
  unfold own_fen
  dsimp only
  by_cases hji : j = i
  · subst hji
    rw [if_pos rfl, if_neg (by omega), if_pos (by omega)]
  · rw [if_neg hji]
    by_cases hj0 : j = 0
    · subst hj0; rw [if_neg (by omega), if_neg (by omega)]
    · simp only [own_path i j hi hi2 (by omega) hj (fun q => hji q.symm)]
/-- how many things lie before the place x -/
def own_P (p0 p1 p2 c0 c1 c2 : Int) (x : Int) : Int := (if p0 < x then c0 else 0) + (if p1 < x then c1 else 0) + (if p2 < x then c2 else 0)
def own_inv (P : Int → Int) (r : Int) (m M : Nat) (pl rk : Int32) : Prop := ∃ q : Nat, pl.toInt = q ∧ q % m = 0 ∧ q + m ≤ M ∧ rk.toInt = r - P q ∧ P q ≤ r ∧ r < P (q + m)
theorem own_P_mono (p0 p1 p2 c0 c1 c2 : Int) (h0 : 0 ≤ c0) (h1 : 0 ≤ c1) (h2 : 0 ≤ c2) (x y : Int) (h : x ≤ y) : own_P p0 p1 p2 c0 c1 c2 x ≤ own_P p0 p1 p2 c0 c1 c2 y := by
  unfold own_P
  by_cases a : p0 < x <;> by_cases b : p1 < x <;> by_cases c : p2 < x <;> by_cases a' : p0 < y <;> by_cases b' : p1 < y <;> by_cases c' : p2 < y <;> simp only [a, b, c, a', b', c', if_true, if_false] <;> omega
theorem own_P_lo (p0 p1 p2 c0 c1 c2 : Int) (h0 : 0 ≤ c0) (h1 : 0 ≤ c1) (h2 : 0 ≤ c2) (x : Int) : 0 ≤ own_P p0 p1 p2 c0 c1 c2 x := by
  unfold own_P
  by_cases a : p0 < x <;> by_cases b : p1 < x <;> by_cases c : p2 < x <;> simp only [a, b, c, if_true, if_false] <;> omega
theorem own_P_hi (p0 p1 p2 c0 c1 c2 : Int) (h0 : 0 ≤ c0) (h1 : 0 ≤ c1) (h2 : 0 ≤ c2) (x : Int) : own_P p0 p1 p2 c0 c1 c2 x ≤ c0 + c1 + c2 := by
  unfold own_P
  by_cases a : p0 < x <;> by_cases b : p1 < x <;> by_cases c : p2 < x <;> simp only [a, b, c, if_true, if_false] <;> omega
theorem own_P_all (p0 p1 p2 c0 c1 c2 : Int) (x : Int) (a : p0 < x) (b : p1 < x) (c : p2 < x) : own_P p0 p1 p2 c0 c1 c2 x = c0 + c1 + c2 := by
  unfold own_P; simp only [a, b, c, if_true]
theorem own_P_zero (p0 p1 p2 c0 c1 c2 : Int) (a : 0 ≤ p0) (b : 0 ≤ p1) (c : 0 ≤ p2) : own_P p0 p1 p2 c0 c1 c2 0 = 0 := by
  unfold own_P; rw [if_neg (by omega), if_neg (by omega), if_neg (by omega)]; rfl
theorem own_found (p0 p1 p2 c0 c1 c2 r : Int) (M : Nat) (pl rk : Int32) (h0 : 0 ≤ c0) (h1 : 0 ≤ c1) (h2 : 0 ≤ c2) (h01 : p0 < p1) (h12 : p1 < p2) (hr0 : 0 ≤ r) (hr : r < c0 + c1 + c2)
    (I : own_inv (own_P p0 p1 p2 c0 c1 c2) r 1 M pl rk) :
    (r < c0 ∧ pl.toInt = p0 ∧ rk.toInt = r) ∨ (¬ r < c0 ∧ r < c0 + c1 ∧ pl.toInt = p1 ∧ rk.toInt = r - c0) ∨ (¬ r < c0 ∧ ¬ r < c0 + c1 ∧ pl.toInt = p2 ∧ rk.toInt = r - c0 - c1) := by
  obtain ⟨q, hq, -, -, hrk, ha, hb⟩ := I
  have e : ((q : Int) + ((1 : Nat) : Int)) = (q : Int) + 1 := rfl
  rw [e] at hb
  rw [hq, hrk]
  generalize (q : Int) = x at *
  unfold own_P at *
  by_cases a : p0 < x <;> by_cases b : p1 < x <;> by_cases c : p2 < x <;> by_cases a' : p0 < x + 1 <;> by_cases b' : p1 < x + 1 <;> by_cases c' : p2 < x + 1 <;> simp only [a, b, c, a', b', c', if_true, if_false] at ha hb ⊢ <;> omega
theorem own_nat (z : Int32) (n : Nat) (h : z.toInt = n) : ¬ z < 0 ∧ z.toNatClampNeg = n := by
  refine ⟨?_, ?_⟩
  · rw [Int32.lt_iff_toInt_lt]; have : (0 : Int32).toInt = 0 := rfl; omega
  · simp only [Int32.toNatClampNeg]; omega
theorem own_sum_at (P : Int → Int) (r : Int) (s M : Nat) (s32 pl rk : Int32) (hs : s32.toInt = s) (hM : M ≤ 2048) (hp : 0 < s) (I : own_inv P r (2 * s) M pl rk) : ∃ q : Nat, q % (2 * s) = 0 ∧ q + 2 * s ≤ M ∧ pl.toInt = q ∧ (pl + s32).toInt = ((q + s : Nat) : Int) ∧ rk.toInt = r - P q ∧ P q ≤ r ∧ r < P (q + ((2 * s : Nat) : Int)) := by
  obtain ⟨q, hq, h1, h2, h3, h4, h5⟩ := I
  refine ⟨q, h1, h2, hq, ?_, h3, h4, h5⟩
  rw [Jvm.Kit.i32_add (by omega) (by omega), hq, hs]; omega
theorem own_idx (P : Int → Int) (r : Int) (s M len : Nat) (s32 pl rk : Int32) (hs : s32.toInt = s) (hM : M ≤ 2048) (hp : 0 < s) (hl : M < len + s) (I : own_inv P r (2 * s) M pl rk) : ¬ (pl + s32) < 0 ∧ (pl + s32).toNatClampNeg < len := by
  obtain ⟨q, h1, h2, h3, h4, -⟩ := own_sum_at P r s M s32 pl rk hs hM hp I
  obtain ⟨a, b⟩ := own_nat _ _ h4
  exact ⟨a, by omega⟩
theorem own_step (P : Int → Int) (r : Int) (s M : Nat) (s32 pl rk : Int32) (g : Nat → Int32) (hs : s32.toInt = s) (hM : M ≤ 2048) (hp : 0 < s)
    (hG : ∀ q : Nat, q % (2 * s) = 0 → q + 2 * s ≤ M → (g (q + s)).toInt = P ((q + s : Nat) : Int) - P q) (hm : ∀ x y, x ≤ y → P x ≤ P y) (hlo : ∀ x, 0 ≤ P x) (hhi : ∀ x, P x ≤ 4000) (hr : r ≤ 4000) (I : own_inv P r (2 * s) M pl rk)
    (sm ps : Int32) (hsm : sm = g (pl + s32).toNatClampNeg) (hps : ps = ((sm - rk) - (1 : Int32)) >>> ((31 : Int32) &&& 31)) : own_inv P r s M (pl + (s32 &&& ps)) (rk - (sm &&& ps)) := by
  obtain ⟨q, h1, h2, h3, h4, h5, h6, h7⟩ := own_sum_at P r s M s32 pl rk hs hM hp I
  obtain ⟨-, hb⟩ := own_nat _ _ h4
  have hsv : sm.toInt = P ((q + s : Nat) : Int) - P q := by rw [hsm, hb]; exact hG q h1 h2
  have b1 := hlo q
  have b2 := hhi ((q + s : Nat) : Int)
  have b3 := hm q ((q + s : Nat) : Int) (by omega)
  have b4 := hlo ((q + s : Nat) : Int)
  have one : (1 : Int32).toInt = 1 := rfl
  have e1 : (sm - rk).toInt = sm.toInt - rk.toInt := Jvm.Kit.i32_sub (by omega) (by omega)
  have e2 : ((sm - rk) - (1 : Int32)).toInt = sm.toInt - rk.toInt - 1 := by rw [Jvm.Kit.i32_sub (by rw [e1, one]; omega) (by rw [e1, one]; omega), e1, one]
  have e3 : ps.toInt = (sm.toInt - rk.toInt - 1) / 2 ^ 31 := by rw [hps, Jvm.Kit.i32_shr _ _ (k := 31) (by decide), e2]
  have m2 : q % s = 0 := Nat.mod_eq_zero_of_dvd (Nat.dvd_trans ⟨2, Nat.mul_comm _ _⟩ (Nat.dvd_of_mod_eq_zero h1))
  by_cases c : P ((q + s : Nat) : Int) ≤ r
  · have ps1 : ps = -1 := Int32.toInt_inj.mp (by rw [e3]; show _ = (-1 : Int); omega)
    have a1 : s32 &&& ps = s32 := by rw [ps1]; apply Int32.toBitVec_inj.mp; rw [Int32.toBitVec_and]; exact BitVec.and_allOnes
    have a2 : sm &&& ps = sm := by rw [ps1]; apply Int32.toBitVec_inj.mp; rw [Int32.toBitVec_and]; exact BitVec.and_allOnes
    rw [a1, a2]
    refine ⟨q + s, h4, by rw [Nat.add_mod, m2, Nat.mod_self]; rfl, by omega, ?_, c, ?_⟩
    · rw [Jvm.Kit.i32_sub (by omega) (by omega), hsv, h5]; omega
    · have : (((q + s : Nat) : Int) + (s : Int)) = (q : Int) + ((2 * s : Nat) : Int) := by omega
      rw [this]; exact h7
  · have ps0 : ps = 0 := Int32.toInt_inj.mp (by rw [e3]; show _ = (0 : Int); omega)
    rw [ps0, Int32.and_zero, Int32.and_zero, Int32.add_zero, Int32.sub_zero]
    refine ⟨q, h3, m2, by omega, h5, h6, ?_⟩
    have : ((q : Int) + (s : Int)) = ((q + s : Nat) : Int) := by omega
    rw [this]; omega
theorem own_narrow (P : Int → Int) (r : Int) (m : Nat) (pl rk : Int32) (hp : 0 < m) (hr : r < P m) (I : own_inv P r m (2 * m) pl rk) : own_inv P r m m pl rk := by
  obtain ⟨q, h1, h2, h3, h4, h5, h6⟩ := I
  have : q = 0 := by
    obtain ⟨t, rfl⟩ := Nat.dvd_of_mod_eq_zero h2
    have : t < 2 := Nat.lt_of_mul_lt_mul_left (a := m) (by rw [Nat.mul_comm m 2]; omega)
    rcases (show t = 0 ∨ t = 1 by omega) with rfl | rfl
    · rfl
    · rw [Nat.mul_one] at h5; omega
  subst this
  exact ⟨0, h1, h2, by omega, h4, h5, h6⟩
theorem own_init (P : Int → Int) (r : Int) (m : Nat) (rk : Int32) (hz : P 0 = 0) (h0 : 0 ≤ r) (hr : r < P m) (hrk : rk.toInt = r) : own_inv P r m m 0 rk :=
  ⟨0, rfl, Nat.zero_mod _, by omega, by rw [hrk]; show r = r - P 0; omega, by show P 0 ≤ r; omega, by simpa using hr⟩
/-- an entry of the tree is the count of the places that it sums -/
theorem own_node (a0 a1 a2 : Nat) (c0 c1 c2 : Int32) (h0 : 0 ≤ c0.toInt ∧ c0.toInt ≤ 1023) (h1 : 0 ≤ c1.toInt ∧ c1.toInt ≤ 1023) (h2 : 0 ≤ c2.toInt ∧ c2.toInt ≤ 1023) (k : Nat) (hk : k < 11) (q : Nat) (hq : q % (2 * 2 ^ k) = 0) (hl : q + 2 ^ k < 1025) :
    (own_fen (own_fen (own_fen (fun _ => 0) (a0 + 1) c0) (a1 + 1) c1) (a2 + 1) c2 (q + 2 ^ k)).toInt = own_P a0 a1 a2 c0.toInt c1.toInt c2.toInt ((q + 2 ^ k : Nat) : Int) - own_P a0 a1 a2 c0.toInt c1.toInt c2.toInt q := by
  have hpk : 0 < 2 ^ k := Nat.pow_pos (by decide)
  have e2 : 2 ^ (k + 1) = 2 * 2 ^ k := by rw [Nat.pow_succ, Nat.mul_comm]
  have hm : (q + 2 ^ k) % 2 ^ (k + 1) = 2 ^ k := by rw [e2, Nat.add_mod, hq, Nat.zero_add, Nat.mod_mod, Nat.mod_eq_of_lt (by omega)]
  have hlb : own_lb (q + 2 ^ k) = 2 ^ k := own_lb_tab ⟨q + 2 ^ k, hl⟩ ⟨k, hk⟩ hm
  have z0 : (0 : Int32).toInt = 0 := rfl
  have s0 : ((0 : Int32) + c0).toInt = c0.toInt := by rw [Int32.zero_add]
  have s1 : ((0 : Int32) + c1).toInt = c1.toInt := by rw [Int32.zero_add]
  have s2 : ((0 : Int32) + c2).toInt = c2.toInt := by rw [Int32.zero_add]
  have s01 : ((0 : Int32) + c0 + c1).toInt = c0.toInt + c1.toInt := by rw [Jvm.Kit.i32_add (by omega) (by omega), s0]
  have s02 : ((0 : Int32) + c0 + c2).toInt = c0.toInt + c2.toInt := by rw [Jvm.Kit.i32_add (by omega) (by omega), s0]
  have s12 : ((0 : Int32) + c1 + c2).toInt = c1.toInt + c2.toInt := by rw [Jvm.Kit.i32_add (by omega) (by omega), s1]
  have s012 : ((0 : Int32) + c0 + c1 + c2).toInt = c0.toInt + c1.toInt + c2.toInt := by rw [Jvm.Kit.i32_add (by omega) (by omega), s01]
  unfold own_fen own_P
  rw [hlb]
  generalize 2 ^ k = s at *
  have c : ∀ a : Nat, (q + s - s < a + 1 ∧ a + 1 ≤ q + s) ↔ (q ≤ a ∧ a < q + s) := fun a => by omega
  have d : ∀ a : Nat, (((a : Int) < ((q + s : Nat) : Int)) ↔ a < q + s) := fun a => by omega
  have d' : ∀ a : Nat, (((a : Int) < (q : Int)) ↔ a < q) := fun a => by omega
  simp only [c, d, d']
  by_cases u0 : a0 < q <;> by_cases u1 : a1 < q <;> by_cases u2 : a2 < q <;> by_cases w0 : a0 < q + s <;> by_cases w1 : a1 < q + s <;> by_cases w2 : a2 < q + s <;>
    simp only [u0, u1, u2, w0, w1, w2, Nat.not_le.mpr, Nat.not_lt.mp, if_true, if_false, and_true, and_false, not_false_iff, Nat.le_of_not_lt, s0, s1, s2, s01, s02, s12, s012, z0] <;> omega
theorem own_node1 (a0 a1 a2 : Nat) (c0 c1 c2 : Int32) (h0 : 0 ≤ c0.toInt ∧ c0.toInt ≤ 1023) (h1 : 0 ≤ c1.toInt ∧ c1.toInt ≤ 1023) (h2 : 0 ≤ c2.toInt ∧ c2.toInt ≤ 1023) (h01 : a0 < a1) (h12 : a1 < a2) (q : Nat) :
    (own_pt (own_pt (own_pt (fun _ => 0) (a0 + 1) c0) (a1 + 1) c1) (a2 + 1) c2 (q + 1)).toInt = own_P a0 a1 a2 c0.toInt c1.toInt c2.toInt ((q + 1 : Nat) : Int) - own_P a0 a1 a2 c0.toInt c1.toInt c2.toInt q := by
  have z0 : (0 : Int32).toInt = 0 := rfl
  have s0 : ((0 : Int32) + c0).toInt = c0.toInt := by rw [Int32.zero_add]
  have s1 : ((0 : Int32) + c1).toInt = c1.toInt := by rw [Int32.zero_add]
  have s2 : ((0 : Int32) + c2).toInt = c2.toInt := by rw [Int32.zero_add]
  unfold own_pt own_P
  have d : ∀ a : Nat, (((a : Int) < ((q + 1 : Nat) : Int)) ↔ a < q + 1) := fun a => by omega
  have d' : ∀ a : Nat, (((a : Int) < (q : Int)) ↔ a < q) := fun a => by omega
  have c : ∀ a : Nat, (q + 1 = a + 1) ↔ (¬ a < q ∧ a < q + 1) := fun a => by omega
  simp only [c, d, d']
  by_cases u0 : a0 < q <;> by_cases u1 : a1 < q <;> by_cases u2 : a2 < q <;> by_cases w0 : a0 < q + 1 <;> by_cases w1 : a1 < q + 1 <;> by_cases w2 : a2 < q + 1 <;>
    simp only [u0, u1, u2, w0, w1, w2, if_true, if_false, and_true, and_false, not_true, not_false_iff, s0, s1, s2, z0] <;> omega
theorem own_pt_eq (g : Nat → Int32) (i : Nat) (c : Int32) (j : Nat) : own_pt g i c j = (if j = i then g i + c else g j) := by
  unfold own_pt; split
  · rename_i q; rw [q]
  · rfl
theorem own_ofNat (i : Int32) (h1 : 0 ≤ i.toInt) : i = Int32.ofNat i.toNatClampNeg ∧ i.toInt = (i.toNatClampNeg : Int) := by
  have hu := i.toInt_lt
  have e : i.toInt = (i.toNatClampNeg : Int) := by simp only [Int32.toNatClampNeg]; omega
  exact ⟨Int32.toInt_inj.mp (by rw [Int32.toInt_ofNat_of_lt (by omega)]; exact e), e⟩
theorem own_next (i : Int32) (h1 : 1 ≤ i.toInt) (h2 : i.toInt ≤ 1024) : (i + (i &&& (-i))).toInt = ((i.toNatClampNeg + own_lb i.toNatClampNeg : Nat) : Int) ∧ 1 ≤ own_lb i.toNatClampNeg ∧ own_lb i.toNatClampNeg ≤ 1024 := by
  obtain ⟨e1, e2⟩ := own_ofNat i (by omega)
  obtain ⟨k, hk, ek, -⟩ := own_lb_spec i.toNatClampNeg (by omega) (by omega)
  have b1 : 1 ≤ own_lb i.toNatClampNeg := by rw [ek]; exact Nat.pow_pos (by decide)
  have b2 : own_lb i.toNatClampNeg ≤ 1024 := by rw [ek]; exact Nat.le_trans (Nat.pow_le_pow_right (by decide) (show k ≤ 10 by omega)) (by decide)
  have e3 : (i &&& (-i)).toInt = (own_lb i.toNatClampNeg : Int) := by
    have := own_lb32 ⟨i.toNatClampNeg, by omega⟩
    dsimp only at this
    rw [← e1] at this
    rw [this, Int32.toInt_ofNat_of_lt (by omega)]
  exact ⟨by rw [Jvm.Kit.i32_add (by omega) (by omega), e3]; omega, b1, b2⟩
theorem own_in (i : Int32) (n : Nat) (z : Int32) (hz : z.toInt = n) (h1 : 1 ≤ i.toInt) (h : i < z) : ¬ i < 0 ∧ i.toNatClampNeg < n := by
  rw [Int32.lt_iff_toInt_lt] at h
  refine ⟨?_, ?_⟩
  · rw [Int32.lt_iff_toInt_lt]; have : (0 : Int32).toInt = 0 := rfl; omega
  · simp only [Int32.toNatClampNeg]; omega
theorem own_fen_turn (g : Nat → Int32) (i c : Int32) (h1 : 1 ≤ i.toInt) (h2 : i.toInt ≤ 1024) (j : Nat) (hj : j < 1025) :
    own_fen g i.toNatClampNeg c j = own_fen (fun x => if x = i.toNatClampNeg then g i.toNatClampNeg + c else g x) (i + (i &&& (-i))).toNatClampNeg c j := by
  obtain ⟨e1, -, -⟩ := own_next i h1 h2
  rw [(own_nat _ _ e1).2]
  obtain ⟨-, e2⟩ := own_ofNat i (by omega)
  exact (own_fen_in g i.toNatClampNeg c (by omega) (by omega) j hj).symm
def own_lin (P : Int → Int) (r : Int) (pl rk : Int32) : Prop := ∃ q : Nat, pl.toInt = q ∧ rk.toInt = r - P q ∧ P q ≤ r
theorem own_lin_at (P : Int → Int) (r : Int) (pl rk : Int32) (hm : ∀ x y, x ≤ y → P x ≤ P y) (hr : r < P 256) (I : own_lin P r pl rk) : ∃ q : Nat, pl.toInt = q ∧ rk.toInt = r - P q ∧ P q ≤ r ∧ q < 256 ∧ (pl + (1 : Int32)).toInt = ((q + 1 : Nat) : Int) := by
  obtain ⟨q, h1, h2, h3⟩ := I
  have hq : q < 256 := by
    apply Nat.lt_of_not_le
    intro h
    have := hm 256 q (by omega)
    omega
  have one : (1 : Int32).toInt = 1 := rfl
  refine ⟨q, h1, h2, h3, hq, ?_⟩
  rw [Jvm.Kit.i32_add (by omega) (by omega), h1, one]; omega
theorem own_lin_idx (P : Int → Int) (r : Int) (pl rk : Int32) (hm : ∀ x y, x ≤ y → P x ≤ P y) (hr : r < P 256) (I : own_lin P r pl rk) : ¬ (pl + (1 : Int32)) < 0 ∧ (pl + (1 : Int32)).toNatClampNeg < 257 := by
  obtain ⟨q, h1, h2, h3, h4, h5⟩ := own_lin_at P r pl rk hm hr I
  obtain ⟨a, b⟩ := own_nat _ _ h5
  exact ⟨a, by omega⟩
theorem own_lin_next (P : Int → Int) (r : Int) (pl rk : Int32) (g : Nat → Int32) (hm : ∀ x y, x ≤ y → P x ≤ P y) (hr : r < P 256) (hlo : ∀ x, 0 ≤ P x) (hhi : ∀ x, P x ≤ 4000) (hr4 : r ≤ 4000)
    (hG : ∀ q : Nat, (g (q + 1)).toInt = P ((q + 1 : Nat) : Int) - P q) (I : own_lin P r pl rk) (hc : ¬ rk < g (pl + (1 : Int32)).toNatClampNeg) : own_lin P r (pl + (1 : Int32)) (rk - g (pl + (1 : Int32)).toNatClampNeg) := by
  obtain ⟨q, h1, h2, h3, h4, h5⟩ := own_lin_at P r pl rk hm hr I
  obtain ⟨-, b⟩ := own_nat _ _ h5
  rw [b] at hc ⊢
  rw [Int32.lt_iff_toInt_lt] at hc
  have e := hG q
  have b1 := hlo q
  have b2 := hhi ((q + 1 : Nat) : Int)
  have b3 := hm q ((q + 1 : Nat) : Int) (by omega)
  refine ⟨q + 1, h5, ?_, by omega⟩
  rw [Jvm.Kit.i32_sub (by omega) (by omega), h2, e]; omega
theorem own_lin_exit (P : Int → Int) (r : Int) (pl rk : Int32) (g : Nat → Int32) (hm : ∀ x y, x ≤ y → P x ≤ P y) (hr : r < P 256)
    (hG : ∀ q : Nat, (g (q + 1)).toInt = P ((q + 1 : Nat) : Int) - P q) (I : own_lin P r pl rk) (hc : rk < g (pl + (1 : Int32)).toNatClampNeg) : own_inv P r 1 256 pl rk := by
  obtain ⟨q, h1, h2, h3, h4, h5⟩ := own_lin_at P r pl rk hm hr I
  obtain ⟨-, b⟩ := own_nat _ _ h5
  rw [b, Int32.lt_iff_toInt_lt] at hc
  have e := hG q
  refine ⟨q, h1, Nat.mod_one _, by omega, h2, h3, ?_⟩
  have : ((q : Int) + ((1 : Nat) : Int)) = ((q + 1 : Nat) : Int) := by omega
  rw [this]; omega
theorem own_mod (x m : Int32) (hm : 0 < m.toInt) : 0 ≤ ((x &&& (2147483647 : Int32)) % m).toInt ∧ ((x &&& (2147483647 : Int32)) % m).toInt < m.toInt := by
  have h1 : (x &&& (2147483647 : Int32)).toInt = x.toInt % 2 ^ 31 := Jvm.Kit.i32_mask x 2147483647 (k := 31) (by decide) (by decide)
  rw [Int32.toInt_mod, Int.tmod_eq_emod_of_nonneg (by omega)]
  exact ⟨Int.emod_nonneg _ (by omega), Int.emod_lt_of_pos _ hm⟩
theorem own_nz {x : Int32} (h : 0 < x.toInt) : ¬ (x = (0 : Int32)) := fun q => by rw [q] at h; exact absurd h (by decide)
theorem own_1023 (x : Int32) : 0 ≤ (x &&& (1023 : Int32)).toInt ∧ (x &&& (1023 : Int32)).toInt ≤ 1023 := by
  have : (x &&& (1023 : Int32)).toInt = x.toInt % 2 ^ 10 := Jvm.Kit.i32_mask x 1023 (k := 10) (by decide) (by decide)
  omega
theorem own_nodeI (p0 p1 p2 c0 c1 c2 : Int32) (n0 : 0 ≤ p0.toInt ∧ p0.toInt ≤ 2000) (n1 : 0 ≤ p1.toInt ∧ p1.toInt ≤ 2000) (n2 : 0 ≤ p2.toInt ∧ p2.toInt ≤ 2000) (h0 : 0 ≤ c0.toInt ∧ c0.toInt ≤ 1023) (h1 : 0 ≤ c1.toInt ∧ c1.toInt ≤ 1023) (h2 : 0 ≤ c2.toInt ∧ c2.toInt ≤ 1023) (k : Nat) (hk : k < 11) (q : Nat) (hq : q % (2 * 2 ^ k) = 0) (hl : q + 2 ^ k < 1025) :
    (own_fen (own_fen (own_fen (fun _ => (0 : Int32)) (p0 + (1 : Int32)).toNatClampNeg c0) (p1 + (1 : Int32)).toNatClampNeg c1) (p2 + (1 : Int32)).toNatClampNeg c2 (q + 2 ^ k)).toInt = own_P p0.toInt p1.toInt p2.toInt c0.toInt c1.toInt c2.toInt ((q + 2 ^ k : Nat) : Int) - own_P p0.toInt p1.toInt p2.toInt c0.toInt c1.toInt c2.toInt q := by
  have one : (1 : Int32).toInt = 1 := rfl
  have s : ∀ p : Int32, (0 ≤ p.toInt ∧ p.toInt ≤ 2000) → (p + (1 : Int32)).toNatClampNeg = p.toNatClampNeg + 1 := fun p hp => by
    have e := (own_ofNat p hp.1).2
    exact (own_nat _ _ (by rw [Jvm.Kit.i32_add (by omega) (by omega), one]; omega)).2
  rw [s p0 n0, s p1 n1, s p2 n2, (own_ofNat p0 n0.1).2, (own_ofNat p1 n1.1).2, (own_ofNat p2 n2.1).2]
  exact own_node _ _ _ c0 c1 c2 h0 h1 h2 k hk q hq hl
theorem own_node1I (p0 p1 p2 c0 c1 c2 : Int32) (n0 : 0 ≤ p0.toInt ∧ p0.toInt ≤ 2000) (n1 : 0 ≤ p1.toInt ∧ p1.toInt ≤ 2000) (n2 : 0 ≤ p2.toInt ∧ p2.toInt ≤ 2000) (h0 : 0 ≤ c0.toInt ∧ c0.toInt ≤ 1023) (h1 : 0 ≤ c1.toInt ∧ c1.toInt ≤ 1023) (h2 : 0 ≤ c2.toInt ∧ c2.toInt ≤ 1023) (h01 : p0.toInt < p1.toInt) (h12 : p1.toInt < p2.toInt) (q : Nat) :
    (own_pt (own_pt (own_pt (fun _ => (0 : Int32)) (p0 + (1 : Int32)).toNatClampNeg c0) (p1 + (1 : Int32)).toNatClampNeg c1) (p2 + (1 : Int32)).toNatClampNeg c2 (q + 1)).toInt = own_P p0.toInt p1.toInt p2.toInt c0.toInt c1.toInt c2.toInt ((q + 1 : Nat) : Int) - own_P p0.toInt p1.toInt p2.toInt c0.toInt c1.toInt c2.toInt q := by
  have one : (1 : Int32).toInt = 1 := rfl
  have s : ∀ p : Int32, (0 ≤ p.toInt ∧ p.toInt ≤ 2000) → (p + (1 : Int32)).toNatClampNeg = p.toNatClampNeg + 1 := fun p hp => by
    have e := (own_ofNat p hp.1).2
    exact (own_nat _ _ (by rw [Jvm.Kit.i32_add (by omega) (by omega), one]; omega)).2
  have e0 := (own_ofNat p0 n0.1).2
  have e1 := (own_ofNat p1 n1.1).2
  have e2 := (own_ofNat p2 n2.1).2
  rw [s p0 n0, s p1 n1, s p2 n2, e0, e1, e2]
  exact own_node1 _ _ _ c0 c1 c2 h0 h1 h2 (by omega) (by omega) q
theorem own_final (p0 p1 p2 c0 c1 c2 r pl rk v w : Int32) (M : Nat) (h0 : 0 ≤ c0.toInt ∧ c0.toInt ≤ 1023) (h1 : 0 ≤ c1.toInt ∧ c1.toInt ≤ 1023) (h2 : 0 ≤ c2.toInt ∧ c2.toInt ≤ 1023) (h01 : p0.toInt < p1.toInt) (h12 : p1.toInt < p2.toInt) (hr0 : 0 ≤ r.toInt) (hr : r.toInt < c0.toInt + c1.toInt + c2.toInt)
    (I : own_inv (own_P p0.toInt p1.toInt p2.toInt c0.toInt c1.toInt c2.toInt) r.toInt 1 M pl rk)
    (hv : v = if r < c0 then p0 else (if r < c0 + c1 then p1 else p2)) (hw : w = if r < c0 then r else (if r < c0 + c1 then r - c0 else (r - c0) - c1)) : pl = v ∧ rk = w := by
  have e1 : (c0 + c1).toInt = c0.toInt + c1.toInt := Jvm.Kit.i32_add (by omega) (by omega)
  have e2 : (r - c0).toInt = r.toInt - c0.toInt := Jvm.Kit.i32_sub (by omega) (by omega)
  have e3 : ((r - c0) - c1).toInt = r.toInt - c0.toInt - c1.toInt := by rw [Jvm.Kit.i32_sub (by omega) (by omega), e2]
  simp only [Int32.lt_iff_toInt_lt, e1] at hv hw
  rcases own_found _ _ _ _ _ _ _ M pl rk h0.1 h1.1 h2.1 h01 h12 hr0 hr I with ⟨a, b, c⟩ | ⟨a, a', b, c⟩ | ⟨a, a', b, c⟩
  · rw [if_pos a] at hv hw
    exact ⟨Int32.toInt_inj.mp (by rw [hv]; exact b), Int32.toInt_inj.mp (by rw [hw]; exact c)⟩
  · rw [if_neg a, if_pos a'] at hv hw
    exact ⟨Int32.toInt_inj.mp (by rw [hv]; exact b), Int32.toInt_inj.mp (by rw [hw, e2]; exact c)⟩
  · rw [if_neg a, if_neg a'] at hv hw
    exact ⟨Int32.toInt_inj.mp (by rw [hv]; exact b), Int32.toInt_inj.mp (by rw [hw, e3]; exact c)⟩
theorem d6_0 : decode jdk_33_method_47_code 0 = .ok (.iload_n 0, 1) := by decide +kernel
theorem d6_1 : decode jdk_33_method_47_code 1 = .ok (.ifCond .gt 14, 3) := by decide +kernel
theorem d6_15 : decode jdk_33_method_47_code 15 = .ok (.bipush 31, 2) := by decide +kernel
theorem d6_17 : decode jdk_33_method_47_code 17 = .ok (.istore_n 1, 1) := by decide +kernel
theorem d6_18 : decode jdk_33_method_47_code 18 = .ok (.iload_n 0, 1) := by decide +kernel
theorem d6_19 : decode jdk_33_method_47_code 19 = .ok (.ldc_w 264, 3) := by decide +kernel
theorem d6_22 : decode jdk_33_method_47_code 22 = .ok (.if_icmp .lt 11, 3) := by decide +kernel
theorem d6_33 : decode jdk_33_method_47_code 33 = .ok (.iload_n 0, 1) := by decide +kernel
theorem d6_34 : decode jdk_33_method_47_code 34 = .ok (.sipush 256, 3) := by decide +kernel
theorem d6_37 : decode jdk_33_method_47_code 37 = .ok (.if_icmp .lt 11, 3) := by decide +kernel
theorem d6_40 : decode jdk_33_method_47_code 40 = .ok (.iinc 1 (-8), 3) := by decide +kernel
theorem d6_43 : decode jdk_33_method_47_code 43 = .ok (.iload_n 0, 1) := by decide +kernel
theorem d6_44 : decode jdk_33_method_47_code 44 = .ok (.bipush 8, 2) := by decide +kernel
theorem d6_46 : decode jdk_33_method_47_code 46 = .ok (.iushr, 1) := by decide +kernel
theorem d6_47 : decode jdk_33_method_47_code 47 = .ok (.istore_n 0, 1) := by decide +kernel
theorem d6_48 : decode jdk_33_method_47_code 48 = .ok (.iload_n 0, 1) := by decide +kernel
theorem d6_49 : decode jdk_33_method_47_code 49 = .ok (.bipush 16, 2) := by decide +kernel
theorem d6_51 : decode jdk_33_method_47_code 51 = .ok (.if_icmp .lt 10, 3) := by decide +kernel
theorem d6_61 : decode jdk_33_method_47_code 61 = .ok (.iload_n 0, 1) := by decide +kernel
theorem d6_62 : decode jdk_33_method_47_code 62 = .ok (.iconst 4, 1) := by decide +kernel
theorem d6_63 : decode jdk_33_method_47_code 63 = .ok (.if_icmp .lt 10, 3) := by decide +kernel
theorem d6_73 : decode jdk_33_method_47_code 73 = .ok (.iload_n 1, 1) := by decide +kernel
theorem d6_74 : decode jdk_33_method_47_code 74 = .ok (.iload_n 0, 1) := by decide +kernel
theorem d6_75 : decode jdk_33_method_47_code 75 = .ok (.iconst 1, 1) := by decide +kernel
theorem d6_76 : decode jdk_33_method_47_code 76 = .ok (.iushr, 1) := by decide +kernel
theorem d6_77 : decode jdk_33_method_47_code 77 = .ok (.isub, 1) := by decide +kernel
theorem d6_78 : decode jdk_33_method_47_code 78 = .ok (.ireturn, 1) := by decide +kernel
theorem pn_java_lang_Integer : plainName "java/lang/Integer" = true := by first | (simp [plainName, overriddenIn]; done) | decide +kernel
theorem ef_rmN_257 (m : MethodId) (x0 : Int32) : entryFrame m #[(.int x0)] 2 = mkF m 0 #[.val (.int x0), .unset] [] := by first | (simp [entryFrame, mkF, argsToLocals, Value.category]; done) | rfl
def QrmN_257 (Z : State)  (h0 : Heap) (n0 : Nat) (v : Option Value) (h : Heap) (L : List Loc) : Prop := v = some (.int (23 : Int32)) ∧ Fr n0 L ∧ h = h0
set_option maxRecDepth 65536 in
set_option maxHeartbeats 40000000 in
theorem rmN_257 (l : Launch) (Z : State) (a0 : Array Value) (hw : ∀ d ∈ tables_1, d.before a0 Z = true) (ws : List Jvm.Cond)  (h0 : Heap) (n0 : Nat) (Z0 : n0 ≤ h0.size) :
    MetFree l (⟨"java/lang/Integer", "numberOfLeadingZeros", "(I)I"⟩ : MethodName) (head1 (Jvm.Cond.code (⟨"java/lang/Integer", "numberOfLeadingZeros", "(I)I"⟩ : MethodName) jdk_33_method_47_code 2 (some .int) :: ws) ({ frames := 0, cells := 0, slots := 0, locals := 0 } : Room)) (fun a U => a = #[(.int (257 : Int32))] ∧ Z.Warmed39 U.vm ∧ U.heap = h0) (fun _ _ _ _ _ => True) (fun _ U o U' => ∃ v L, o = .returned v ∧ QrmN_257 Z  h0 n0 v U'.heap L ∧ FrameEnd U o U' L ({ frames := 0, cells := 0, slots := 0, locals := 0 } : Room).cells ({ frames := 0, cells := 0, slots := 0, locals := 0 } : Room).slots) := by
  refine MetFree.of_bodySF (plainFor_of_name pn_java_lang_Integer) hisR ?_
  intro p e s m args below meth c s₁ Bd hml0 hP hK
  obtain ⟨rfl, hZ, hh⟩ := hP
  have hx := Bd.exec
  have hby := Bd.bytes
  have hml : c.maxLocals = 2 := hml0
  have hown : s.vm.findClass "java/lang/Integer" = some m.cls := findClass_of_methodNamed Bd.named
  have hnm := (name_of_methodNamed Bd.named Bd.method).1
  have X0 : Stand p l e ({ frames := 0, cells := 0, slots := 0, locals := 0 } : Room) s m #[(.int (257 : Int32))] below meth c s₁ [] 0 0 := Stand.of_body Bd
  have e0 : s₁.heap = h0 := by rw [← hh, Bd.state]; rfl
  have N0 := Fr.nil n0
  have pre0 : ∀ t, Steps p.tables e below (s₁.setTop (mkF m 0 #[.val (.int (257 : Int32)), .unset] [])) t → Steps p.tables e below (s₁.setTop (entryFrame m #[(.int (257 : Int32))] 2)) t := fun t k => castTop (ef_rmN_257 m (257 : Int32)) k
  obtain ⟨fs, hr, hrun, hended, hW, hsame⟩ := X0.leave (v := some (.int (23 : Int32))) (fun h => by rw [Bd.returns] at h; cases h)
  refine ⟨_, _, pre0 _ (?_), hrun, hended, _, _, rfl, ?_, ⟨_, rfl⟩, hW, hsame.mono (by decide) (by decide)⟩
  · show Steps p.tables e below (s₁.setTop (mkF m 0 #[.val (.int (257 : Int32)), .unset] [])) _
    refine XS.iloadN X0.here hx rfl (hb hby d6_0) rfl ?_
    show Steps p.tables e below (s₁.setTop (mkF m 1 #[.val (.int (257 : Int32)), .unset] [(.int (257 : Int32))])) _
    refine XS.ifYes X0.here hx rfl (pc0 := 1) (pc' := 15) rfl (hb hby d6_1) rfl ((if0 _ _).trans (tlt (by decide : (0 : Int32) < (257 : Int32))).2.2.1) (by decide) (by decide) ?_
    show Steps p.tables e below (s₁.setTop (mkF m 15 #[.val (.int (257 : Int32)), .unset] [])) _
    refine XS.bipush X0.here hx rfl (hb hby d6_15) ?_
    show Steps p.tables e below (s₁.setTop (mkF m 17 #[.val (.int (257 : Int32)), .unset] [(.int (31 : Int32))])) _
    refine XS.istoreN X0.here hx rfl (hb hby d6_17) rfl (l' := #[.val (.int (257 : Int32)), .val (.int (31 : Int32))]) rfl ?_
    show Steps p.tables e below (s₁.setTop (mkF m 18 #[.val (.int (257 : Int32)), .val (.int (31 : Int32))] [])) _
    refine XS.iloadN X0.here hx rfl (hb hby d6_18) rfl ?_
    show Steps p.tables e below (s₁.setTop (mkF m 19 #[.val (.int (257 : Int32)), .val (.int (31 : Int32))] [(.int (257 : Int32))])) _
    refine X0.ldcwInt hx hown (mvT hZ (hw _ (List.mem_of_getElem? (i := 35) rfl))) (g := (mkF m 19 #[.val (.int (257 : Int32)), .val (.int (31 : Int32))] [(.int (257 : Int32))])) rfl (hb hby d6_19) _ ?_
    show Steps p.tables e below (s₁.setTop (mkF m 22 #[.val (.int (257 : Int32)), .val (.int (31 : Int32))] [(.int (65536 : Int32)), (.int (257 : Int32))])) _
    refine XS.icmpYes X0.here hx rfl (pc0 := 22) (pc' := 33) rfl (hb hby d6_22) rfl (tlt (by decide : (257 : Int32) < (65536 : Int32))).1 (by decide) (by decide) ?_
    show Steps p.tables e below (s₁.setTop (mkF m 33 #[.val (.int (257 : Int32)), .val (.int (31 : Int32))] [])) _
    refine XS.iloadN X0.here hx rfl (hb hby d6_33) rfl ?_
    show Steps p.tables e below (s₁.setTop (mkF m 34 #[.val (.int (257 : Int32)), .val (.int (31 : Int32))] [(.int (257 : Int32))])) _
    refine XS.sipush X0.here hx rfl (hb hby d6_34) ?_
    show Steps p.tables e below (s₁.setTop (mkF m 37 #[.val (.int (257 : Int32)), .val (.int (31 : Int32))] [(.int (256 : Int32)), (.int (257 : Int32))])) _
    refine XS.icmpNo X0.here hx rfl (hb hby d6_37) rfl (flt (by decide : ¬ ((257 : Int32) < (256 : Int32)))).1 ?_
    show Steps p.tables e below (s₁.setTop (mkF m 40 #[.val (.int (257 : Int32)), .val (.int (31 : Int32))] [])) _
    refine XS.iinc X0.here hx rfl (hb hby d6_40) rfl (l' := #[.val (.int (257 : Int32)), .val (.int (23 : Int32))]) rfl ?_
    show Steps p.tables e below (s₁.setTop (mkF m 43 #[.val (.int (257 : Int32)), .val (.int (23 : Int32))] [])) _
    refine XS.iloadN X0.here hx rfl (hb hby d6_43) rfl ?_
    show Steps p.tables e below (s₁.setTop (mkF m 44 #[.val (.int (257 : Int32)), .val (.int (23 : Int32))] [(.int (257 : Int32))])) _
    refine XS.bipush X0.here hx rfl (hb hby d6_44) ?_
    show Steps p.tables e below (s₁.setTop (mkF m 46 #[.val (.int (257 : Int32)), .val (.int (23 : Int32))] [(.int (8 : Int32)), (.int (257 : Int32))])) _
    refine XS.iushr X0.here hx rfl (hb hby d6_46) rfl ?_
    show Steps p.tables e below (s₁.setTop (mkF m 47 #[.val (.int (257 : Int32)), .val (.int (23 : Int32))] [(.int (1 : Int32))])) _
    refine XS.istoreN X0.here hx rfl (hb hby d6_47) rfl (l' := #[.val (.int (1 : Int32)), .val (.int (23 : Int32))]) rfl ?_
    show Steps p.tables e below (s₁.setTop (mkF m 48 #[.val (.int (1 : Int32)), .val (.int (23 : Int32))] [])) _
    refine XS.iloadN X0.here hx rfl (hb hby d6_48) rfl ?_
    show Steps p.tables e below (s₁.setTop (mkF m 49 #[.val (.int (1 : Int32)), .val (.int (23 : Int32))] [(.int (1 : Int32))])) _
    refine XS.bipush X0.here hx rfl (hb hby d6_49) ?_
    show Steps p.tables e below (s₁.setTop (mkF m 51 #[.val (.int (1 : Int32)), .val (.int (23 : Int32))] [(.int (16 : Int32)), (.int (1 : Int32))])) _
    refine XS.icmpYes X0.here hx rfl (pc0 := 51) (pc' := 61) rfl (hb hby d6_51) rfl (tlt (by decide : (1 : Int32) < (16 : Int32))).1 (by decide) (by decide) ?_
    show Steps p.tables e below (s₁.setTop (mkF m 61 #[.val (.int (1 : Int32)), .val (.int (23 : Int32))] [])) _
    refine XS.iloadN X0.here hx rfl (hb hby d6_61) rfl ?_
    show Steps p.tables e below (s₁.setTop (mkF m 62 #[.val (.int (1 : Int32)), .val (.int (23 : Int32))] [(.int (1 : Int32))])) _
    refine XS.iconst X0.here hx rfl (hb hby d6_62) ?_
    show Steps p.tables e below (s₁.setTop (mkF m 63 #[.val (.int (1 : Int32)), .val (.int (23 : Int32))] [(.int (4 : Int32)), (.int (1 : Int32))])) _
    refine XS.icmpYes X0.here hx rfl (pc0 := 63) (pc' := 73) rfl (hb hby d6_63) rfl (tlt (by decide : (1 : Int32) < (4 : Int32))).1 (by decide) (by decide) ?_
    show Steps p.tables e below (s₁.setTop (mkF m 73 #[.val (.int (1 : Int32)), .val (.int (23 : Int32))] [])) _
    refine XS.iloadN X0.here hx rfl (hb hby d6_73) rfl ?_
    show Steps p.tables e below (s₁.setTop (mkF m 74 #[.val (.int (1 : Int32)), .val (.int (23 : Int32))] [(.int (23 : Int32))])) _
    refine XS.iloadN X0.here hx rfl (hb hby d6_74) rfl ?_
    show Steps p.tables e below (s₁.setTop (mkF m 75 #[.val (.int (1 : Int32)), .val (.int (23 : Int32))] [(.int (1 : Int32)), (.int (23 : Int32))])) _
    refine XS.iconst X0.here hx rfl (hb hby d6_75) ?_
    show Steps p.tables e below (s₁.setTop (mkF m 76 #[.val (.int (1 : Int32)), .val (.int (23 : Int32))] [(.int (1 : Int32)), (.int (1 : Int32)), (.int (23 : Int32))])) _
    refine XS.iushr X0.here hx rfl (hb hby d6_76) rfl ?_
    show Steps p.tables e below (s₁.setTop (mkF m 77 #[.val (.int (1 : Int32)), .val (.int (23 : Int32))] [(.int (0 : Int32)), (.int (23 : Int32))])) _
    refine XS.isub X0.here hx rfl (hb hby d6_77) rfl ?_
    show Steps p.tables e below (s₁.setTop (mkF m 78 #[.val (.int (1 : Int32)), .val (.int (23 : Int32))] [(.int (23 : Int32))])) _
    exact retI X0 hx Bd.returns (hb hby d6_78) hr
  · show QrmN_257 Z  h0 n0 _ s₁.heap _
    rw [e0]
    exact ⟨rfl, N0, rfl⟩
theorem ef_rmN_512 (m : MethodId) (x0 : Int32) : entryFrame m #[(.int x0)] 2 = mkF m 0 #[.val (.int x0), .unset] [] := by first | (simp [entryFrame, mkF, argsToLocals, Value.category]; done) | rfl
def QrmN_512 (Z : State)  (h0 : Heap) (n0 : Nat) (v : Option Value) (h : Heap) (L : List Loc) : Prop := v = some (.int (22 : Int32)) ∧ Fr n0 L ∧ h = h0
set_option maxRecDepth 65536 in
set_option maxHeartbeats 40000000 in
theorem rmN_512 (l : Launch) (Z : State) (a0 : Array Value) (hw : ∀ d ∈ tables_1, d.before a0 Z = true) (ws : List Jvm.Cond)  (h0 : Heap) (n0 : Nat) (Z0 : n0 ≤ h0.size) :
    MetFree l (⟨"java/lang/Integer", "numberOfLeadingZeros", "(I)I"⟩ : MethodName) (head1 (Jvm.Cond.code (⟨"java/lang/Integer", "numberOfLeadingZeros", "(I)I"⟩ : MethodName) jdk_33_method_47_code 2 (some .int) :: ws) ({ frames := 0, cells := 0, slots := 0, locals := 0 } : Room)) (fun a U => a = #[(.int (512 : Int32))] ∧ Z.Warmed39 U.vm ∧ U.heap = h0) (fun _ _ _ _ _ => True) (fun _ U o U' => ∃ v L, o = .returned v ∧ QrmN_512 Z  h0 n0 v U'.heap L ∧ FrameEnd U o U' L ({ frames := 0, cells := 0, slots := 0, locals := 0 } : Room).cells ({ frames := 0, cells := 0, slots := 0, locals := 0 } : Room).slots) := by
  refine MetFree.of_bodySF (plainFor_of_name pn_java_lang_Integer) hisR ?_
  intro p e s m args below meth c s₁ Bd hml0 hP hK
  obtain ⟨rfl, hZ, hh⟩ := hP
  have hx := Bd.exec
  have hby := Bd.bytes
  have hml : c.maxLocals = 2 := hml0
  have hown : s.vm.findClass "java/lang/Integer" = some m.cls := findClass_of_methodNamed Bd.named
  have hnm := (name_of_methodNamed Bd.named Bd.method).1
  have X0 : Stand p l e ({ frames := 0, cells := 0, slots := 0, locals := 0 } : Room) s m #[(.int (512 : Int32))] below meth c s₁ [] 0 0 := Stand.of_body Bd
  have e0 : s₁.heap = h0 := by rw [← hh, Bd.state]; rfl
  have N0 := Fr.nil n0
  have pre0 : ∀ t, Steps p.tables e below (s₁.setTop (mkF m 0 #[.val (.int (512 : Int32)), .unset] [])) t → Steps p.tables e below (s₁.setTop (entryFrame m #[(.int (512 : Int32))] 2)) t := fun t k => castTop (ef_rmN_512 m (512 : Int32)) k
  obtain ⟨fs, hr, hrun, hended, hW, hsame⟩ := X0.leave (v := some (.int (22 : Int32))) (fun h => by rw [Bd.returns] at h; cases h)
  refine ⟨_, _, pre0 _ (?_), hrun, hended, _, _, rfl, ?_, ⟨_, rfl⟩, hW, hsame.mono (by decide) (by decide)⟩
  · show Steps p.tables e below (s₁.setTop (mkF m 0 #[.val (.int (512 : Int32)), .unset] [])) _
    refine XS.iloadN X0.here hx rfl (hb hby d6_0) rfl ?_
    show Steps p.tables e below (s₁.setTop (mkF m 1 #[.val (.int (512 : Int32)), .unset] [(.int (512 : Int32))])) _
    refine XS.ifYes X0.here hx rfl (pc0 := 1) (pc' := 15) rfl (hb hby d6_1) rfl ((if0 _ _).trans (tlt (by decide : (0 : Int32) < (512 : Int32))).2.2.1) (by decide) (by decide) ?_
    show Steps p.tables e below (s₁.setTop (mkF m 15 #[.val (.int (512 : Int32)), .unset] [])) _
    refine XS.bipush X0.here hx rfl (hb hby d6_15) ?_
    show Steps p.tables e below (s₁.setTop (mkF m 17 #[.val (.int (512 : Int32)), .unset] [(.int (31 : Int32))])) _
    refine XS.istoreN X0.here hx rfl (hb hby d6_17) rfl (l' := #[.val (.int (512 : Int32)), .val (.int (31 : Int32))]) rfl ?_
    show Steps p.tables e below (s₁.setTop (mkF m 18 #[.val (.int (512 : Int32)), .val (.int (31 : Int32))] [])) _
    refine XS.iloadN X0.here hx rfl (hb hby d6_18) rfl ?_
    show Steps p.tables e below (s₁.setTop (mkF m 19 #[.val (.int (512 : Int32)), .val (.int (31 : Int32))] [(.int (512 : Int32))])) _
    refine X0.ldcwInt hx hown (mvT hZ (hw _ (List.mem_of_getElem? (i := 35) rfl))) (g := (mkF m 19 #[.val (.int (512 : Int32)), .val (.int (31 : Int32))] [(.int (512 : Int32))])) rfl (hb hby d6_19) _ ?_
    show Steps p.tables e below (s₁.setTop (mkF m 22 #[.val (.int (512 : Int32)), .val (.int (31 : Int32))] [(.int (65536 : Int32)), (.int (512 : Int32))])) _
    refine XS.icmpYes X0.here hx rfl (pc0 := 22) (pc' := 33) rfl (hb hby d6_22) rfl (tlt (by decide : (512 : Int32) < (65536 : Int32))).1 (by decide) (by decide) ?_
    show Steps p.tables e below (s₁.setTop (mkF m 33 #[.val (.int (512 : Int32)), .val (.int (31 : Int32))] [])) _
    refine XS.iloadN X0.here hx rfl (hb hby d6_33) rfl ?_
    show Steps p.tables e below (s₁.setTop (mkF m 34 #[.val (.int (512 : Int32)), .val (.int (31 : Int32))] [(.int (512 : Int32))])) _
    refine XS.sipush X0.here hx rfl (hb hby d6_34) ?_
    show Steps p.tables e below (s₁.setTop (mkF m 37 #[.val (.int (512 : Int32)), .val (.int (31 : Int32))] [(.int (256 : Int32)), (.int (512 : Int32))])) _
    refine XS.icmpNo X0.here hx rfl (hb hby d6_37) rfl (flt (by decide : ¬ ((512 : Int32) < (256 : Int32)))).1 ?_
    show Steps p.tables e below (s₁.setTop (mkF m 40 #[.val (.int (512 : Int32)), .val (.int (31 : Int32))] [])) _
    refine XS.iinc X0.here hx rfl (hb hby d6_40) rfl (l' := #[.val (.int (512 : Int32)), .val (.int (23 : Int32))]) rfl ?_
    show Steps p.tables e below (s₁.setTop (mkF m 43 #[.val (.int (512 : Int32)), .val (.int (23 : Int32))] [])) _
    refine XS.iloadN X0.here hx rfl (hb hby d6_43) rfl ?_
    show Steps p.tables e below (s₁.setTop (mkF m 44 #[.val (.int (512 : Int32)), .val (.int (23 : Int32))] [(.int (512 : Int32))])) _
    refine XS.bipush X0.here hx rfl (hb hby d6_44) ?_
    show Steps p.tables e below (s₁.setTop (mkF m 46 #[.val (.int (512 : Int32)), .val (.int (23 : Int32))] [(.int (8 : Int32)), (.int (512 : Int32))])) _
    refine XS.iushr X0.here hx rfl (hb hby d6_46) rfl ?_
    show Steps p.tables e below (s₁.setTop (mkF m 47 #[.val (.int (512 : Int32)), .val (.int (23 : Int32))] [(.int (2 : Int32))])) _
    refine XS.istoreN X0.here hx rfl (hb hby d6_47) rfl (l' := #[.val (.int (2 : Int32)), .val (.int (23 : Int32))]) rfl ?_
    show Steps p.tables e below (s₁.setTop (mkF m 48 #[.val (.int (2 : Int32)), .val (.int (23 : Int32))] [])) _
    refine XS.iloadN X0.here hx rfl (hb hby d6_48) rfl ?_
    show Steps p.tables e below (s₁.setTop (mkF m 49 #[.val (.int (2 : Int32)), .val (.int (23 : Int32))] [(.int (2 : Int32))])) _
    refine XS.bipush X0.here hx rfl (hb hby d6_49) ?_
    show Steps p.tables e below (s₁.setTop (mkF m 51 #[.val (.int (2 : Int32)), .val (.int (23 : Int32))] [(.int (16 : Int32)), (.int (2 : Int32))])) _
    refine XS.icmpYes X0.here hx rfl (pc0 := 51) (pc' := 61) rfl (hb hby d6_51) rfl (tlt (by decide : (2 : Int32) < (16 : Int32))).1 (by decide) (by decide) ?_
    show Steps p.tables e below (s₁.setTop (mkF m 61 #[.val (.int (2 : Int32)), .val (.int (23 : Int32))] [])) _
    refine XS.iloadN X0.here hx rfl (hb hby d6_61) rfl ?_
    show Steps p.tables e below (s₁.setTop (mkF m 62 #[.val (.int (2 : Int32)), .val (.int (23 : Int32))] [(.int (2 : Int32))])) _
    refine XS.iconst X0.here hx rfl (hb hby d6_62) ?_
    show Steps p.tables e below (s₁.setTop (mkF m 63 #[.val (.int (2 : Int32)), .val (.int (23 : Int32))] [(.int (4 : Int32)), (.int (2 : Int32))])) _
    refine XS.icmpYes X0.here hx rfl (pc0 := 63) (pc' := 73) rfl (hb hby d6_63) rfl (tlt (by decide : (2 : Int32) < (4 : Int32))).1 (by decide) (by decide) ?_
    show Steps p.tables e below (s₁.setTop (mkF m 73 #[.val (.int (2 : Int32)), .val (.int (23 : Int32))] [])) _
    refine XS.iloadN X0.here hx rfl (hb hby d6_73) rfl ?_
    show Steps p.tables e below (s₁.setTop (mkF m 74 #[.val (.int (2 : Int32)), .val (.int (23 : Int32))] [(.int (23 : Int32))])) _
    refine XS.iloadN X0.here hx rfl (hb hby d6_74) rfl ?_
    show Steps p.tables e below (s₁.setTop (mkF m 75 #[.val (.int (2 : Int32)), .val (.int (23 : Int32))] [(.int (2 : Int32)), (.int (23 : Int32))])) _
    refine XS.iconst X0.here hx rfl (hb hby d6_75) ?_
    show Steps p.tables e below (s₁.setTop (mkF m 76 #[.val (.int (2 : Int32)), .val (.int (23 : Int32))] [(.int (1 : Int32)), (.int (2 : Int32)), (.int (23 : Int32))])) _
    refine XS.iushr X0.here hx rfl (hb hby d6_76) rfl ?_
    show Steps p.tables e below (s₁.setTop (mkF m 77 #[.val (.int (2 : Int32)), .val (.int (23 : Int32))] [(.int (1 : Int32)), (.int (23 : Int32))])) _
    refine XS.isub X0.here hx rfl (hb hby d6_77) rfl ?_
    show Steps p.tables e below (s₁.setTop (mkF m 78 #[.val (.int (2 : Int32)), .val (.int (23 : Int32))] [(.int (22 : Int32))])) _
    exact retI X0 hx Bd.returns (hb hby d6_78) hr
  · show QrmN_512 Z  h0 n0 _ s₁.heap _
    rw [e0]
    exact ⟨rfl, N0, rfl⟩
theorem ef_rmN_700 (m : MethodId) (x0 : Int32) : entryFrame m #[(.int x0)] 2 = mkF m 0 #[.val (.int x0), .unset] [] := by first | (simp [entryFrame, mkF, argsToLocals, Value.category]; done) | rfl
def QrmN_700 (Z : State)  (h0 : Heap) (n0 : Nat) (v : Option Value) (h : Heap) (L : List Loc) : Prop := v = some (.int (22 : Int32)) ∧ Fr n0 L ∧ h = h0
set_option maxRecDepth 65536 in
set_option maxHeartbeats 40000000 in
theorem rmN_700 (l : Launch) (Z : State) (a0 : Array Value) (hw : ∀ d ∈ tables_1, d.before a0 Z = true) (ws : List Jvm.Cond)  (h0 : Heap) (n0 : Nat) (Z0 : n0 ≤ h0.size) :
    MetFree l (⟨"java/lang/Integer", "numberOfLeadingZeros", "(I)I"⟩ : MethodName) (head1 (Jvm.Cond.code (⟨"java/lang/Integer", "numberOfLeadingZeros", "(I)I"⟩ : MethodName) jdk_33_method_47_code 2 (some .int) :: ws) ({ frames := 0, cells := 0, slots := 0, locals := 0 } : Room)) (fun a U => a = #[(.int (700 : Int32))] ∧ Z.Warmed39 U.vm ∧ U.heap = h0) (fun _ _ _ _ _ => True) (fun _ U o U' => ∃ v L, o = .returned v ∧ QrmN_700 Z  h0 n0 v U'.heap L ∧ FrameEnd U o U' L ({ frames := 0, cells := 0, slots := 0, locals := 0 } : Room).cells ({ frames := 0, cells := 0, slots := 0, locals := 0 } : Room).slots) := by
  refine MetFree.of_bodySF (plainFor_of_name pn_java_lang_Integer) hisR ?_
  intro p e s m args below meth c s₁ Bd hml0 hP hK
  obtain ⟨rfl, hZ, hh⟩ := hP
  have hx := Bd.exec
  have hby := Bd.bytes
  have hml : c.maxLocals = 2 := hml0
  have hown : s.vm.findClass "java/lang/Integer" = some m.cls := findClass_of_methodNamed Bd.named
  have hnm := (name_of_methodNamed Bd.named Bd.method).1
  have X0 : Stand p l e ({ frames := 0, cells := 0, slots := 0, locals := 0 } : Room) s m #[(.int (700 : Int32))] below meth c s₁ [] 0 0 := Stand.of_body Bd
  have e0 : s₁.heap = h0 := by rw [← hh, Bd.state]; rfl
  have N0 := Fr.nil n0
  have pre0 : ∀ t, Steps p.tables e below (s₁.setTop (mkF m 0 #[.val (.int (700 : Int32)), .unset] [])) t → Steps p.tables e below (s₁.setTop (entryFrame m #[(.int (700 : Int32))] 2)) t := fun t k => castTop (ef_rmN_700 m (700 : Int32)) k
  obtain ⟨fs, hr, hrun, hended, hW, hsame⟩ := X0.leave (v := some (.int (22 : Int32))) (fun h => by rw [Bd.returns] at h; cases h)
  refine ⟨_, _, pre0 _ (?_), hrun, hended, _, _, rfl, ?_, ⟨_, rfl⟩, hW, hsame.mono (by decide) (by decide)⟩
  · show Steps p.tables e below (s₁.setTop (mkF m 0 #[.val (.int (700 : Int32)), .unset] [])) _
    refine XS.iloadN X0.here hx rfl (hb hby d6_0) rfl ?_
    show Steps p.tables e below (s₁.setTop (mkF m 1 #[.val (.int (700 : Int32)), .unset] [(.int (700 : Int32))])) _
    refine XS.ifYes X0.here hx rfl (pc0 := 1) (pc' := 15) rfl (hb hby d6_1) rfl ((if0 _ _).trans (tlt (by decide : (0 : Int32) < (700 : Int32))).2.2.1) (by decide) (by decide) ?_
    show Steps p.tables e below (s₁.setTop (mkF m 15 #[.val (.int (700 : Int32)), .unset] [])) _
    refine XS.bipush X0.here hx rfl (hb hby d6_15) ?_
    show Steps p.tables e below (s₁.setTop (mkF m 17 #[.val (.int (700 : Int32)), .unset] [(.int (31 : Int32))])) _
    refine XS.istoreN X0.here hx rfl (hb hby d6_17) rfl (l' := #[.val (.int (700 : Int32)), .val (.int (31 : Int32))]) rfl ?_
    show Steps p.tables e below (s₁.setTop (mkF m 18 #[.val (.int (700 : Int32)), .val (.int (31 : Int32))] [])) _
    refine XS.iloadN X0.here hx rfl (hb hby d6_18) rfl ?_
    show Steps p.tables e below (s₁.setTop (mkF m 19 #[.val (.int (700 : Int32)), .val (.int (31 : Int32))] [(.int (700 : Int32))])) _
    refine X0.ldcwInt hx hown (mvT hZ (hw _ (List.mem_of_getElem? (i := 35) rfl))) (g := (mkF m 19 #[.val (.int (700 : Int32)), .val (.int (31 : Int32))] [(.int (700 : Int32))])) rfl (hb hby d6_19) _ ?_
    show Steps p.tables e below (s₁.setTop (mkF m 22 #[.val (.int (700 : Int32)), .val (.int (31 : Int32))] [(.int (65536 : Int32)), (.int (700 : Int32))])) _
    refine XS.icmpYes X0.here hx rfl (pc0 := 22) (pc' := 33) rfl (hb hby d6_22) rfl (tlt (by decide : (700 : Int32) < (65536 : Int32))).1 (by decide) (by decide) ?_
    show Steps p.tables e below (s₁.setTop (mkF m 33 #[.val (.int (700 : Int32)), .val (.int (31 : Int32))] [])) _
    refine XS.iloadN X0.here hx rfl (hb hby d6_33) rfl ?_
    show Steps p.tables e below (s₁.setTop (mkF m 34 #[.val (.int (700 : Int32)), .val (.int (31 : Int32))] [(.int (700 : Int32))])) _
    refine XS.sipush X0.here hx rfl (hb hby d6_34) ?_
    show Steps p.tables e below (s₁.setTop (mkF m 37 #[.val (.int (700 : Int32)), .val (.int (31 : Int32))] [(.int (256 : Int32)), (.int (700 : Int32))])) _
    refine XS.icmpNo X0.here hx rfl (hb hby d6_37) rfl (flt (by decide : ¬ ((700 : Int32) < (256 : Int32)))).1 ?_
    show Steps p.tables e below (s₁.setTop (mkF m 40 #[.val (.int (700 : Int32)), .val (.int (31 : Int32))] [])) _
    refine XS.iinc X0.here hx rfl (hb hby d6_40) rfl (l' := #[.val (.int (700 : Int32)), .val (.int (23 : Int32))]) rfl ?_
    show Steps p.tables e below (s₁.setTop (mkF m 43 #[.val (.int (700 : Int32)), .val (.int (23 : Int32))] [])) _
    refine XS.iloadN X0.here hx rfl (hb hby d6_43) rfl ?_
    show Steps p.tables e below (s₁.setTop (mkF m 44 #[.val (.int (700 : Int32)), .val (.int (23 : Int32))] [(.int (700 : Int32))])) _
    refine XS.bipush X0.here hx rfl (hb hby d6_44) ?_
    show Steps p.tables e below (s₁.setTop (mkF m 46 #[.val (.int (700 : Int32)), .val (.int (23 : Int32))] [(.int (8 : Int32)), (.int (700 : Int32))])) _
    refine XS.iushr X0.here hx rfl (hb hby d6_46) rfl ?_
    show Steps p.tables e below (s₁.setTop (mkF m 47 #[.val (.int (700 : Int32)), .val (.int (23 : Int32))] [(.int (2 : Int32))])) _
    refine XS.istoreN X0.here hx rfl (hb hby d6_47) rfl (l' := #[.val (.int (2 : Int32)), .val (.int (23 : Int32))]) rfl ?_
    show Steps p.tables e below (s₁.setTop (mkF m 48 #[.val (.int (2 : Int32)), .val (.int (23 : Int32))] [])) _
    refine XS.iloadN X0.here hx rfl (hb hby d6_48) rfl ?_
    show Steps p.tables e below (s₁.setTop (mkF m 49 #[.val (.int (2 : Int32)), .val (.int (23 : Int32))] [(.int (2 : Int32))])) _
    refine XS.bipush X0.here hx rfl (hb hby d6_49) ?_
    show Steps p.tables e below (s₁.setTop (mkF m 51 #[.val (.int (2 : Int32)), .val (.int (23 : Int32))] [(.int (16 : Int32)), (.int (2 : Int32))])) _
    refine XS.icmpYes X0.here hx rfl (pc0 := 51) (pc' := 61) rfl (hb hby d6_51) rfl (tlt (by decide : (2 : Int32) < (16 : Int32))).1 (by decide) (by decide) ?_
    show Steps p.tables e below (s₁.setTop (mkF m 61 #[.val (.int (2 : Int32)), .val (.int (23 : Int32))] [])) _
    refine XS.iloadN X0.here hx rfl (hb hby d6_61) rfl ?_
    show Steps p.tables e below (s₁.setTop (mkF m 62 #[.val (.int (2 : Int32)), .val (.int (23 : Int32))] [(.int (2 : Int32))])) _
    refine XS.iconst X0.here hx rfl (hb hby d6_62) ?_
    show Steps p.tables e below (s₁.setTop (mkF m 63 #[.val (.int (2 : Int32)), .val (.int (23 : Int32))] [(.int (4 : Int32)), (.int (2 : Int32))])) _
    refine XS.icmpYes X0.here hx rfl (pc0 := 63) (pc' := 73) rfl (hb hby d6_63) rfl (tlt (by decide : (2 : Int32) < (4 : Int32))).1 (by decide) (by decide) ?_
    show Steps p.tables e below (s₁.setTop (mkF m 73 #[.val (.int (2 : Int32)), .val (.int (23 : Int32))] [])) _
    refine XS.iloadN X0.here hx rfl (hb hby d6_73) rfl ?_
    show Steps p.tables e below (s₁.setTop (mkF m 74 #[.val (.int (2 : Int32)), .val (.int (23 : Int32))] [(.int (23 : Int32))])) _
    refine XS.iloadN X0.here hx rfl (hb hby d6_74) rfl ?_
    show Steps p.tables e below (s₁.setTop (mkF m 75 #[.val (.int (2 : Int32)), .val (.int (23 : Int32))] [(.int (2 : Int32)), (.int (23 : Int32))])) _
    refine XS.iconst X0.here hx rfl (hb hby d6_75) ?_
    show Steps p.tables e below (s₁.setTop (mkF m 76 #[.val (.int (2 : Int32)), .val (.int (23 : Int32))] [(.int (1 : Int32)), (.int (2 : Int32)), (.int (23 : Int32))])) _
    refine XS.iushr X0.here hx rfl (hb hby d6_76) rfl ?_
    show Steps p.tables e below (s₁.setTop (mkF m 77 #[.val (.int (2 : Int32)), .val (.int (23 : Int32))] [(.int (1 : Int32)), (.int (23 : Int32))])) _
    refine XS.isub X0.here hx rfl (hb hby d6_77) rfl ?_
    show Steps p.tables e below (s₁.setTop (mkF m 78 #[.val (.int (2 : Int32)), .val (.int (23 : Int32))] [(.int (22 : Int32))])) _
    exact retI X0 hx Bd.returns (hb hby d6_78) hr
  · show QrmN_700 Z  h0 n0 _ s₁.heap _
    rw [e0]
    exact ⟨rfl, N0, rfl⟩
theorem d5_0 : decode jdk_33_method_45_code 0 = .ok (.iload_n 0, 1) := by decide +kernel
theorem d5_1 : decode jdk_33_method_45_code 1 = .ok (.ldc 127, 2) := by decide +kernel
theorem d5_3 : decode jdk_33_method_45_code 3 = .ok (.iload_n 0, 1) := by decide +kernel
theorem d5_4 : decode jdk_33_method_45_code 4 = .ok (.invokestatic 51, 3) := by decide +kernel
theorem d5_7 : decode jdk_33_method_45_code 7 = .ok (.iushr, 1) := by decide +kernel
theorem d5_8 : decode jdk_33_method_45_code 8 = .ok (.iand, 1) := by decide +kernel
theorem d5_9 : decode jdk_33_method_45_code 9 = .ok (.ireturn, 1) := by decide +kernel
theorem pd__28I_29I : parseMethodDescriptor "(I)I" = some ⟨[.int], some .int⟩ := by decide +kernel
theorem ef_rmH_257 (m : MethodId) (x0 : Int32) : entryFrame m #[(.int x0)] 1 = mkF m 0 #[.val (.int x0)] [] := by first | (simp [entryFrame, mkF, argsToLocals, Value.category]; done) | rfl
def QrmH_257 (Z : State)  (h0 : Heap) (n0 : Nat) (v : Option Value) (h : Heap) (L : List Loc) : Prop := v = some (.int (256 : Int32)) ∧ Fr n0 L ∧ h = h0
set_option maxRecDepth 65536 in
set_option maxHeartbeats 40000000 in
theorem rmH_257 (l : Launch) (Z : State) (a0 : Array Value) (hw : ∀ d ∈ tables_1, d.before a0 Z = true) (ws : List Jvm.Cond)  (h0 : Heap) (n0 : Nat) (Z0 : n0 ≤ h0.size) :
    MetFree l (⟨"java/lang/Integer", "highestOneBit", "(I)I"⟩ : MethodName) (head1 (Jvm.Cond.code (⟨"java/lang/Integer", "highestOneBit", "(I)I"⟩ : MethodName) jdk_33_method_45_code 1 (some .int) :: ws) ({ frames := 1, cells := 0, slots := 0, locals := 15 } : Room)) (fun a U => a = #[(.int (257 : Int32))] ∧ Z.Warmed39 U.vm ∧ U.heap = h0) (fun _ _ _ _ _ => True) (fun _ U o U' => ∃ v L, o = .returned v ∧ QrmH_257 Z  h0 n0 v U'.heap L ∧ FrameEnd U o U' L ({ frames := 1, cells := 0, slots := 0, locals := 15 } : Room).cells ({ frames := 1, cells := 0, slots := 0, locals := 15 } : Room).slots) := by
  refine MetFree.of_bodySF (plainFor_of_name pn_java_lang_Integer) hisR ?_
  intro p e s m args below meth c s₁ Bd hml0 hP hK
  obtain ⟨rfl, hZ, hh⟩ := hP
  have hx := Bd.exec
  have hby := Bd.bytes
  have hml : c.maxLocals = 1 := hml0
  have hown : s.vm.findClass "java/lang/Integer" = some m.cls := findClass_of_methodNamed Bd.named
  have hnm := (name_of_methodNamed Bd.named Bd.method).1
  have X0 : Stand p l e ({ frames := 1, cells := 0, slots := 0, locals := 15 } : Room) s m #[(.int (257 : Int32))] below meth c s₁ [] 0 0 := Stand.of_body Bd
  have e0 : s₁.heap = h0 := by rw [← hh, Bd.state]; rfl
  have N0 := Fr.nil n0
  have pre0 : ∀ t, Steps p.tables e below (s₁.setTop (mkF m 0 #[.val (.int (257 : Int32))] [])) t → Steps p.tables e below (s₁.setTop (entryFrame m #[(.int (257 : Int32))] 1)) t := fun t k => castTop (ef_rmH_257 m (257 : Int32)) k
  obtain ⟨_, _, ⟨T1, L1, k1, n1⟩, -, X1, ⟨Lc1, hQ1, l1, y1, z1⟩, st1⟩ := Jvm.LawKit.callS X0 hx (y := (⟨"java/lang/Integer", "numberOfLeadingZeros", "(I)I"⟩ : MethodName)) hown (mvT hZ (hw _ (List.mem_of_getElem? (i := 32) rfl))) (mvT hZ (hw _ (List.mem_of_getElem? (i := 33) rfl))) (mvT hZ (hw _ (List.mem_of_getElem? (i := 29) rfl))) (mvT hZ (hw _ (List.mem_of_getElem? (i := 34) rfl))) (by decide) (backOf (W := 2) (rmN_257 l Z a0 hw [] h0 n0 Z0) hZ (hw _ (List.mem_of_getElem? (i := 34) rfl)) (hw _ (List.mem_of_getElem? (i := 29) rfl)) (by decide) (by decide)) (g := (mkF m 4 #[.val (.int (257 : Int32))] [(.int (257 : Int32)), (.int (-2147483648 : Int32)), (.int (257 : Int32))])) rfl (by rw [hml]; rfl) (argsL := [(.int (257 : Int32))]) (rest := [(.int (-2147483648 : Int32)), (.int (257 : Int32))]) (lenOf pd__28I_29I rfl) rfl (by show 2 * 0 + _ ≤ _; exact Nat.le_of_eq rfl) (hb hby d5_4) (fun _ _ => ⟨rfl, e0, (by decide : 0 + 0 ≤ _), (by decide : 0 + 0 ≤ _)⟩)
  dsimp only [Pt.U, Pt.locs, Pt.cells, Pt.slots] at X1 l1 y1 z1 st1 hQ1
  subst l1 y1 z1
  obtain ⟨rfl, N1q, e1⟩ := hQ1
  have N1 := Fr.app N0 N1q
  obtain ⟨fs, hr, hrun, hended, hW, hsame⟩ := X1.leave (v := some (.int (256 : Int32))) (fun h => by rw [Bd.returns] at h; cases h)
  refine ⟨_, _, pre0 _ (?_), hrun, hended, _, _, rfl, ?_, ⟨_, rfl⟩, hW, hsame.mono (by decide) (by decide)⟩
  · show Steps p.tables e below (s₁.setTop (mkF m 0 #[.val (.int (257 : Int32))] [])) _
    refine XS.iloadN X0.here hx rfl (hb hby d5_0) rfl ?_
    show Steps p.tables e below (s₁.setTop (mkF m 1 #[.val (.int (257 : Int32))] [(.int (257 : Int32))])) _
    refine X0.ldcInt hx hown (mvT hZ (hw _ (List.mem_of_getElem? (i := 31) rfl))) (g := (mkF m 1 #[.val (.int (257 : Int32))] [(.int (257 : Int32))])) rfl (hb hby d5_1) _ ?_
    show Steps p.tables e below (s₁.setTop (mkF m 3 #[.val (.int (257 : Int32))] [(.int (-2147483648 : Int32)), (.int (257 : Int32))])) _
    refine XS.iloadN X0.here hx rfl (hb hby d5_3) rfl ?_
    show Steps p.tables e below (s₁.setTop (mkF m 4 #[.val (.int (257 : Int32))] [(.int (257 : Int32)), (.int (-2147483648 : Int32)), (.int (257 : Int32))])) _
    refine st1 _ ?_
    show Steps p.tables e below (T1.setTop (mkF m 7 #[.val (.int (257 : Int32))] [(.int (23 : Int32)), (.int (-2147483648 : Int32)), (.int (257 : Int32))])) _
    refine XS.iushr X1.here hx rfl (hb hby d5_7) rfl ?_
    show Steps p.tables e below (T1.setTop (mkF m 8 #[.val (.int (257 : Int32))] [(.int (256 : Int32)), (.int (257 : Int32))])) _
    refine XS.iand X1.here hx rfl (hb hby d5_8) rfl ?_
    show Steps p.tables e below (T1.setTop (mkF m 9 #[.val (.int (257 : Int32))] [(.int (256 : Int32))])) _
    exact retI X1 hx Bd.returns (hb hby d5_9) hr
  · show QrmH_257 Z  h0 n0 _ T1.heap _
    rw [e1]
    exact ⟨rfl, N1, rfl⟩
theorem ef_rmH_512 (m : MethodId) (x0 : Int32) : entryFrame m #[(.int x0)] 1 = mkF m 0 #[.val (.int x0)] [] := by first | (simp [entryFrame, mkF, argsToLocals, Value.category]; done) | rfl
def QrmH_512 (Z : State)  (h0 : Heap) (n0 : Nat) (v : Option Value) (h : Heap) (L : List Loc) : Prop := v = some (.int (512 : Int32)) ∧ Fr n0 L ∧ h = h0
set_option maxRecDepth 65536 in
set_option maxHeartbeats 40000000 in
theorem rmH_512 (l : Launch) (Z : State) (a0 : Array Value) (hw : ∀ d ∈ tables_1, d.before a0 Z = true) (ws : List Jvm.Cond)  (h0 : Heap) (n0 : Nat) (Z0 : n0 ≤ h0.size) :
    MetFree l (⟨"java/lang/Integer", "highestOneBit", "(I)I"⟩ : MethodName) (head1 (Jvm.Cond.code (⟨"java/lang/Integer", "highestOneBit", "(I)I"⟩ : MethodName) jdk_33_method_45_code 1 (some .int) :: ws) ({ frames := 1, cells := 0, slots := 0, locals := 15 } : Room)) (fun a U => a = #[(.int (512 : Int32))] ∧ Z.Warmed39 U.vm ∧ U.heap = h0) (fun _ _ _ _ _ => True) (fun _ U o U' => ∃ v L, o = .returned v ∧ QrmH_512 Z  h0 n0 v U'.heap L ∧ FrameEnd U o U' L ({ frames := 1, cells := 0, slots := 0, locals := 15 } : Room).cells ({ frames := 1, cells := 0, slots := 0, locals := 15 } : Room).slots) := by
  refine MetFree.of_bodySF (plainFor_of_name pn_java_lang_Integer) hisR ?_
  intro p e s m args below meth c s₁ Bd hml0 hP hK
  obtain ⟨rfl, hZ, hh⟩ := hP
  have hx := Bd.exec
  have hby := Bd.bytes
  have hml : c.maxLocals = 1 := hml0
  have hown : s.vm.findClass "java/lang/Integer" = some m.cls := findClass_of_methodNamed Bd.named
  have hnm := (name_of_methodNamed Bd.named Bd.method).1
  have X0 : Stand p l e ({ frames := 1, cells := 0, slots := 0, locals := 15 } : Room) s m #[(.int (512 : Int32))] below meth c s₁ [] 0 0 := Stand.of_body Bd
  have e0 : s₁.heap = h0 := by rw [← hh, Bd.state]; rfl
  have N0 := Fr.nil n0
  have pre0 : ∀ t, Steps p.tables e below (s₁.setTop (mkF m 0 #[.val (.int (512 : Int32))] [])) t → Steps p.tables e below (s₁.setTop (entryFrame m #[(.int (512 : Int32))] 1)) t := fun t k => castTop (ef_rmH_512 m (512 : Int32)) k
  obtain ⟨_, _, ⟨T1, L1, k1, n1⟩, -, X1, ⟨Lc1, hQ1, l1, y1, z1⟩, st1⟩ := Jvm.LawKit.callS X0 hx (y := (⟨"java/lang/Integer", "numberOfLeadingZeros", "(I)I"⟩ : MethodName)) hown (mvT hZ (hw _ (List.mem_of_getElem? (i := 32) rfl))) (mvT hZ (hw _ (List.mem_of_getElem? (i := 33) rfl))) (mvT hZ (hw _ (List.mem_of_getElem? (i := 29) rfl))) (mvT hZ (hw _ (List.mem_of_getElem? (i := 34) rfl))) (by decide) (backOf (W := 2) (rmN_512 l Z a0 hw [] h0 n0 Z0) hZ (hw _ (List.mem_of_getElem? (i := 34) rfl)) (hw _ (List.mem_of_getElem? (i := 29) rfl)) (by decide) (by decide)) (g := (mkF m 4 #[.val (.int (512 : Int32))] [(.int (512 : Int32)), (.int (-2147483648 : Int32)), (.int (512 : Int32))])) rfl (by rw [hml]; rfl) (argsL := [(.int (512 : Int32))]) (rest := [(.int (-2147483648 : Int32)), (.int (512 : Int32))]) (lenOf pd__28I_29I rfl) rfl (by show 2 * 0 + _ ≤ _; exact Nat.le_of_eq rfl) (hb hby d5_4) (fun _ _ => ⟨rfl, e0, (by decide : 0 + 0 ≤ _), (by decide : 0 + 0 ≤ _)⟩)
  dsimp only [Pt.U, Pt.locs, Pt.cells, Pt.slots] at X1 l1 y1 z1 st1 hQ1
  subst l1 y1 z1
  obtain ⟨rfl, N1q, e1⟩ := hQ1
  have N1 := Fr.app N0 N1q
  obtain ⟨fs, hr, hrun, hended, hW, hsame⟩ := X1.leave (v := some (.int (512 : Int32))) (fun h => by rw [Bd.returns] at h; cases h)
  refine ⟨_, _, pre0 _ (?_), hrun, hended, _, _, rfl, ?_, ⟨_, rfl⟩, hW, hsame.mono (by decide) (by decide)⟩
  · show Steps p.tables e below (s₁.setTop (mkF m 0 #[.val (.int (512 : Int32))] [])) _
    refine XS.iloadN X0.here hx rfl (hb hby d5_0) rfl ?_
    show Steps p.tables e below (s₁.setTop (mkF m 1 #[.val (.int (512 : Int32))] [(.int (512 : Int32))])) _
    refine X0.ldcInt hx hown (mvT hZ (hw _ (List.mem_of_getElem? (i := 31) rfl))) (g := (mkF m 1 #[.val (.int (512 : Int32))] [(.int (512 : Int32))])) rfl (hb hby d5_1) _ ?_
    show Steps p.tables e below (s₁.setTop (mkF m 3 #[.val (.int (512 : Int32))] [(.int (-2147483648 : Int32)), (.int (512 : Int32))])) _
    refine XS.iloadN X0.here hx rfl (hb hby d5_3) rfl ?_
    show Steps p.tables e below (s₁.setTop (mkF m 4 #[.val (.int (512 : Int32))] [(.int (512 : Int32)), (.int (-2147483648 : Int32)), (.int (512 : Int32))])) _
    refine st1 _ ?_
    show Steps p.tables e below (T1.setTop (mkF m 7 #[.val (.int (512 : Int32))] [(.int (22 : Int32)), (.int (-2147483648 : Int32)), (.int (512 : Int32))])) _
    refine XS.iushr X1.here hx rfl (hb hby d5_7) rfl ?_
    show Steps p.tables e below (T1.setTop (mkF m 8 #[.val (.int (512 : Int32))] [(.int (512 : Int32)), (.int (512 : Int32))])) _
    refine XS.iand X1.here hx rfl (hb hby d5_8) rfl ?_
    show Steps p.tables e below (T1.setTop (mkF m 9 #[.val (.int (512 : Int32))] [(.int (512 : Int32))])) _
    exact retI X1 hx Bd.returns (hb hby d5_9) hr
  · show QrmH_512 Z  h0 n0 _ T1.heap _
    rw [e1]
    exact ⟨rfl, N1, rfl⟩
theorem ef_rmH_700 (m : MethodId) (x0 : Int32) : entryFrame m #[(.int x0)] 1 = mkF m 0 #[.val (.int x0)] [] := by first | (simp [entryFrame, mkF, argsToLocals, Value.category]; done) | rfl
def QrmH_700 (Z : State)  (h0 : Heap) (n0 : Nat) (v : Option Value) (h : Heap) (L : List Loc) : Prop := v = some (.int (512 : Int32)) ∧ Fr n0 L ∧ h = h0
set_option maxRecDepth 65536 in
set_option maxHeartbeats 40000000 in
theorem rmH_700 (l : Launch) (Z : State) (a0 : Array Value) (hw : ∀ d ∈ tables_1, d.before a0 Z = true) (ws : List Jvm.Cond)  (h0 : Heap) (n0 : Nat) (Z0 : n0 ≤ h0.size) :
    MetFree l (⟨"java/lang/Integer", "highestOneBit", "(I)I"⟩ : MethodName) (head1 (Jvm.Cond.code (⟨"java/lang/Integer", "highestOneBit", "(I)I"⟩ : MethodName) jdk_33_method_45_code 1 (some .int) :: ws) ({ frames := 1, cells := 0, slots := 0, locals := 15 } : Room)) (fun a U => a = #[(.int (700 : Int32))] ∧ Z.Warmed39 U.vm ∧ U.heap = h0) (fun _ _ _ _ _ => True) (fun _ U o U' => ∃ v L, o = .returned v ∧ QrmH_700 Z  h0 n0 v U'.heap L ∧ FrameEnd U o U' L ({ frames := 1, cells := 0, slots := 0, locals := 15 } : Room).cells ({ frames := 1, cells := 0, slots := 0, locals := 15 } : Room).slots) := by
  refine MetFree.of_bodySF (plainFor_of_name pn_java_lang_Integer) hisR ?_
  intro p e s m args below meth c s₁ Bd hml0 hP hK
  obtain ⟨rfl, hZ, hh⟩ := hP
  have hx := Bd.exec
  have hby := Bd.bytes
  have hml : c.maxLocals = 1 := hml0
  have hown : s.vm.findClass "java/lang/Integer" = some m.cls := findClass_of_methodNamed Bd.named
  have hnm := (name_of_methodNamed Bd.named Bd.method).1
  have X0 : Stand p l e ({ frames := 1, cells := 0, slots := 0, locals := 15 } : Room) s m #[(.int (700 : Int32))] below meth c s₁ [] 0 0 := Stand.of_body Bd
  have e0 : s₁.heap = h0 := by rw [← hh, Bd.state]; rfl
  have N0 := Fr.nil n0
  have pre0 : ∀ t, Steps p.tables e below (s₁.setTop (mkF m 0 #[.val (.int (700 : Int32))] [])) t → Steps p.tables e below (s₁.setTop (entryFrame m #[(.int (700 : Int32))] 1)) t := fun t k => castTop (ef_rmH_700 m (700 : Int32)) k
  obtain ⟨_, _, ⟨T1, L1, k1, n1⟩, -, X1, ⟨Lc1, hQ1, l1, y1, z1⟩, st1⟩ := Jvm.LawKit.callS X0 hx (y := (⟨"java/lang/Integer", "numberOfLeadingZeros", "(I)I"⟩ : MethodName)) hown (mvT hZ (hw _ (List.mem_of_getElem? (i := 32) rfl))) (mvT hZ (hw _ (List.mem_of_getElem? (i := 33) rfl))) (mvT hZ (hw _ (List.mem_of_getElem? (i := 29) rfl))) (mvT hZ (hw _ (List.mem_of_getElem? (i := 34) rfl))) (by decide) (backOf (W := 2) (rmN_700 l Z a0 hw [] h0 n0 Z0) hZ (hw _ (List.mem_of_getElem? (i := 34) rfl)) (hw _ (List.mem_of_getElem? (i := 29) rfl)) (by decide) (by decide)) (g := (mkF m 4 #[.val (.int (700 : Int32))] [(.int (700 : Int32)), (.int (-2147483648 : Int32)), (.int (700 : Int32))])) rfl (by rw [hml]; rfl) (argsL := [(.int (700 : Int32))]) (rest := [(.int (-2147483648 : Int32)), (.int (700 : Int32))]) (lenOf pd__28I_29I rfl) rfl (by show 2 * 0 + _ ≤ _; exact Nat.le_of_eq rfl) (hb hby d5_4) (fun _ _ => ⟨rfl, e0, (by decide : 0 + 0 ≤ _), (by decide : 0 + 0 ≤ _)⟩)
  dsimp only [Pt.U, Pt.locs, Pt.cells, Pt.slots] at X1 l1 y1 z1 st1 hQ1
  subst l1 y1 z1
  obtain ⟨rfl, N1q, e1⟩ := hQ1
  have N1 := Fr.app N0 N1q
  obtain ⟨fs, hr, hrun, hended, hW, hsame⟩ := X1.leave (v := some (.int (512 : Int32))) (fun h => by rw [Bd.returns] at h; cases h)
  refine ⟨_, _, pre0 _ (?_), hrun, hended, _, _, rfl, ?_, ⟨_, rfl⟩, hW, hsame.mono (by decide) (by decide)⟩
  · show Steps p.tables e below (s₁.setTop (mkF m 0 #[.val (.int (700 : Int32))] [])) _
    refine XS.iloadN X0.here hx rfl (hb hby d5_0) rfl ?_
    show Steps p.tables e below (s₁.setTop (mkF m 1 #[.val (.int (700 : Int32))] [(.int (700 : Int32))])) _
    refine X0.ldcInt hx hown (mvT hZ (hw _ (List.mem_of_getElem? (i := 31) rfl))) (g := (mkF m 1 #[.val (.int (700 : Int32))] [(.int (700 : Int32))])) rfl (hb hby d5_1) _ ?_
    show Steps p.tables e below (s₁.setTop (mkF m 3 #[.val (.int (700 : Int32))] [(.int (-2147483648 : Int32)), (.int (700 : Int32))])) _
    refine XS.iloadN X0.here hx rfl (hb hby d5_3) rfl ?_
    show Steps p.tables e below (s₁.setTop (mkF m 4 #[.val (.int (700 : Int32))] [(.int (700 : Int32)), (.int (-2147483648 : Int32)), (.int (700 : Int32))])) _
    refine st1 _ ?_
    show Steps p.tables e below (T1.setTop (mkF m 7 #[.val (.int (700 : Int32))] [(.int (22 : Int32)), (.int (-2147483648 : Int32)), (.int (700 : Int32))])) _
    refine XS.iushr X1.here hx rfl (hb hby d5_7) rfl ?_
    show Steps p.tables e below (T1.setTop (mkF m 8 #[.val (.int (700 : Int32))] [(.int (512 : Int32)), (.int (700 : Int32))])) _
    refine XS.iand X1.here hx rfl (hb hby d5_8) rfl ?_
    show Steps p.tables e below (T1.setTop (mkF m 9 #[.val (.int (700 : Int32))] [(.int (512 : Int32))])) _
    exact retI X1 hx Bd.returns (hb hby d5_9) hr
  · show QrmH_700 Z  h0 n0 _ T1.heap _
    rw [e1]
    exact ⟨rfl, N1, rfl⟩
theorem d1_0 : decode prog_77_method_1_code 0 = .ok (.aload_n 0, 1) := by decide +kernel
theorem d1_1 : decode prog_77_method_1_code 1 = .ok (.invokespecial 1, 3) := by decide +kernel
theorem d1_4 : decode prog_77_method_1_code 4 = .ok (.iload_n 1, 1) := by decide +kernel
theorem d1_5 : decode prog_77_method_1_code 5 = .ok (.sipush 256, 3) := by decide +kernel
theorem d1_8 : decode prog_77_method_1_code 8 = .ok (.if_icmp .gt 11, 3) := by decide +kernel
theorem d1_11 : decode prog_77_method_1_code 11 = .ok (.aload_n 0, 1) := by decide +kernel
theorem d1_12 : decode prog_77_method_1_code 12 = .ok (.iconst 0, 1) := by decide +kernel
theorem d1_13 : decode prog_77_method_1_code 13 = .ok (.putfield 9, 3) := by decide +kernel
theorem d1_16 : decode prog_77_method_1_code 16 = .ok (.goto 25, 3) := by decide +kernel
theorem d1_41 : decode prog_77_method_1_code 41 = .ok (.aload_n 0, 1) := by decide +kernel
theorem d1_42 : decode prog_77_method_1_code 42 = .ok (.aload_n 0, 1) := by decide +kernel
theorem d1_43 : decode prog_77_method_1_code 43 = .ok (.getfield 9, 3) := by decide +kernel
theorem d1_46 : decode prog_77_method_1_code 46 = .ok (.ifCond .ne 7, 3) := by decide +kernel
theorem d1_49 : decode prog_77_method_1_code 49 = .ok (.iload_n 1, 1) := by decide +kernel
theorem d1_50 : decode prog_77_method_1_code 50 = .ok (.goto 7, 3) := by decide +kernel
theorem d1_57 : decode prog_77_method_1_code 57 = .ok (.iconst 1, 1) := by decide +kernel
theorem d1_58 : decode prog_77_method_1_code 58 = .ok (.iadd, 1) := by decide +kernel
theorem d1_59 : decode prog_77_method_1_code 59 = .ok (.newarray .int, 2) := by decide +kernel
theorem d1_61 : decode prog_77_method_1_code 61 = .ok (.putfield 19, 3) := by decide +kernel
theorem d1_64 : decode prog_77_method_1_code 64 = .ok (.return_, 1) := by decide +kernel
theorem pn_com_example_ebbtide_ebbtide_cluster_PlaceCounts : plainName "com/example/ebbtide/ebbtide/cluster/PlaceCounts" = true := by first | (simp [plainName, overriddenIn]; done) | decide +kernel
theorem ef_rmI_256 (m : MethodId) (x0 : Addr) (x1 : Int32) : entryFrame m #[(.ref x0), (.int x1)] 2 = mkF m 0 #[.val (.ref x0), .val (.int x1)] [] := by first | (simp [entryFrame, mkF, argsToLocals, Value.category]; done) | rfl
def QrmI_256 (Z : State) (a1 : Addr) (h0 : Heap) (n0 : Nat) (v : Option Value) (h : Heap) (L : List Loc) : Prop := v = none ∧ Fr n0 L ∧ Keep h0 h [a1] ∧ Exa Z h a1 "com/example/ebbtide/ebbtide/cluster/PlaceCounts" ∧ (∃ b, n0 ≤ b ∧ a1 ≠ b ∧ Fld Z h a1 "com/example/ebbtide/ebbtide/cluster/PlaceCounts" "sums" "[I" (.ref b) ∧ AR Z h b .int 257 (fun _ => (.int (0 : Int32)))) ∧ Fld Z h a1 "com/example/ebbtide/ebbtide/cluster/PlaceCounts" "top" "I" (.int (0 : Int32)) ∧ Fld Z h a1 "com/example/ebbtide/ebbtide/cluster/PlaceCounts" "total" "I" (.int (0 : Int32))
set_option maxRecDepth 65536 in
set_option maxHeartbeats 40000000 in
theorem rmI_256 (l : Launch) (Z : State) (a0 : Array Value) (hw : ∀ d ∈ tables_1, d.before a0 Z = true) (ws : List Jvm.Cond) (a1 : Addr) (h0 : Heap) (n0 : Nat) (Z0 : n0 ≤ h0.size) (E1 : Exa Z h0 a1 "com/example/ebbtide/ebbtide/cluster/PlaceCounts") (F1 : Fld Z h0 a1 "com/example/ebbtide/ebbtide/cluster/PlaceCounts" "sums" "[I" .null) (F2 : Fld Z h0 a1 "com/example/ebbtide/ebbtide/cluster/PlaceCounts" "top" "I" (.int (0 : Int32))) (F3 : Fld Z h0 a1 "com/example/ebbtide/ebbtide/cluster/PlaceCounts" "total" "I" (.int (0 : Int32))) (g_a1 : n0 ≤ a1) :
    MetFree l (⟨"com/example/ebbtide/ebbtide/cluster/PlaceCounts", "<init>", "(I)V"⟩ : MethodName) (head1 (Jvm.Cond.code (⟨"com/example/ebbtide/ebbtide/cluster/PlaceCounts", "<init>", "(I)V"⟩ : MethodName) prog_77_method_1_code 2 none :: ws) ({ frames := 1, cells := 1, slots := 257, locals := 12 } : Room)) (fun a U => a = #[(.ref a1), (.int (256 : Int32))] ∧ Z.Warmed39 U.vm ∧ U.heap = h0) (fun _ _ _ _ _ => True) (fun _ U o U' => ∃ v L, o = .returned v ∧ QrmI_256 Z a1 h0 n0 v U'.heap L ∧ FrameEnd U o U' L ({ frames := 1, cells := 1, slots := 257, locals := 12 } : Room).cells ({ frames := 1, cells := 1, slots := 257, locals := 12 } : Room).slots) := by
  refine MetFree.of_bodySF (plainFor_of_name pn_com_example_ebbtide_ebbtide_cluster_PlaceCounts) hisR ?_
  intro p e s m args below meth c s₁ Bd hml0 hP hK
  obtain ⟨rfl, hZ, hh⟩ := hP
  have hx := Bd.exec
  have hby := Bd.bytes
  have hml : c.maxLocals = 2 := hml0
  have hown : s.vm.findClass "com/example/ebbtide/ebbtide/cluster/PlaceCounts" = some m.cls := findClass_of_methodNamed Bd.named
  have hnm := (name_of_methodNamed Bd.named Bd.method).1
  have X0 : Stand p l e ({ frames := 1, cells := 1, slots := 257, locals := 12 } : Room) s m #[(.ref a1), (.int (256 : Int32))] below meth c s₁ [] 0 0 := Stand.of_body Bd
  have e0 : s₁.heap = h0 := by rw [← hh, Bd.state]; rfl
  have N0 := Fr.nil n0
  have pre0 : ∀ t, Steps p.tables e below (s₁.setTop (mkF m 0 #[.val (.ref a1), .val (.int (256 : Int32))] [])) t → Steps p.tables e below (s₁.setTop (entryFrame m #[(.ref a1), (.int (256 : Int32))] 2)) t := fun t k => castTop (ef_rmI_256 m a1 (256 : Int32)) k
  obtain ⟨T1, X1, e1, st1⟩ := initO X0 hx hZ hown (hw _ (List.mem_of_getElem? (i := 7) rfl)) (hw _ (List.mem_of_getElem? (i := 8) rfl)) (hw _ (List.mem_of_getElem? (i := 9) rfl)) e0 (g := (mkF m 1 #[.val (.ref a1), .val (.int (256 : Int32))] [(.ref a1)])) rfl (by rw [hml]; rfl) rfl (hb hby d1_1) (by decide) (W := 0) (by show 2 * 0 + _ ≤ _; exact Nat.le_of_eq rfl) (by decide)
  obtain ⟨T2, h2, X2, e2, W2, st2⟩ := putF X1 hx hZ hown (host := "") (Or.inl (hw _ (List.mem_of_getElem? (i := 10) rfl))) Via.refl e1 F2 E1 (Or.inr ⟨(hw _ (List.mem_of_getElem? (i := 11) rfl)), rfl, hnm⟩) (hw _ (List.mem_of_getElem? (i := 2) rfl)) (ty := .int) (by decide) rfl rfl (g := (mkF m 13 #[.val (.ref a1), .val (.int (256 : Int32))] [(.int (0 : Int32)), (.ref a1)])) rfl rfl (hb hby d1_13)
  have Fw2 := F2.same W2
  have K2 : Keep h0 h2 [a1] := (Keep.refl h0 [a1]).wr W2 (Or.inl (List.mem_of_getElem? (i := 0) rfl))
  have N2 := Fr.snoc X2 N0 g_a1
  have Z2 : n0 ≤ h2.size := Nat.le_trans Z0 (Keep.of_wr W2).1
  obtain ⟨T3, X3, e3, st3⟩ := getF X2 hx hZ hown (host := "") (Or.inl (hw _ (List.mem_of_getElem? (i := 10) rfl))) Via.refl e2 Fw2 (g := (mkF m 43 #[.val (.ref a1), .val (.int (256 : Int32))] [(.ref a1), (.ref a1)])) rfl rfl (hb hby d1_43)
  obtain ⟨T4, h4, k4, X4, e4, E4, A4, st4⟩ := newP X3 hx hZ (hw _ (List.mem_of_getElem? (i := 12) rfl)) e3 (g := (mkF m 59 #[.val (.ref a1), .val (.int (256 : Int32))] [(.int (257 : Int32)), (.ref a1)])) rfl (hb hby d1_59) rfl (by decide) (cap := 257) (by decide) (by decide) (by decide) (by decide)
  obtain ⟨b4, g4⟩ : ∃ z, z = h2.size := ⟨_, rfl⟩
  rw [← g4] at A4 st4
  have g_b4 : n0 ≤ b4 := Nat.le_trans Z2 (Nat.le_of_eq g4.symm)
  have sz_b4 : h0.size ≤ b4 := (Nat.le_trans K2.1 (Nat.le_of_eq g4.symm))
  have V4 : AR Z h4 b4 .int 257 (fun _ => (.int (0 : Int32))) := (AR.new A4 (by decide) rfl)
  have K4 : Keep h0 h4 [a1] := K2.ext E4
  have Z4 : n0 ≤ h4.size := Nat.le_trans Z2 E4.1
  have f5 := ((F1.other W2 (Or.inr (slot_ne (Or.inr (hw _ (List.mem_of_getElem? (i := 14) rfl))) (Or.inr (hw _ (List.mem_of_getElem? (i := 11) rfl))) (by decide) (t := (.array .int)) (t' := .int) (by decide) (by decide)))).ext E4)
  have f6 := ((E1.wr W2).ext E4)
  obtain ⟨T7, h7, X7, e7, W7, st7⟩ := putF X4 hx hZ hown (host := "") (Or.inl (hw _ (List.mem_of_getElem? (i := 13) rfl))) Via.refl e4 f5 f6 (Or.inr ⟨(hw _ (List.mem_of_getElem? (i := 14) rfl)), rfl, hnm⟩) (hw _ (List.mem_of_getElem? (i := 2) rfl)) (ty := (.array .int)) (by decide) rfl rfl (g := (mkF m 61 #[.val (.ref a1), .val (.int (256 : Int32))] [(.ref b4), (.ref a1)])) rfl rfl (hb hby d1_61)
  have Fw7 := f5.same W7
  have K7 : Keep h0 h7 [a1] := K4.wr W7 (Or.inl (List.mem_of_getElem? (i := 0) rfl))
  have N7 := Fr.snoc X7 N2 g_a1
  have Z7 : n0 ≤ h7.size := Nat.le_trans Z4 (Keep.of_wr W7).1
  obtain ⟨fs, hr, hrun, hended, hW, hsame⟩ := X7.leave (v := none) (fun _ => rfl)
  refine ⟨_, _, pre0 _ (?_), hrun, hended, _, _, rfl, ?_, ⟨_, rfl⟩, hW, hsame.mono (by decide) (by decide)⟩
  · show Steps p.tables e below (s₁.setTop (mkF m 0 #[.val (.ref a1), .val (.int (256 : Int32))] [])) _
    refine XS.aloadN X0.here hx rfl (hb hby d1_0) rfl rfl ?_
    show Steps p.tables e below (s₁.setTop (mkF m 1 #[.val (.ref a1), .val (.int (256 : Int32))] [(.ref a1)])) _
    refine st1 _ ?_
    show Steps p.tables e below (T1.setTop (mkF m 4 #[.val (.ref a1), .val (.int (256 : Int32))] [])) _
    refine XS.iloadN X1.here hx rfl (hb hby d1_4) rfl ?_
    show Steps p.tables e below (T1.setTop (mkF m 5 #[.val (.ref a1), .val (.int (256 : Int32))] [(.int (256 : Int32))])) _
    refine XS.sipush X1.here hx rfl (hb hby d1_5) ?_
    show Steps p.tables e below (T1.setTop (mkF m 8 #[.val (.ref a1), .val (.int (256 : Int32))] [(.int (256 : Int32)), (.int (256 : Int32))])) _
    refine XS.icmpNo X1.here hx rfl (hb hby d1_8) rfl (flt (by decide : ¬ ((256 : Int32) < (256 : Int32)))).2.2.1 ?_
    show Steps p.tables e below (T1.setTop (mkF m 11 #[.val (.ref a1), .val (.int (256 : Int32))] [])) _
    refine XS.aloadN X1.here hx rfl (hb hby d1_11) rfl rfl ?_
    show Steps p.tables e below (T1.setTop (mkF m 12 #[.val (.ref a1), .val (.int (256 : Int32))] [(.ref a1)])) _
    refine XS.iconst X1.here hx rfl (hb hby d1_12) ?_
    show Steps p.tables e below (T1.setTop (mkF m 13 #[.val (.ref a1), .val (.int (256 : Int32))] [(.int (0 : Int32)), (.ref a1)])) _
    refine st2 _ ?_
    show Steps p.tables e below (T2.setTop (mkF m 16 #[.val (.ref a1), .val (.int (256 : Int32))] [])) _
    refine XS.goto X2.here hx rfl (pc0 := 16) (pc' := 41) rfl (hb hby d1_16) (by decide) (by decide) ?_
    show Steps p.tables e below (T2.setTop (mkF m 41 #[.val (.ref a1), .val (.int (256 : Int32))] [])) _
    refine XS.aloadN X2.here hx rfl (hb hby d1_41) rfl rfl ?_
    show Steps p.tables e below (T2.setTop (mkF m 42 #[.val (.ref a1), .val (.int (256 : Int32))] [(.ref a1)])) _
    refine XS.aloadN X2.here hx rfl (hb hby d1_42) rfl rfl ?_
    show Steps p.tables e below (T2.setTop (mkF m 43 #[.val (.ref a1), .val (.int (256 : Int32))] [(.ref a1), (.ref a1)])) _
    refine st3 _ ?_
    show Steps p.tables e below (T3.setTop (mkF m 46 #[.val (.ref a1), .val (.int (256 : Int32))] [(.int (0 : Int32)), (.ref a1)])) _
    refine XS.ifNo X3.here hx rfl (hb hby d1_46) rfl ((if0 _ _).trans (teq (by decide : (0 : Int32) = (0 : Int32))).2) ?_
    show Steps p.tables e below (T3.setTop (mkF m 49 #[.val (.ref a1), .val (.int (256 : Int32))] [(.ref a1)])) _
    refine XS.iloadN X3.here hx rfl (hb hby d1_49) rfl ?_
    show Steps p.tables e below (T3.setTop (mkF m 50 #[.val (.ref a1), .val (.int (256 : Int32))] [(.int (256 : Int32)), (.ref a1)])) _
    refine XS.goto X3.here hx rfl (pc0 := 50) (pc' := 57) rfl (hb hby d1_50) (by decide) (by decide) ?_
    show Steps p.tables e below (T3.setTop (mkF m 57 #[.val (.ref a1), .val (.int (256 : Int32))] [(.int (256 : Int32)), (.ref a1)])) _
    refine XS.iconst X3.here hx rfl (hb hby d1_57) ?_
    show Steps p.tables e below (T3.setTop (mkF m 58 #[.val (.ref a1), .val (.int (256 : Int32))] [(.int (1 : Int32)), (.int (256 : Int32)), (.ref a1)])) _
    refine XS.iadd X3.here hx rfl (hb hby d1_58) rfl ?_
    show Steps p.tables e below (T3.setTop (mkF m 59 #[.val (.ref a1), .val (.int (256 : Int32))] [(.int (257 : Int32)), (.ref a1)])) _
    refine st4 _ ?_
    show Steps p.tables e below (T4.setTop (mkF m 61 #[.val (.ref a1), .val (.int (256 : Int32))] [(.ref b4), (.ref a1)])) _
    refine st7 _ ?_
    show Steps p.tables e below (T7.setTop (mkF m 64 #[.val (.ref a1), .val (.int (256 : Int32))] [])) _
    exact X7.returnOut hx Bd.returns (hb hby d1_64) hr
  have f8 := (f6.wr W7)
  have ne9 : a1 ≠ b4 := (Nat.ne_of_lt (Nat.lt_of_lt_of_le Fw2.lt (Nat.le_of_eq g4.symm)))
  have f10 := (V4.other W7 (Ne.symm ne9))
  have f11 := ((Fw2.ext E4).other W7 (Or.inr (slot_ne (Or.inr (hw _ (List.mem_of_getElem? (i := 11) rfl))) (Or.inr (hw _ (List.mem_of_getElem? (i := 14) rfl))) (by decide) (t := .int) (t' := (.array .int)) (by decide) (by decide))))
  have f12 := (((F3.other W2 (Or.inr (slot_ne (Or.inl (hw _ (List.mem_of_getElem? (i := 21) rfl))) (Or.inr (hw _ (List.mem_of_getElem? (i := 11) rfl))) (by decide) (t := .int) (t' := .int) (by decide) (by decide)))).ext E4).other W7 (Or.inr (slot_ne (Or.inl (hw _ (List.mem_of_getElem? (i := 21) rfl))) (Or.inr (hw _ (List.mem_of_getElem? (i := 14) rfl))) (by decide) (t := .int) (t' := (.array .int)) (by decide) (by decide))))
  · show QrmI_256 Z a1 h0 n0 _ T7.heap _
    rw [e7]
    exact ⟨rfl, N7, K7, f8, ⟨b4, g_b4, ne9, Fw7, f10⟩, f11, f12⟩
theorem d1_19 : decode prog_77_method_1_code 19 = .ok (.aload_n 0, 1) := by decide +kernel
theorem d1_20 : decode prog_77_method_1_code 20 = .ok (.iload_n 1, 1) := by decide +kernel
theorem d1_21 : decode prog_77_method_1_code 21 = .ok (.invokestatic 13, 3) := by decide +kernel
theorem d1_24 : decode prog_77_method_1_code 24 = .ok (.iload_n 1, 1) := by decide +kernel
theorem d1_25 : decode prog_77_method_1_code 25 = .ok (.if_icmp .ne 7, 3) := by decide +kernel
theorem d1_32 : decode prog_77_method_1_code 32 = .ok (.iconst 2, 1) := by decide +kernel
theorem d1_33 : decode prog_77_method_1_code 33 = .ok (.iload_n 1, 1) := by decide +kernel
theorem d1_34 : decode prog_77_method_1_code 34 = .ok (.invokestatic 13, 3) := by decide +kernel
theorem d1_37 : decode prog_77_method_1_code 37 = .ok (.imul, 1) := by decide +kernel
theorem d1_38 : decode prog_77_method_1_code 38 = .ok (.putfield 9, 3) := by decide +kernel
theorem d1_53 : decode prog_77_method_1_code 53 = .ok (.aload_n 0, 1) := by decide +kernel
theorem d1_54 : decode prog_77_method_1_code 54 = .ok (.getfield 9, 3) := by decide +kernel
theorem ef_rmI_257 (m : MethodId) (x0 : Addr) (x1 : Int32) : entryFrame m #[(.ref x0), (.int x1)] 2 = mkF m 0 #[.val (.ref x0), .val (.int x1)] [] := by first | (simp [entryFrame, mkF, argsToLocals, Value.category]; done) | rfl
def QrmI_257 (Z : State) (a1 : Addr) (h0 : Heap) (n0 : Nat) (v : Option Value) (h : Heap) (L : List Loc) : Prop := v = none ∧ Fr n0 L ∧ Keep h0 h [a1] ∧ Exa Z h a1 "com/example/ebbtide/ebbtide/cluster/PlaceCounts" ∧ (∃ b, n0 ≤ b ∧ a1 ≠ b ∧ Fld Z h a1 "com/example/ebbtide/ebbtide/cluster/PlaceCounts" "sums" "[I" (.ref b) ∧ AR Z h b .int 513 (fun _ => (.int (0 : Int32)))) ∧ Fld Z h a1 "com/example/ebbtide/ebbtide/cluster/PlaceCounts" "top" "I" (.int (512 : Int32)) ∧ Fld Z h a1 "com/example/ebbtide/ebbtide/cluster/PlaceCounts" "total" "I" (.int (0 : Int32))
set_option maxRecDepth 65536 in
set_option maxHeartbeats 40000000 in
theorem rmI_257 (l : Launch) (Z : State) (a0 : Array Value) (hw : ∀ d ∈ tables_1, d.before a0 Z = true) (ws : List Jvm.Cond) (a1 : Addr) (h0 : Heap) (n0 : Nat) (Z0 : n0 ≤ h0.size) (E1 : Exa Z h0 a1 "com/example/ebbtide/ebbtide/cluster/PlaceCounts") (F1 : Fld Z h0 a1 "com/example/ebbtide/ebbtide/cluster/PlaceCounts" "sums" "[I" .null) (F2 : Fld Z h0 a1 "com/example/ebbtide/ebbtide/cluster/PlaceCounts" "top" "I" (.int (0 : Int32))) (F3 : Fld Z h0 a1 "com/example/ebbtide/ebbtide/cluster/PlaceCounts" "total" "I" (.int (0 : Int32))) (g_a1 : n0 ≤ a1) :
    MetFree l (⟨"com/example/ebbtide/ebbtide/cluster/PlaceCounts", "<init>", "(I)V"⟩ : MethodName) (head1 (Jvm.Cond.code (⟨"com/example/ebbtide/ebbtide/cluster/PlaceCounts", "<init>", "(I)V"⟩ : MethodName) prog_77_method_1_code 2 none :: ws) ({ frames := 2, cells := 1, slots := 513, locals := 29 } : Room)) (fun a U => a = #[(.ref a1), (.int (257 : Int32))] ∧ Z.Warmed39 U.vm ∧ U.heap = h0) (fun _ _ _ _ _ => True) (fun _ U o U' => ∃ v L, o = .returned v ∧ QrmI_257 Z a1 h0 n0 v U'.heap L ∧ FrameEnd U o U' L ({ frames := 2, cells := 1, slots := 513, locals := 29 } : Room).cells ({ frames := 2, cells := 1, slots := 513, locals := 29 } : Room).slots) := by
  refine MetFree.of_bodySF (plainFor_of_name pn_com_example_ebbtide_ebbtide_cluster_PlaceCounts) hisR ?_
  intro p e s m args below meth c s₁ Bd hml0 hP hK
  obtain ⟨rfl, hZ, hh⟩ := hP
  have hx := Bd.exec
  have hby := Bd.bytes
  have hml : c.maxLocals = 2 := hml0
  have hown : s.vm.findClass "com/example/ebbtide/ebbtide/cluster/PlaceCounts" = some m.cls := findClass_of_methodNamed Bd.named
  have hnm := (name_of_methodNamed Bd.named Bd.method).1
  have X0 : Stand p l e ({ frames := 2, cells := 1, slots := 513, locals := 29 } : Room) s m #[(.ref a1), (.int (257 : Int32))] below meth c s₁ [] 0 0 := Stand.of_body Bd
  have e0 : s₁.heap = h0 := by rw [← hh, Bd.state]; rfl
  have N0 := Fr.nil n0
  have pre0 : ∀ t, Steps p.tables e below (s₁.setTop (mkF m 0 #[.val (.ref a1), .val (.int (257 : Int32))] [])) t → Steps p.tables e below (s₁.setTop (entryFrame m #[(.ref a1), (.int (257 : Int32))] 2)) t := fun t k => castTop (ef_rmI_257 m a1 (257 : Int32)) k
  obtain ⟨T1, X1, e1, st1⟩ := initO X0 hx hZ hown (hw _ (List.mem_of_getElem? (i := 7) rfl)) (hw _ (List.mem_of_getElem? (i := 8) rfl)) (hw _ (List.mem_of_getElem? (i := 9) rfl)) e0 (g := (mkF m 1 #[.val (.ref a1), .val (.int (257 : Int32))] [(.ref a1)])) rfl (by rw [hml]; rfl) rfl (hb hby d1_1) (by decide) (W := 0) (by show 2 * 0 + _ ≤ _; exact Nat.le_of_eq rfl) (by decide)
  obtain ⟨_, _, ⟨T2, L2, k2, n2⟩, -, X2, ⟨Lc2, hQ2, l2, y2, z2⟩, st2⟩ := Jvm.LawKit.callS X1 hx (y := (⟨"java/lang/Integer", "highestOneBit", "(I)I"⟩ : MethodName)) hown (mvT hZ (hw _ (List.mem_of_getElem? (i := 27) rfl))) (mvT hZ (hw _ (List.mem_of_getElem? (i := 28) rfl))) (mvT hZ (hw _ (List.mem_of_getElem? (i := 29) rfl))) (mvT hZ (hw _ (List.mem_of_getElem? (i := 30) rfl))) (by decide) (backOf (W := 1) (rmH_257 l Z a0 hw [] h0 n0 Z0) hZ (hw _ (List.mem_of_getElem? (i := 30) rfl)) (hw _ (List.mem_of_getElem? (i := 29) rfl)) (by decide) (by decide)) (g := (mkF m 21 #[.val (.ref a1), .val (.int (257 : Int32))] [(.int (257 : Int32)), (.ref a1)])) rfl (by rw [hml]; rfl) (argsL := [(.int (257 : Int32))]) (rest := [(.ref a1)]) (lenOf pd__28I_29I rfl) rfl (by show 2 * 0 + _ ≤ _; exact Nat.le_of_eq rfl) (hb hby d1_21) (fun _ _ => ⟨rfl, e1, (by decide : 0 + 0 ≤ _), (by decide : 0 + 0 ≤ _)⟩)
  dsimp only [Pt.U, Pt.locs, Pt.cells, Pt.slots] at X2 l2 y2 z2 st2 hQ2
  subst l2 y2 z2
  obtain ⟨rfl, N2q, e2⟩ := hQ2
  have N2 := Fr.app N0 N2q
  obtain ⟨_, _, ⟨T3, L3, k3, n3⟩, -, X3, ⟨Lc3, hQ3, l3, y3, z3⟩, st3⟩ := Jvm.LawKit.callS X2 hx (y := (⟨"java/lang/Integer", "highestOneBit", "(I)I"⟩ : MethodName)) hown (mvT hZ (hw _ (List.mem_of_getElem? (i := 27) rfl))) (mvT hZ (hw _ (List.mem_of_getElem? (i := 28) rfl))) (mvT hZ (hw _ (List.mem_of_getElem? (i := 29) rfl))) (mvT hZ (hw _ (List.mem_of_getElem? (i := 30) rfl))) (by decide) (backOf (W := 2) (rmH_257 l Z a0 hw [] h0 n0 Z0) hZ (hw _ (List.mem_of_getElem? (i := 30) rfl)) (hw _ (List.mem_of_getElem? (i := 29) rfl)) (by decide) (by decide)) (g := (mkF m 34 #[.val (.ref a1), .val (.int (257 : Int32))] [(.int (257 : Int32)), (.int (2 : Int32)), (.ref a1)])) rfl (by rw [hml]; rfl) (argsL := [(.int (257 : Int32))]) (rest := [(.int (2 : Int32)), (.ref a1)]) (lenOf pd__28I_29I rfl) rfl (by show 2 * 0 + _ ≤ _; exact Nat.le_of_eq rfl) (hb hby d1_34) (fun _ _ => ⟨rfl, e2, (by decide : 0 + 0 ≤ _), (by decide : 0 + 0 ≤ _)⟩)
  dsimp only [Pt.U, Pt.locs, Pt.cells, Pt.slots] at X3 l3 y3 z3 st3 hQ3
  subst l3 y3 z3
  obtain ⟨rfl, N3q, e3⟩ := hQ3
  have N3 := Fr.app N2 N3q
  obtain ⟨T4, h4, X4, e4, W4, st4⟩ := putF X3 hx hZ hown (host := "") (Or.inl (hw _ (List.mem_of_getElem? (i := 10) rfl))) Via.refl e3 F2 E1 (Or.inr ⟨(hw _ (List.mem_of_getElem? (i := 11) rfl)), rfl, hnm⟩) (hw _ (List.mem_of_getElem? (i := 2) rfl)) (ty := .int) (by decide) rfl rfl (g := (mkF m 38 #[.val (.ref a1), .val (.int (257 : Int32))] [(.int (512 : Int32)), (.ref a1)])) rfl rfl (hb hby d1_38)
  have Fw4 := F2.same W4
  have K4 : Keep h0 h4 [a1] := (Keep.refl h0 [a1]).wr W4 (Or.inl (List.mem_of_getElem? (i := 0) rfl))
  have N4 := Fr.snoc X4 N3 g_a1
  have Z4 : n0 ≤ h4.size := Nat.le_trans Z0 (Keep.of_wr W4).1
  obtain ⟨T5, X5, e5, st5⟩ := getF X4 hx hZ hown (host := "") (Or.inl (hw _ (List.mem_of_getElem? (i := 10) rfl))) Via.refl e4 Fw4 (g := (mkF m 43 #[.val (.ref a1), .val (.int (257 : Int32))] [(.ref a1), (.ref a1)])) rfl rfl (hb hby d1_43)
  obtain ⟨T6, X6, e6, st6⟩ := getF X5 hx hZ hown (host := "") (Or.inl (hw _ (List.mem_of_getElem? (i := 10) rfl))) Via.refl e5 Fw4 (g := (mkF m 54 #[.val (.ref a1), .val (.int (257 : Int32))] [(.ref a1), (.ref a1)])) rfl rfl (hb hby d1_54)
  obtain ⟨T7, h7, k7, X7, e7, E7, A7, st7⟩ := newP X6 hx hZ (hw _ (List.mem_of_getElem? (i := 12) rfl)) e6 (g := (mkF m 59 #[.val (.ref a1), .val (.int (257 : Int32))] [(.int (513 : Int32)), (.ref a1)])) rfl (hb hby d1_59) rfl (by decide) (cap := 513) (by decide) (by decide) (by decide) (by decide)
  obtain ⟨b7, g7⟩ : ∃ z, z = h4.size := ⟨_, rfl⟩
  rw [← g7] at A7 st7
  have g_b7 : n0 ≤ b7 := Nat.le_trans Z4 (Nat.le_of_eq g7.symm)
  have sz_b7 : h0.size ≤ b7 := (Nat.le_trans K4.1 (Nat.le_of_eq g7.symm))
  have V7 : AR Z h7 b7 .int 513 (fun _ => (.int (0 : Int32))) := (AR.new A7 (by decide) rfl)
  have K7 : Keep h0 h7 [a1] := K4.ext E7
  have Z7 : n0 ≤ h7.size := Nat.le_trans Z4 E7.1
  have f8 := ((F1.other W4 (Or.inr (slot_ne (Or.inr (hw _ (List.mem_of_getElem? (i := 14) rfl))) (Or.inr (hw _ (List.mem_of_getElem? (i := 11) rfl))) (by decide) (t := (.array .int)) (t' := .int) (by decide) (by decide)))).ext E7)
  have f9 := ((E1.wr W4).ext E7)
  obtain ⟨T10, h10, X10, e10, W10, st10⟩ := putF X7 hx hZ hown (host := "") (Or.inl (hw _ (List.mem_of_getElem? (i := 13) rfl))) Via.refl e7 f8 f9 (Or.inr ⟨(hw _ (List.mem_of_getElem? (i := 14) rfl)), rfl, hnm⟩) (hw _ (List.mem_of_getElem? (i := 2) rfl)) (ty := (.array .int)) (by decide) rfl rfl (g := (mkF m 61 #[.val (.ref a1), .val (.int (257 : Int32))] [(.ref b7), (.ref a1)])) rfl rfl (hb hby d1_61)
  have Fw10 := f8.same W10
  have K10 : Keep h0 h10 [a1] := K7.wr W10 (Or.inl (List.mem_of_getElem? (i := 0) rfl))
  have N10 := Fr.snoc X10 N4 g_a1
  have Z10 : n0 ≤ h10.size := Nat.le_trans Z7 (Keep.of_wr W10).1
  obtain ⟨fs, hr, hrun, hended, hW, hsame⟩ := X10.leave (v := none) (fun _ => rfl)
  refine ⟨_, _, pre0 _ (?_), hrun, hended, _, _, rfl, ?_, ⟨_, rfl⟩, hW, hsame.mono (by decide) (by decide)⟩
  · show Steps p.tables e below (s₁.setTop (mkF m 0 #[.val (.ref a1), .val (.int (257 : Int32))] [])) _
    refine XS.aloadN X0.here hx rfl (hb hby d1_0) rfl rfl ?_
    show Steps p.tables e below (s₁.setTop (mkF m 1 #[.val (.ref a1), .val (.int (257 : Int32))] [(.ref a1)])) _
    refine st1 _ ?_
    show Steps p.tables e below (T1.setTop (mkF m 4 #[.val (.ref a1), .val (.int (257 : Int32))] [])) _
    refine XS.iloadN X1.here hx rfl (hb hby d1_4) rfl ?_
    show Steps p.tables e below (T1.setTop (mkF m 5 #[.val (.ref a1), .val (.int (257 : Int32))] [(.int (257 : Int32))])) _
    refine XS.sipush X1.here hx rfl (hb hby d1_5) ?_
    show Steps p.tables e below (T1.setTop (mkF m 8 #[.val (.ref a1), .val (.int (257 : Int32))] [(.int (256 : Int32)), (.int (257 : Int32))])) _
    refine XS.icmpYes X1.here hx rfl (pc0 := 8) (pc' := 19) rfl (hb hby d1_8) rfl (tlt (by decide : (256 : Int32) < (257 : Int32))).2.2.1 (by decide) (by decide) ?_
    show Steps p.tables e below (T1.setTop (mkF m 19 #[.val (.ref a1), .val (.int (257 : Int32))] [])) _
    refine XS.aloadN X1.here hx rfl (hb hby d1_19) rfl rfl ?_
    show Steps p.tables e below (T1.setTop (mkF m 20 #[.val (.ref a1), .val (.int (257 : Int32))] [(.ref a1)])) _
    refine XS.iloadN X1.here hx rfl (hb hby d1_20) rfl ?_
    show Steps p.tables e below (T1.setTop (mkF m 21 #[.val (.ref a1), .val (.int (257 : Int32))] [(.int (257 : Int32)), (.ref a1)])) _
    refine st2 _ ?_
    show Steps p.tables e below (T2.setTop (mkF m 24 #[.val (.ref a1), .val (.int (257 : Int32))] [(.int (256 : Int32)), (.ref a1)])) _
    refine XS.iloadN X2.here hx rfl (hb hby d1_24) rfl ?_
    show Steps p.tables e below (T2.setTop (mkF m 25 #[.val (.ref a1), .val (.int (257 : Int32))] [(.int (257 : Int32)), (.int (256 : Int32)), (.ref a1)])) _
    refine XS.icmpYes X2.here hx rfl (pc0 := 25) (pc' := 32) rfl (hb hby d1_25) rfl (feq (by decide : ¬ ((256 : Int32) = (257 : Int32)))).2 (by decide) (by decide) ?_
    show Steps p.tables e below (T2.setTop (mkF m 32 #[.val (.ref a1), .val (.int (257 : Int32))] [(.ref a1)])) _
    refine XS.iconst X2.here hx rfl (hb hby d1_32) ?_
    show Steps p.tables e below (T2.setTop (mkF m 33 #[.val (.ref a1), .val (.int (257 : Int32))] [(.int (2 : Int32)), (.ref a1)])) _
    refine XS.iloadN X2.here hx rfl (hb hby d1_33) rfl ?_
    show Steps p.tables e below (T2.setTop (mkF m 34 #[.val (.ref a1), .val (.int (257 : Int32))] [(.int (257 : Int32)), (.int (2 : Int32)), (.ref a1)])) _
    refine st3 _ ?_
    show Steps p.tables e below (T3.setTop (mkF m 37 #[.val (.ref a1), .val (.int (257 : Int32))] [(.int (256 : Int32)), (.int (2 : Int32)), (.ref a1)])) _
    refine XS.imul X3.here hx rfl (hb hby d1_37) rfl ?_
    show Steps p.tables e below (T3.setTop (mkF m 38 #[.val (.ref a1), .val (.int (257 : Int32))] [(.int (512 : Int32)), (.ref a1)])) _
    refine st4 _ ?_
    show Steps p.tables e below (T4.setTop (mkF m 41 #[.val (.ref a1), .val (.int (257 : Int32))] [])) _
    refine XS.aloadN X4.here hx rfl (hb hby d1_41) rfl rfl ?_
    show Steps p.tables e below (T4.setTop (mkF m 42 #[.val (.ref a1), .val (.int (257 : Int32))] [(.ref a1)])) _
    refine XS.aloadN X4.here hx rfl (hb hby d1_42) rfl rfl ?_
    show Steps p.tables e below (T4.setTop (mkF m 43 #[.val (.ref a1), .val (.int (257 : Int32))] [(.ref a1), (.ref a1)])) _
    refine st5 _ ?_
    show Steps p.tables e below (T5.setTop (mkF m 46 #[.val (.ref a1), .val (.int (257 : Int32))] [(.int (512 : Int32)), (.ref a1)])) _
    refine XS.ifYes X5.here hx rfl (pc0 := 46) (pc' := 53) rfl (hb hby d1_46) rfl ((if0 _ _).trans (feq (by decide : ¬ ((512 : Int32) = (0 : Int32)))).2) (by decide) (by decide) ?_
    show Steps p.tables e below (T5.setTop (mkF m 53 #[.val (.ref a1), .val (.int (257 : Int32))] [(.ref a1)])) _
    refine XS.aloadN X5.here hx rfl (hb hby d1_53) rfl rfl ?_
    show Steps p.tables e below (T5.setTop (mkF m 54 #[.val (.ref a1), .val (.int (257 : Int32))] [(.ref a1), (.ref a1)])) _
    refine st6 _ ?_
    show Steps p.tables e below (T6.setTop (mkF m 57 #[.val (.ref a1), .val (.int (257 : Int32))] [(.int (512 : Int32)), (.ref a1)])) _
    refine XS.iconst X6.here hx rfl (hb hby d1_57) ?_
    show Steps p.tables e below (T6.setTop (mkF m 58 #[.val (.ref a1), .val (.int (257 : Int32))] [(.int (1 : Int32)), (.int (512 : Int32)), (.ref a1)])) _
    refine XS.iadd X6.here hx rfl (hb hby d1_58) rfl ?_
    show Steps p.tables e below (T6.setTop (mkF m 59 #[.val (.ref a1), .val (.int (257 : Int32))] [(.int (513 : Int32)), (.ref a1)])) _
    refine st7 _ ?_
    show Steps p.tables e below (T7.setTop (mkF m 61 #[.val (.ref a1), .val (.int (257 : Int32))] [(.ref b7), (.ref a1)])) _
    refine st10 _ ?_
    show Steps p.tables e below (T10.setTop (mkF m 64 #[.val (.ref a1), .val (.int (257 : Int32))] [])) _
    exact X10.returnOut hx Bd.returns (hb hby d1_64) hr
  have f11 := (f9.wr W10)
  have ne12 : a1 ≠ b7 := (Nat.ne_of_lt (Nat.lt_of_lt_of_le Fw4.lt (Nat.le_of_eq g7.symm)))
  have f13 := (V7.other W10 (Ne.symm ne12))
  have f14 := ((Fw4.ext E7).other W10 (Or.inr (slot_ne (Or.inr (hw _ (List.mem_of_getElem? (i := 11) rfl))) (Or.inr (hw _ (List.mem_of_getElem? (i := 14) rfl))) (by decide) (t := .int) (t' := (.array .int)) (by decide) (by decide))))
  have f15 := (((F3.other W4 (Or.inr (slot_ne (Or.inl (hw _ (List.mem_of_getElem? (i := 21) rfl))) (Or.inr (hw _ (List.mem_of_getElem? (i := 11) rfl))) (by decide) (t := .int) (t' := .int) (by decide) (by decide)))).ext E7).other W10 (Or.inr (slot_ne (Or.inl (hw _ (List.mem_of_getElem? (i := 21) rfl))) (Or.inr (hw _ (List.mem_of_getElem? (i := 14) rfl))) (by decide) (t := .int) (t' := (.array .int)) (by decide) (by decide))))
  · show QrmI_257 Z a1 h0 n0 _ T10.heap _
    rw [e10]
    exact ⟨rfl, N10, K10, f11, ⟨b7, g_b7, ne12, Fw10, f13⟩, f14, f15⟩
theorem d1_28 : decode prog_77_method_1_code 28 = .ok (.iload_n 1, 1) := by decide +kernel
theorem d1_29 : decode prog_77_method_1_code 29 = .ok (.goto 9, 3) := by decide +kernel
theorem ef_rmI_512 (m : MethodId) (x0 : Addr) (x1 : Int32) : entryFrame m #[(.ref x0), (.int x1)] 2 = mkF m 0 #[.val (.ref x0), .val (.int x1)] [] := by first | (simp [entryFrame, mkF, argsToLocals, Value.category]; done) | rfl
def QrmI_512 (Z : State) (a1 : Addr) (h0 : Heap) (n0 : Nat) (v : Option Value) (h : Heap) (L : List Loc) : Prop := v = none ∧ Fr n0 L ∧ Keep h0 h [a1] ∧ Exa Z h a1 "com/example/ebbtide/ebbtide/cluster/PlaceCounts" ∧ (∃ b, n0 ≤ b ∧ a1 ≠ b ∧ Fld Z h a1 "com/example/ebbtide/ebbtide/cluster/PlaceCounts" "sums" "[I" (.ref b) ∧ AR Z h b .int 513 (fun _ => (.int (0 : Int32)))) ∧ Fld Z h a1 "com/example/ebbtide/ebbtide/cluster/PlaceCounts" "top" "I" (.int (512 : Int32)) ∧ Fld Z h a1 "com/example/ebbtide/ebbtide/cluster/PlaceCounts" "total" "I" (.int (0 : Int32))
set_option maxRecDepth 65536 in
set_option maxHeartbeats 40000000 in
theorem rmI_512 (l : Launch) (Z : State) (a0 : Array Value) (hw : ∀ d ∈ tables_1, d.before a0 Z = true) (ws : List Jvm.Cond) (a1 : Addr) (h0 : Heap) (n0 : Nat) (Z0 : n0 ≤ h0.size) (E1 : Exa Z h0 a1 "com/example/ebbtide/ebbtide/cluster/PlaceCounts") (F1 : Fld Z h0 a1 "com/example/ebbtide/ebbtide/cluster/PlaceCounts" "sums" "[I" .null) (F2 : Fld Z h0 a1 "com/example/ebbtide/ebbtide/cluster/PlaceCounts" "top" "I" (.int (0 : Int32))) (F3 : Fld Z h0 a1 "com/example/ebbtide/ebbtide/cluster/PlaceCounts" "total" "I" (.int (0 : Int32))) (g_a1 : n0 ≤ a1) :
    MetFree l (⟨"com/example/ebbtide/ebbtide/cluster/PlaceCounts", "<init>", "(I)V"⟩ : MethodName) (head1 (Jvm.Cond.code (⟨"com/example/ebbtide/ebbtide/cluster/PlaceCounts", "<init>", "(I)V"⟩ : MethodName) prog_77_method_1_code 2 none :: ws) ({ frames := 2, cells := 1, slots := 513, locals := 28 } : Room)) (fun a U => a = #[(.ref a1), (.int (512 : Int32))] ∧ Z.Warmed39 U.vm ∧ U.heap = h0) (fun _ _ _ _ _ => True) (fun _ U o U' => ∃ v L, o = .returned v ∧ QrmI_512 Z a1 h0 n0 v U'.heap L ∧ FrameEnd U o U' L ({ frames := 2, cells := 1, slots := 513, locals := 28 } : Room).cells ({ frames := 2, cells := 1, slots := 513, locals := 28 } : Room).slots) := by
  refine MetFree.of_bodySF (plainFor_of_name pn_com_example_ebbtide_ebbtide_cluster_PlaceCounts) hisR ?_
  intro p e s m args below meth c s₁ Bd hml0 hP hK
  obtain ⟨rfl, hZ, hh⟩ := hP
  have hx := Bd.exec
  have hby := Bd.bytes
  have hml : c.maxLocals = 2 := hml0
  have hown : s.vm.findClass "com/example/ebbtide/ebbtide/cluster/PlaceCounts" = some m.cls := findClass_of_methodNamed Bd.named
  have hnm := (name_of_methodNamed Bd.named Bd.method).1
  have X0 : Stand p l e ({ frames := 2, cells := 1, slots := 513, locals := 28 } : Room) s m #[(.ref a1), (.int (512 : Int32))] below meth c s₁ [] 0 0 := Stand.of_body Bd
  have e0 : s₁.heap = h0 := by rw [← hh, Bd.state]; rfl
  have N0 := Fr.nil n0
  have pre0 : ∀ t, Steps p.tables e below (s₁.setTop (mkF m 0 #[.val (.ref a1), .val (.int (512 : Int32))] [])) t → Steps p.tables e below (s₁.setTop (entryFrame m #[(.ref a1), (.int (512 : Int32))] 2)) t := fun t k => castTop (ef_rmI_512 m a1 (512 : Int32)) k
  obtain ⟨T1, X1, e1, st1⟩ := initO X0 hx hZ hown (hw _ (List.mem_of_getElem? (i := 7) rfl)) (hw _ (List.mem_of_getElem? (i := 8) rfl)) (hw _ (List.mem_of_getElem? (i := 9) rfl)) e0 (g := (mkF m 1 #[.val (.ref a1), .val (.int (512 : Int32))] [(.ref a1)])) rfl (by rw [hml]; rfl) rfl (hb hby d1_1) (by decide) (W := 0) (by show 2 * 0 + _ ≤ _; exact Nat.le_of_eq rfl) (by decide)
  obtain ⟨_, _, ⟨T2, L2, k2, n2⟩, -, X2, ⟨Lc2, hQ2, l2, y2, z2⟩, st2⟩ := Jvm.LawKit.callS X1 hx (y := (⟨"java/lang/Integer", "highestOneBit", "(I)I"⟩ : MethodName)) hown (mvT hZ (hw _ (List.mem_of_getElem? (i := 27) rfl))) (mvT hZ (hw _ (List.mem_of_getElem? (i := 28) rfl))) (mvT hZ (hw _ (List.mem_of_getElem? (i := 29) rfl))) (mvT hZ (hw _ (List.mem_of_getElem? (i := 30) rfl))) (by decide) (backOf (W := 1) (rmH_512 l Z a0 hw [] h0 n0 Z0) hZ (hw _ (List.mem_of_getElem? (i := 30) rfl)) (hw _ (List.mem_of_getElem? (i := 29) rfl)) (by decide) (by decide)) (g := (mkF m 21 #[.val (.ref a1), .val (.int (512 : Int32))] [(.int (512 : Int32)), (.ref a1)])) rfl (by rw [hml]; rfl) (argsL := [(.int (512 : Int32))]) (rest := [(.ref a1)]) (lenOf pd__28I_29I rfl) rfl (by show 2 * 0 + _ ≤ _; exact Nat.le_of_eq rfl) (hb hby d1_21) (fun _ _ => ⟨rfl, e1, (by decide : 0 + 0 ≤ _), (by decide : 0 + 0 ≤ _)⟩)
  dsimp only [Pt.U, Pt.locs, Pt.cells, Pt.slots] at X2 l2 y2 z2 st2 hQ2
  subst l2 y2 z2
  obtain ⟨rfl, N2q, e2⟩ := hQ2
  have N2 := Fr.app N0 N2q
  obtain ⟨T3, h3, X3, e3, W3, st3⟩ := putF X2 hx hZ hown (host := "") (Or.inl (hw _ (List.mem_of_getElem? (i := 10) rfl))) Via.refl e2 F2 E1 (Or.inr ⟨(hw _ (List.mem_of_getElem? (i := 11) rfl)), rfl, hnm⟩) (hw _ (List.mem_of_getElem? (i := 2) rfl)) (ty := .int) (by decide) rfl rfl (g := (mkF m 38 #[.val (.ref a1), .val (.int (512 : Int32))] [(.int (512 : Int32)), (.ref a1)])) rfl rfl (hb hby d1_38)
  have Fw3 := F2.same W3
  have K3 : Keep h0 h3 [a1] := (Keep.refl h0 [a1]).wr W3 (Or.inl (List.mem_of_getElem? (i := 0) rfl))
  have N3 := Fr.snoc X3 N2 g_a1
  have Z3 : n0 ≤ h3.size := Nat.le_trans Z0 (Keep.of_wr W3).1
  obtain ⟨T4, X4, e4, st4⟩ := getF X3 hx hZ hown (host := "") (Or.inl (hw _ (List.mem_of_getElem? (i := 10) rfl))) Via.refl e3 Fw3 (g := (mkF m 43 #[.val (.ref a1), .val (.int (512 : Int32))] [(.ref a1), (.ref a1)])) rfl rfl (hb hby d1_43)
  obtain ⟨T5, X5, e5, st5⟩ := getF X4 hx hZ hown (host := "") (Or.inl (hw _ (List.mem_of_getElem? (i := 10) rfl))) Via.refl e4 Fw3 (g := (mkF m 54 #[.val (.ref a1), .val (.int (512 : Int32))] [(.ref a1), (.ref a1)])) rfl rfl (hb hby d1_54)
  obtain ⟨T6, h6, k6, X6, e6, E6, A6, st6⟩ := newP X5 hx hZ (hw _ (List.mem_of_getElem? (i := 12) rfl)) e5 (g := (mkF m 59 #[.val (.ref a1), .val (.int (512 : Int32))] [(.int (513 : Int32)), (.ref a1)])) rfl (hb hby d1_59) rfl (by decide) (cap := 513) (by decide) (by decide) (by decide) (by decide)
  obtain ⟨b6, g6⟩ : ∃ z, z = h3.size := ⟨_, rfl⟩
  rw [← g6] at A6 st6
  have g_b6 : n0 ≤ b6 := Nat.le_trans Z3 (Nat.le_of_eq g6.symm)
  have sz_b6 : h0.size ≤ b6 := (Nat.le_trans K3.1 (Nat.le_of_eq g6.symm))
  have V6 : AR Z h6 b6 .int 513 (fun _ => (.int (0 : Int32))) := (AR.new A6 (by decide) rfl)
  have K6 : Keep h0 h6 [a1] := K3.ext E6
  have Z6 : n0 ≤ h6.size := Nat.le_trans Z3 E6.1
  have f7 := ((F1.other W3 (Or.inr (slot_ne (Or.inr (hw _ (List.mem_of_getElem? (i := 14) rfl))) (Or.inr (hw _ (List.mem_of_getElem? (i := 11) rfl))) (by decide) (t := (.array .int)) (t' := .int) (by decide) (by decide)))).ext E6)
  have f8 := ((E1.wr W3).ext E6)
  obtain ⟨T9, h9, X9, e9, W9, st9⟩ := putF X6 hx hZ hown (host := "") (Or.inl (hw _ (List.mem_of_getElem? (i := 13) rfl))) Via.refl e6 f7 f8 (Or.inr ⟨(hw _ (List.mem_of_getElem? (i := 14) rfl)), rfl, hnm⟩) (hw _ (List.mem_of_getElem? (i := 2) rfl)) (ty := (.array .int)) (by decide) rfl rfl (g := (mkF m 61 #[.val (.ref a1), .val (.int (512 : Int32))] [(.ref b6), (.ref a1)])) rfl rfl (hb hby d1_61)
  have Fw9 := f7.same W9
  have K9 : Keep h0 h9 [a1] := K6.wr W9 (Or.inl (List.mem_of_getElem? (i := 0) rfl))
  have N9 := Fr.snoc X9 N3 g_a1
  have Z9 : n0 ≤ h9.size := Nat.le_trans Z6 (Keep.of_wr W9).1
  obtain ⟨fs, hr, hrun, hended, hW, hsame⟩ := X9.leave (v := none) (fun _ => rfl)
  refine ⟨_, _, pre0 _ (?_), hrun, hended, _, _, rfl, ?_, ⟨_, rfl⟩, hW, hsame.mono (by decide) (by decide)⟩
  · show Steps p.tables e below (s₁.setTop (mkF m 0 #[.val (.ref a1), .val (.int (512 : Int32))] [])) _
    refine XS.aloadN X0.here hx rfl (hb hby d1_0) rfl rfl ?_
    show Steps p.tables e below (s₁.setTop (mkF m 1 #[.val (.ref a1), .val (.int (512 : Int32))] [(.ref a1)])) _
    refine st1 _ ?_
    show Steps p.tables e below (T1.setTop (mkF m 4 #[.val (.ref a1), .val (.int (512 : Int32))] [])) _
    refine XS.iloadN X1.here hx rfl (hb hby d1_4) rfl ?_
    show Steps p.tables e below (T1.setTop (mkF m 5 #[.val (.ref a1), .val (.int (512 : Int32))] [(.int (512 : Int32))])) _
    refine XS.sipush X1.here hx rfl (hb hby d1_5) ?_
    show Steps p.tables e below (T1.setTop (mkF m 8 #[.val (.ref a1), .val (.int (512 : Int32))] [(.int (256 : Int32)), (.int (512 : Int32))])) _
    refine XS.icmpYes X1.here hx rfl (pc0 := 8) (pc' := 19) rfl (hb hby d1_8) rfl (tlt (by decide : (256 : Int32) < (512 : Int32))).2.2.1 (by decide) (by decide) ?_
    show Steps p.tables e below (T1.setTop (mkF m 19 #[.val (.ref a1), .val (.int (512 : Int32))] [])) _
    refine XS.aloadN X1.here hx rfl (hb hby d1_19) rfl rfl ?_
    show Steps p.tables e below (T1.setTop (mkF m 20 #[.val (.ref a1), .val (.int (512 : Int32))] [(.ref a1)])) _
    refine XS.iloadN X1.here hx rfl (hb hby d1_20) rfl ?_
    show Steps p.tables e below (T1.setTop (mkF m 21 #[.val (.ref a1), .val (.int (512 : Int32))] [(.int (512 : Int32)), (.ref a1)])) _
    refine st2 _ ?_
    show Steps p.tables e below (T2.setTop (mkF m 24 #[.val (.ref a1), .val (.int (512 : Int32))] [(.int (512 : Int32)), (.ref a1)])) _
    refine XS.iloadN X2.here hx rfl (hb hby d1_24) rfl ?_
    show Steps p.tables e below (T2.setTop (mkF m 25 #[.val (.ref a1), .val (.int (512 : Int32))] [(.int (512 : Int32)), (.int (512 : Int32)), (.ref a1)])) _
    refine XS.icmpNo X2.here hx rfl (hb hby d1_25) rfl (teq (by decide : (512 : Int32) = (512 : Int32))).2 ?_
    show Steps p.tables e below (T2.setTop (mkF m 28 #[.val (.ref a1), .val (.int (512 : Int32))] [(.ref a1)])) _
    refine XS.iloadN X2.here hx rfl (hb hby d1_28) rfl ?_
    show Steps p.tables e below (T2.setTop (mkF m 29 #[.val (.ref a1), .val (.int (512 : Int32))] [(.int (512 : Int32)), (.ref a1)])) _
    refine XS.goto X2.here hx rfl (pc0 := 29) (pc' := 38) rfl (hb hby d1_29) (by decide) (by decide) ?_
    show Steps p.tables e below (T2.setTop (mkF m 38 #[.val (.ref a1), .val (.int (512 : Int32))] [(.int (512 : Int32)), (.ref a1)])) _
    refine st3 _ ?_
    show Steps p.tables e below (T3.setTop (mkF m 41 #[.val (.ref a1), .val (.int (512 : Int32))] [])) _
    refine XS.aloadN X3.here hx rfl (hb hby d1_41) rfl rfl ?_
    show Steps p.tables e below (T3.setTop (mkF m 42 #[.val (.ref a1), .val (.int (512 : Int32))] [(.ref a1)])) _
    refine XS.aloadN X3.here hx rfl (hb hby d1_42) rfl rfl ?_
    show Steps p.tables e below (T3.setTop (mkF m 43 #[.val (.ref a1), .val (.int (512 : Int32))] [(.ref a1), (.ref a1)])) _
    refine st4 _ ?_
    show Steps p.tables e below (T4.setTop (mkF m 46 #[.val (.ref a1), .val (.int (512 : Int32))] [(.int (512 : Int32)), (.ref a1)])) _
    refine XS.ifYes X4.here hx rfl (pc0 := 46) (pc' := 53) rfl (hb hby d1_46) rfl ((if0 _ _).trans (feq (by decide : ¬ ((512 : Int32) = (0 : Int32)))).2) (by decide) (by decide) ?_
    show Steps p.tables e below (T4.setTop (mkF m 53 #[.val (.ref a1), .val (.int (512 : Int32))] [(.ref a1)])) _
    refine XS.aloadN X4.here hx rfl (hb hby d1_53) rfl rfl ?_
    show Steps p.tables e below (T4.setTop (mkF m 54 #[.val (.ref a1), .val (.int (512 : Int32))] [(.ref a1), (.ref a1)])) _
    refine st5 _ ?_
    show Steps p.tables e below (T5.setTop (mkF m 57 #[.val (.ref a1), .val (.int (512 : Int32))] [(.int (512 : Int32)), (.ref a1)])) _
    refine XS.iconst X5.here hx rfl (hb hby d1_57) ?_
    show Steps p.tables e below (T5.setTop (mkF m 58 #[.val (.ref a1), .val (.int (512 : Int32))] [(.int (1 : Int32)), (.int (512 : Int32)), (.ref a1)])) _
    refine XS.iadd X5.here hx rfl (hb hby d1_58) rfl ?_
    show Steps p.tables e below (T5.setTop (mkF m 59 #[.val (.ref a1), .val (.int (512 : Int32))] [(.int (513 : Int32)), (.ref a1)])) _
    refine st6 _ ?_
    show Steps p.tables e below (T6.setTop (mkF m 61 #[.val (.ref a1), .val (.int (512 : Int32))] [(.ref b6), (.ref a1)])) _
    refine st9 _ ?_
    show Steps p.tables e below (T9.setTop (mkF m 64 #[.val (.ref a1), .val (.int (512 : Int32))] [])) _
    exact X9.returnOut hx Bd.returns (hb hby d1_64) hr
  have f10 := (f8.wr W9)
  have ne11 : a1 ≠ b6 := (Nat.ne_of_lt (Nat.lt_of_lt_of_le Fw3.lt (Nat.le_of_eq g6.symm)))
  have f12 := (V6.other W9 (Ne.symm ne11))
  have f13 := ((Fw3.ext E6).other W9 (Or.inr (slot_ne (Or.inr (hw _ (List.mem_of_getElem? (i := 11) rfl))) (Or.inr (hw _ (List.mem_of_getElem? (i := 14) rfl))) (by decide) (t := .int) (t' := (.array .int)) (by decide) (by decide))))
  have f14 := (((F3.other W3 (Or.inr (slot_ne (Or.inl (hw _ (List.mem_of_getElem? (i := 21) rfl))) (Or.inr (hw _ (List.mem_of_getElem? (i := 11) rfl))) (by decide) (t := .int) (t' := .int) (by decide) (by decide)))).ext E6).other W9 (Or.inr (slot_ne (Or.inl (hw _ (List.mem_of_getElem? (i := 21) rfl))) (Or.inr (hw _ (List.mem_of_getElem? (i := 14) rfl))) (by decide) (t := .int) (t' := (.array .int)) (by decide) (by decide))))
  · show QrmI_512 Z a1 h0 n0 _ T9.heap _
    rw [e9]
    exact ⟨rfl, N9, K9, f10, ⟨b6, g_b6, ne11, Fw9, f12⟩, f13, f14⟩
theorem ef_rmI_700 (m : MethodId) (x0 : Addr) (x1 : Int32) : entryFrame m #[(.ref x0), (.int x1)] 2 = mkF m 0 #[.val (.ref x0), .val (.int x1)] [] := by first | (simp [entryFrame, mkF, argsToLocals, Value.category]; done) | rfl
def QrmI_700 (Z : State) (a1 : Addr) (h0 : Heap) (n0 : Nat) (v : Option Value) (h : Heap) (L : List Loc) : Prop := v = none ∧ Fr n0 L ∧ Keep h0 h [a1] ∧ Exa Z h a1 "com/example/ebbtide/ebbtide/cluster/PlaceCounts" ∧ (∃ b, n0 ≤ b ∧ a1 ≠ b ∧ Fld Z h a1 "com/example/ebbtide/ebbtide/cluster/PlaceCounts" "sums" "[I" (.ref b) ∧ AR Z h b .int 1025 (fun _ => (.int (0 : Int32)))) ∧ Fld Z h a1 "com/example/ebbtide/ebbtide/cluster/PlaceCounts" "top" "I" (.int (1024 : Int32)) ∧ Fld Z h a1 "com/example/ebbtide/ebbtide/cluster/PlaceCounts" "total" "I" (.int (0 : Int32))
set_option maxRecDepth 65536 in
set_option maxHeartbeats 40000000 in
theorem rmI_700 (l : Launch) (Z : State) (a0 : Array Value) (hw : ∀ d ∈ tables_1, d.before a0 Z = true) (ws : List Jvm.Cond) (a1 : Addr) (h0 : Heap) (n0 : Nat) (Z0 : n0 ≤ h0.size) (E1 : Exa Z h0 a1 "com/example/ebbtide/ebbtide/cluster/PlaceCounts") (F1 : Fld Z h0 a1 "com/example/ebbtide/ebbtide/cluster/PlaceCounts" "sums" "[I" .null) (F2 : Fld Z h0 a1 "com/example/ebbtide/ebbtide/cluster/PlaceCounts" "top" "I" (.int (0 : Int32))) (F3 : Fld Z h0 a1 "com/example/ebbtide/ebbtide/cluster/PlaceCounts" "total" "I" (.int (0 : Int32))) (g_a1 : n0 ≤ a1) :
    MetFree l (⟨"com/example/ebbtide/ebbtide/cluster/PlaceCounts", "<init>", "(I)V"⟩ : MethodName) (head1 (Jvm.Cond.code (⟨"com/example/ebbtide/ebbtide/cluster/PlaceCounts", "<init>", "(I)V"⟩ : MethodName) prog_77_method_1_code 2 none :: ws) ({ frames := 2, cells := 1, slots := 1025, locals := 29 } : Room)) (fun a U => a = #[(.ref a1), (.int (700 : Int32))] ∧ Z.Warmed39 U.vm ∧ U.heap = h0) (fun _ _ _ _ _ => True) (fun _ U o U' => ∃ v L, o = .returned v ∧ QrmI_700 Z a1 h0 n0 v U'.heap L ∧ FrameEnd U o U' L ({ frames := 2, cells := 1, slots := 1025, locals := 29 } : Room).cells ({ frames := 2, cells := 1, slots := 1025, locals := 29 } : Room).slots) := by
  refine MetFree.of_bodySF (plainFor_of_name pn_com_example_ebbtide_ebbtide_cluster_PlaceCounts) hisR ?_
  intro p e s m args below meth c s₁ Bd hml0 hP hK
  obtain ⟨rfl, hZ, hh⟩ := hP
  have hx := Bd.exec
  have hby := Bd.bytes
  have hml : c.maxLocals = 2 := hml0
  have hown : s.vm.findClass "com/example/ebbtide/ebbtide/cluster/PlaceCounts" = some m.cls := findClass_of_methodNamed Bd.named
  have hnm := (name_of_methodNamed Bd.named Bd.method).1
  have X0 : Stand p l e ({ frames := 2, cells := 1, slots := 1025, locals := 29 } : Room) s m #[(.ref a1), (.int (700 : Int32))] below meth c s₁ [] 0 0 := Stand.of_body Bd
  have e0 : s₁.heap = h0 := by rw [← hh, Bd.state]; rfl
  have N0 := Fr.nil n0
  have pre0 : ∀ t, Steps p.tables e below (s₁.setTop (mkF m 0 #[.val (.ref a1), .val (.int (700 : Int32))] [])) t → Steps p.tables e below (s₁.setTop (entryFrame m #[(.ref a1), (.int (700 : Int32))] 2)) t := fun t k => castTop (ef_rmI_700 m a1 (700 : Int32)) k
  obtain ⟨T1, X1, e1, st1⟩ := initO X0 hx hZ hown (hw _ (List.mem_of_getElem? (i := 7) rfl)) (hw _ (List.mem_of_getElem? (i := 8) rfl)) (hw _ (List.mem_of_getElem? (i := 9) rfl)) e0 (g := (mkF m 1 #[.val (.ref a1), .val (.int (700 : Int32))] [(.ref a1)])) rfl (by rw [hml]; rfl) rfl (hb hby d1_1) (by decide) (W := 0) (by show 2 * 0 + _ ≤ _; exact Nat.le_of_eq rfl) (by decide)
  obtain ⟨_, _, ⟨T2, L2, k2, n2⟩, -, X2, ⟨Lc2, hQ2, l2, y2, z2⟩, st2⟩ := Jvm.LawKit.callS X1 hx (y := (⟨"java/lang/Integer", "highestOneBit", "(I)I"⟩ : MethodName)) hown (mvT hZ (hw _ (List.mem_of_getElem? (i := 27) rfl))) (mvT hZ (hw _ (List.mem_of_getElem? (i := 28) rfl))) (mvT hZ (hw _ (List.mem_of_getElem? (i := 29) rfl))) (mvT hZ (hw _ (List.mem_of_getElem? (i := 30) rfl))) (by decide) (backOf (W := 1) (rmH_700 l Z a0 hw [] h0 n0 Z0) hZ (hw _ (List.mem_of_getElem? (i := 30) rfl)) (hw _ (List.mem_of_getElem? (i := 29) rfl)) (by decide) (by decide)) (g := (mkF m 21 #[.val (.ref a1), .val (.int (700 : Int32))] [(.int (700 : Int32)), (.ref a1)])) rfl (by rw [hml]; rfl) (argsL := [(.int (700 : Int32))]) (rest := [(.ref a1)]) (lenOf pd__28I_29I rfl) rfl (by show 2 * 0 + _ ≤ _; exact Nat.le_of_eq rfl) (hb hby d1_21) (fun _ _ => ⟨rfl, e1, (by decide : 0 + 0 ≤ _), (by decide : 0 + 0 ≤ _)⟩)
  dsimp only [Pt.U, Pt.locs, Pt.cells, Pt.slots] at X2 l2 y2 z2 st2 hQ2
  subst l2 y2 z2
  obtain ⟨rfl, N2q, e2⟩ := hQ2
  have N2 := Fr.app N0 N2q
  obtain ⟨_, _, ⟨T3, L3, k3, n3⟩, -, X3, ⟨Lc3, hQ3, l3, y3, z3⟩, st3⟩ := Jvm.LawKit.callS X2 hx (y := (⟨"java/lang/Integer", "highestOneBit", "(I)I"⟩ : MethodName)) hown (mvT hZ (hw _ (List.mem_of_getElem? (i := 27) rfl))) (mvT hZ (hw _ (List.mem_of_getElem? (i := 28) rfl))) (mvT hZ (hw _ (List.mem_of_getElem? (i := 29) rfl))) (mvT hZ (hw _ (List.mem_of_getElem? (i := 30) rfl))) (by decide) (backOf (W := 2) (rmH_700 l Z a0 hw [] h0 n0 Z0) hZ (hw _ (List.mem_of_getElem? (i := 30) rfl)) (hw _ (List.mem_of_getElem? (i := 29) rfl)) (by decide) (by decide)) (g := (mkF m 34 #[.val (.ref a1), .val (.int (700 : Int32))] [(.int (700 : Int32)), (.int (2 : Int32)), (.ref a1)])) rfl (by rw [hml]; rfl) (argsL := [(.int (700 : Int32))]) (rest := [(.int (2 : Int32)), (.ref a1)]) (lenOf pd__28I_29I rfl) rfl (by show 2 * 0 + _ ≤ _; exact Nat.le_of_eq rfl) (hb hby d1_34) (fun _ _ => ⟨rfl, e2, (by decide : 0 + 0 ≤ _), (by decide : 0 + 0 ≤ _)⟩)
  dsimp only [Pt.U, Pt.locs, Pt.cells, Pt.slots] at X3 l3 y3 z3 st3 hQ3
  subst l3 y3 z3
  obtain ⟨rfl, N3q, e3⟩ := hQ3
  have N3 := Fr.app N2 N3q
  obtain ⟨T4, h4, X4, e4, W4, st4⟩ := putF X3 hx hZ hown (host := "") (Or.inl (hw _ (List.mem_of_getElem? (i := 10) rfl))) Via.refl e3 F2 E1 (Or.inr ⟨(hw _ (List.mem_of_getElem? (i := 11) rfl)), rfl, hnm⟩) (hw _ (List.mem_of_getElem? (i := 2) rfl)) (ty := .int) (by decide) rfl rfl (g := (mkF m 38 #[.val (.ref a1), .val (.int (700 : Int32))] [(.int (1024 : Int32)), (.ref a1)])) rfl rfl (hb hby d1_38)
  have Fw4 := F2.same W4
  have K4 : Keep h0 h4 [a1] := (Keep.refl h0 [a1]).wr W4 (Or.inl (List.mem_of_getElem? (i := 0) rfl))
  have N4 := Fr.snoc X4 N3 g_a1
  have Z4 : n0 ≤ h4.size := Nat.le_trans Z0 (Keep.of_wr W4).1
  obtain ⟨T5, X5, e5, st5⟩ := getF X4 hx hZ hown (host := "") (Or.inl (hw _ (List.mem_of_getElem? (i := 10) rfl))) Via.refl e4 Fw4 (g := (mkF m 43 #[.val (.ref a1), .val (.int (700 : Int32))] [(.ref a1), (.ref a1)])) rfl rfl (hb hby d1_43)
  obtain ⟨T6, X6, e6, st6⟩ := getF X5 hx hZ hown (host := "") (Or.inl (hw _ (List.mem_of_getElem? (i := 10) rfl))) Via.refl e5 Fw4 (g := (mkF m 54 #[.val (.ref a1), .val (.int (700 : Int32))] [(.ref a1), (.ref a1)])) rfl rfl (hb hby d1_54)
  obtain ⟨T7, h7, k7, X7, e7, E7, A7, st7⟩ := newP X6 hx hZ (hw _ (List.mem_of_getElem? (i := 12) rfl)) e6 (g := (mkF m 59 #[.val (.ref a1), .val (.int (700 : Int32))] [(.int (1025 : Int32)), (.ref a1)])) rfl (hb hby d1_59) rfl (by decide) (cap := 1025) (by decide) (by decide) (by decide) (by decide)
  obtain ⟨b7, g7⟩ : ∃ z, z = h4.size := ⟨_, rfl⟩
  rw [← g7] at A7 st7
  have g_b7 : n0 ≤ b7 := Nat.le_trans Z4 (Nat.le_of_eq g7.symm)
  have sz_b7 : h0.size ≤ b7 := (Nat.le_trans K4.1 (Nat.le_of_eq g7.symm))
  have V7 : AR Z h7 b7 .int 1025 (fun _ => (.int (0 : Int32))) := (AR.new A7 (by decide) rfl)
  have K7 : Keep h0 h7 [a1] := K4.ext E7
  have Z7 : n0 ≤ h7.size := Nat.le_trans Z4 E7.1
  have f8 := ((F1.other W4 (Or.inr (slot_ne (Or.inr (hw _ (List.mem_of_getElem? (i := 14) rfl))) (Or.inr (hw _ (List.mem_of_getElem? (i := 11) rfl))) (by decide) (t := (.array .int)) (t' := .int) (by decide) (by decide)))).ext E7)
  have f9 := ((E1.wr W4).ext E7)
  obtain ⟨T10, h10, X10, e10, W10, st10⟩ := putF X7 hx hZ hown (host := "") (Or.inl (hw _ (List.mem_of_getElem? (i := 13) rfl))) Via.refl e7 f8 f9 (Or.inr ⟨(hw _ (List.mem_of_getElem? (i := 14) rfl)), rfl, hnm⟩) (hw _ (List.mem_of_getElem? (i := 2) rfl)) (ty := (.array .int)) (by decide) rfl rfl (g := (mkF m 61 #[.val (.ref a1), .val (.int (700 : Int32))] [(.ref b7), (.ref a1)])) rfl rfl (hb hby d1_61)
  have Fw10 := f8.same W10
  have K10 : Keep h0 h10 [a1] := K7.wr W10 (Or.inl (List.mem_of_getElem? (i := 0) rfl))
  have N10 := Fr.snoc X10 N4 g_a1
  have Z10 : n0 ≤ h10.size := Nat.le_trans Z7 (Keep.of_wr W10).1
  obtain ⟨fs, hr, hrun, hended, hW, hsame⟩ := X10.leave (v := none) (fun _ => rfl)
  refine ⟨_, _, pre0 _ (?_), hrun, hended, _, _, rfl, ?_, ⟨_, rfl⟩, hW, hsame.mono (by decide) (by decide)⟩
  · show Steps p.tables e below (s₁.setTop (mkF m 0 #[.val (.ref a1), .val (.int (700 : Int32))] [])) _
    refine XS.aloadN X0.here hx rfl (hb hby d1_0) rfl rfl ?_
    show Steps p.tables e below (s₁.setTop (mkF m 1 #[.val (.ref a1), .val (.int (700 : Int32))] [(.ref a1)])) _
    refine st1 _ ?_
    show Steps p.tables e below (T1.setTop (mkF m 4 #[.val (.ref a1), .val (.int (700 : Int32))] [])) _
    refine XS.iloadN X1.here hx rfl (hb hby d1_4) rfl ?_
    show Steps p.tables e below (T1.setTop (mkF m 5 #[.val (.ref a1), .val (.int (700 : Int32))] [(.int (700 : Int32))])) _
    refine XS.sipush X1.here hx rfl (hb hby d1_5) ?_
    show Steps p.tables e below (T1.setTop (mkF m 8 #[.val (.ref a1), .val (.int (700 : Int32))] [(.int (256 : Int32)), (.int (700 : Int32))])) _
    refine XS.icmpYes X1.here hx rfl (pc0 := 8) (pc' := 19) rfl (hb hby d1_8) rfl (tlt (by decide : (256 : Int32) < (700 : Int32))).2.2.1 (by decide) (by decide) ?_
    show Steps p.tables e below (T1.setTop (mkF m 19 #[.val (.ref a1), .val (.int (700 : Int32))] [])) _
    refine XS.aloadN X1.here hx rfl (hb hby d1_19) rfl rfl ?_
    show Steps p.tables e below (T1.setTop (mkF m 20 #[.val (.ref a1), .val (.int (700 : Int32))] [(.ref a1)])) _
    refine XS.iloadN X1.here hx rfl (hb hby d1_20) rfl ?_
    show Steps p.tables e below (T1.setTop (mkF m 21 #[.val (.ref a1), .val (.int (700 : Int32))] [(.int (700 : Int32)), (.ref a1)])) _
    refine st2 _ ?_
    show Steps p.tables e below (T2.setTop (mkF m 24 #[.val (.ref a1), .val (.int (700 : Int32))] [(.int (512 : Int32)), (.ref a1)])) _
    refine XS.iloadN X2.here hx rfl (hb hby d1_24) rfl ?_
    show Steps p.tables e below (T2.setTop (mkF m 25 #[.val (.ref a1), .val (.int (700 : Int32))] [(.int (700 : Int32)), (.int (512 : Int32)), (.ref a1)])) _
    refine XS.icmpYes X2.here hx rfl (pc0 := 25) (pc' := 32) rfl (hb hby d1_25) rfl (feq (by decide : ¬ ((512 : Int32) = (700 : Int32)))).2 (by decide) (by decide) ?_
    show Steps p.tables e below (T2.setTop (mkF m 32 #[.val (.ref a1), .val (.int (700 : Int32))] [(.ref a1)])) _
    refine XS.iconst X2.here hx rfl (hb hby d1_32) ?_
    show Steps p.tables e below (T2.setTop (mkF m 33 #[.val (.ref a1), .val (.int (700 : Int32))] [(.int (2 : Int32)), (.ref a1)])) _
    refine XS.iloadN X2.here hx rfl (hb hby d1_33) rfl ?_
    show Steps p.tables e below (T2.setTop (mkF m 34 #[.val (.ref a1), .val (.int (700 : Int32))] [(.int (700 : Int32)), (.int (2 : Int32)), (.ref a1)])) _
    refine st3 _ ?_
    show Steps p.tables e below (T3.setTop (mkF m 37 #[.val (.ref a1), .val (.int (700 : Int32))] [(.int (512 : Int32)), (.int (2 : Int32)), (.ref a1)])) _
    refine XS.imul X3.here hx rfl (hb hby d1_37) rfl ?_
    show Steps p.tables e below (T3.setTop (mkF m 38 #[.val (.ref a1), .val (.int (700 : Int32))] [(.int (1024 : Int32)), (.ref a1)])) _
    refine st4 _ ?_
    show Steps p.tables e below (T4.setTop (mkF m 41 #[.val (.ref a1), .val (.int (700 : Int32))] [])) _
    refine XS.aloadN X4.here hx rfl (hb hby d1_41) rfl rfl ?_
    show Steps p.tables e below (T4.setTop (mkF m 42 #[.val (.ref a1), .val (.int (700 : Int32))] [(.ref a1)])) _
    refine XS.aloadN X4.here hx rfl (hb hby d1_42) rfl rfl ?_
    show Steps p.tables e below (T4.setTop (mkF m 43 #[.val (.ref a1), .val (.int (700 : Int32))] [(.ref a1), (.ref a1)])) _
    refine st5 _ ?_
    show Steps p.tables e below (T5.setTop (mkF m 46 #[.val (.ref a1), .val (.int (700 : Int32))] [(.int (1024 : Int32)), (.ref a1)])) _
    refine XS.ifYes X5.here hx rfl (pc0 := 46) (pc' := 53) rfl (hb hby d1_46) rfl ((if0 _ _).trans (feq (by decide : ¬ ((1024 : Int32) = (0 : Int32)))).2) (by decide) (by decide) ?_
    show Steps p.tables e below (T5.setTop (mkF m 53 #[.val (.ref a1), .val (.int (700 : Int32))] [(.ref a1)])) _
    refine XS.aloadN X5.here hx rfl (hb hby d1_53) rfl rfl ?_
    show Steps p.tables e below (T5.setTop (mkF m 54 #[.val (.ref a1), .val (.int (700 : Int32))] [(.ref a1), (.ref a1)])) _
    refine st6 _ ?_
    show Steps p.tables e below (T6.setTop (mkF m 57 #[.val (.ref a1), .val (.int (700 : Int32))] [(.int (1024 : Int32)), (.ref a1)])) _
    refine XS.iconst X6.here hx rfl (hb hby d1_57) ?_
    show Steps p.tables e below (T6.setTop (mkF m 58 #[.val (.ref a1), .val (.int (700 : Int32))] [(.int (1 : Int32)), (.int (1024 : Int32)), (.ref a1)])) _
    refine XS.iadd X6.here hx rfl (hb hby d1_58) rfl ?_
    show Steps p.tables e below (T6.setTop (mkF m 59 #[.val (.ref a1), .val (.int (700 : Int32))] [(.int (1025 : Int32)), (.ref a1)])) _
    refine st7 _ ?_
    show Steps p.tables e below (T7.setTop (mkF m 61 #[.val (.ref a1), .val (.int (700 : Int32))] [(.ref b7), (.ref a1)])) _
    refine st10 _ ?_
    show Steps p.tables e below (T10.setTop (mkF m 64 #[.val (.ref a1), .val (.int (700 : Int32))] [])) _
    exact X10.returnOut hx Bd.returns (hb hby d1_64) hr
  have f11 := (f9.wr W10)
  have ne12 : a1 ≠ b7 := (Nat.ne_of_lt (Nat.lt_of_lt_of_le Fw4.lt (Nat.le_of_eq g7.symm)))
  have f13 := (V7.other W10 (Ne.symm ne12))
  have f14 := ((Fw4.ext E7).other W10 (Or.inr (slot_ne (Or.inr (hw _ (List.mem_of_getElem? (i := 11) rfl))) (Or.inr (hw _ (List.mem_of_getElem? (i := 14) rfl))) (by decide) (t := .int) (t' := (.array .int)) (by decide) (by decide))))
  have f15 := (((F3.other W4 (Or.inr (slot_ne (Or.inl (hw _ (List.mem_of_getElem? (i := 21) rfl))) (Or.inr (hw _ (List.mem_of_getElem? (i := 11) rfl))) (by decide) (t := .int) (t' := .int) (by decide) (by decide)))).ext E7).other W10 (Or.inr (slot_ne (Or.inl (hw _ (List.mem_of_getElem? (i := 21) rfl))) (Or.inr (hw _ (List.mem_of_getElem? (i := 14) rfl))) (by decide) (t := .int) (t' := (.array .int)) (by decide) (by decide))))
  · show QrmI_700 Z a1 h0 n0 _ T10.heap _
    rw [e10]
    exact ⟨rfl, N10, K10, f11, ⟨b7, g_b7, ne12, Fw10, f13⟩, f14, f15⟩
theorem d3_0 : decode prog_77_method_3_code 0 = .ok (.aload_n 0, 1) := by decide +kernel
theorem d3_1 : decode prog_77_method_3_code 1 = .ok (.dup, 1) := by decide +kernel
theorem d3_2 : decode prog_77_method_3_code 2 = .ok (.getfield 23, 3) := by decide +kernel
theorem d3_5 : decode prog_77_method_3_code 5 = .ok (.iload_n 2, 1) := by decide +kernel
theorem d3_6 : decode prog_77_method_3_code 6 = .ok (.iadd, 1) := by decide +kernel
theorem d3_7 : decode prog_77_method_3_code 7 = .ok (.putfield 23, 3) := by decide +kernel
theorem d3_10 : decode prog_77_method_3_code 10 = .ok (.aload_n 0, 1) := by decide +kernel
theorem d3_11 : decode prog_77_method_3_code 11 = .ok (.getfield 9, 3) := by decide +kernel
theorem d3_14 : decode prog_77_method_3_code 14 = .ok (.ifCond .ne 16, 3) := by decide +kernel
theorem d3_17 : decode prog_77_method_3_code 17 = .ok (.aload_n 0, 1) := by decide +kernel
theorem d3_18 : decode prog_77_method_3_code 18 = .ok (.getfield 19, 3) := by decide +kernel
theorem d3_21 : decode prog_77_method_3_code 21 = .ok (.iload_n 1, 1) := by decide +kernel
theorem d3_22 : decode prog_77_method_3_code 22 = .ok (.iconst 1, 1) := by decide +kernel
theorem d3_23 : decode prog_77_method_3_code 23 = .ok (.iadd, 1) := by decide +kernel
theorem d3_24 : decode prog_77_method_3_code 24 = .ok (.dup2, 1) := by decide +kernel
theorem d3_25 : decode prog_77_method_3_code 25 = .ok (.iaload, 1) := by decide +kernel
theorem d3_26 : decode prog_77_method_3_code 26 = .ok (.iload_n 2, 1) := by decide +kernel
theorem d3_27 : decode prog_77_method_3_code 27 = .ok (.iadd, 1) := by decide +kernel
theorem d3_28 : decode prog_77_method_3_code 28 = .ok (.iastore, 1) := by decide +kernel
theorem d3_29 : decode prog_77_method_3_code 29 = .ok (.return_, 1) := by decide +kernel
theorem ef_rmA_0 (m : MethodId) (x0 : Addr) (x1 : Int32) (x2 : Int32) : entryFrame m #[(.ref x0), (.int x1), (.int x2)] 4 = mkF m 0 #[.val (.ref x0), .val (.int x1), .val (.int x2), .unset] [] := by first | (simp [entryFrame, mkF, argsToLocals, Value.category]; done) | rfl
def QrmA_0 (Z : State) (a1 b1 : Addr) (p1 c1 t1 : Int32) (g : Nat → Int32) (h0 : Heap) (n0 : Nat) (v : Option Value) (h : Heap) (L : List Loc) : Prop := v = none ∧ Fr n0 L ∧ Keep h0 h [a1, b1] ∧ Exa Z h a1 "com/example/ebbtide/ebbtide/cluster/PlaceCounts" ∧ Fld Z h a1 "com/example/ebbtide/ebbtide/cluster/PlaceCounts" "sums" "[I" (.ref b1) ∧ Fld Z h a1 "com/example/ebbtide/ebbtide/cluster/PlaceCounts" "top" "I" (.int (0 : Int32)) ∧ Fld Z h a1 "com/example/ebbtide/ebbtide/cluster/PlaceCounts" "total" "I" (.int (t1 + c1)) ∧ AR Z h b1 .int 257 (fun j => (.int (own_pt g (p1 + (1 : Int32)).toNatClampNeg c1 j)))
set_option maxRecDepth 65536 in
set_option maxHeartbeats 40000000 in
theorem rmA_0 (l : Launch) (Z : State) (a0 : Array Value) (hw : ∀ d ∈ tables_1, d.before a0 Z = true) (ws : List Jvm.Cond) (a1 b1 : Addr) (p1 c1 t1 : Int32) (g : Nat → Int32) (h0 : Heap) (n0 : Nat) (Z0 : n0 ≤ h0.size) (E1 : Exa Z h0 a1 "com/example/ebbtide/ebbtide/cluster/PlaceCounts") (F1 : Fld Z h0 a1 "com/example/ebbtide/ebbtide/cluster/PlaceCounts" "sums" "[I" (.ref b1)) (F2 : Fld Z h0 a1 "com/example/ebbtide/ebbtide/cluster/PlaceCounts" "top" "I" (.int (0 : Int32))) (F3 : Fld Z h0 a1 "com/example/ebbtide/ebbtide/cluster/PlaceCounts" "total" "I" (.int t1)) (A1 : AR Z h0 b1 .int 257 (fun j => (.int (g j)))) (g_a1 : n0 ≤ a1) (g_b1 : n0 ≤ b1) (ne1 : a1 ≠ b1) (hin : ¬ (p1 + (1 : Int32)) < 0 ∧ (p1 + (1 : Int32)).toNatClampNeg < 257) :
    MetFree l (⟨"com/example/ebbtide/ebbtide/cluster/PlaceCounts", "add", "(II)V"⟩ : MethodName) (head1 (Jvm.Cond.code (⟨"com/example/ebbtide/ebbtide/cluster/PlaceCounts", "add", "(II)V"⟩ : MethodName) prog_77_method_3_code 4 none :: ws) ({ frames := 0, cells := 0, slots := 0, locals := 0 } : Room)) (fun a U => a = #[(.ref a1), (.int p1), (.int c1)] ∧ Z.Warmed39 U.vm ∧ U.heap = h0) (fun _ _ _ _ _ => True) (fun _ U o U' => ∃ v L, o = .returned v ∧ QrmA_0 Z a1 b1 p1 c1 t1 g h0 n0 v U'.heap L ∧ FrameEnd U o U' L ({ frames := 0, cells := 0, slots := 0, locals := 0 } : Room).cells ({ frames := 0, cells := 0, slots := 0, locals := 0 } : Room).slots) := by
  refine MetFree.of_bodySF (plainFor_of_name pn_com_example_ebbtide_ebbtide_cluster_PlaceCounts) hisR ?_
  intro p e s m args below meth c s₁ Bd hml0 hP hK
  obtain ⟨rfl, hZ, hh⟩ := hP
  have hx := Bd.exec
  have hby := Bd.bytes
  have hml : c.maxLocals = 4 := hml0
  have hown : s.vm.findClass "com/example/ebbtide/ebbtide/cluster/PlaceCounts" = some m.cls := findClass_of_methodNamed Bd.named
  have hnm := (name_of_methodNamed Bd.named Bd.method).1
  have X0 : Stand p l e ({ frames := 0, cells := 0, slots := 0, locals := 0 } : Room) s m #[(.ref a1), (.int p1), (.int c1)] below meth c s₁ [] 0 0 := Stand.of_body Bd
  have e0 : s₁.heap = h0 := by rw [← hh, Bd.state]; rfl
  have N0 := Fr.nil n0
  have pre0 : ∀ t, Steps p.tables e below (s₁.setTop (mkF m 0 #[.val (.ref a1), .val (.int p1), .val (.int c1), .unset] [])) t → Steps p.tables e below (s₁.setTop (entryFrame m #[(.ref a1), (.int p1), (.int c1)] 4)) t := fun t k => castTop (ef_rmA_0 m a1 p1 c1) k
  obtain ⟨T1, X1, e1, st1⟩ := getF X0 hx hZ hown (host := "") (Or.inl (hw _ (List.mem_of_getElem? (i := 20) rfl))) Via.refl e0 F3 (g := (mkF m 2 #[.val (.ref a1), .val (.int p1), .val (.int c1), .unset] [(.ref a1), (.ref a1)])) rfl rfl (hb hby d3_2)
  obtain ⟨T2, h2, X2, e2, W2, st2⟩ := putF X1 hx hZ hown (host := "") (Or.inl (hw _ (List.mem_of_getElem? (i := 20) rfl))) Via.refl e1 F3 E1 (Or.inl (hw _ (List.mem_of_getElem? (i := 21) rfl))) (hw _ (List.mem_of_getElem? (i := 2) rfl)) (ty := .int) (by decide) rfl rfl (g := (mkF m 7 #[.val (.ref a1), .val (.int p1), .val (.int c1), .unset] [(.int (t1 + c1)), (.ref a1)])) rfl rfl (hb hby d3_7)
  have Fw2 := F3.same W2
  have K2 : Keep h0 h2 [a1, b1] := (Keep.refl h0 [a1, b1]).wr W2 (Or.inl (List.mem_of_getElem? (i := 0) rfl))
  have N2 := Fr.snoc X2 N0 g_a1
  have Z2 : n0 ≤ h2.size := Nat.le_trans Z0 (Keep.of_wr W2).1
  have f3 := (F2.other W2 (Or.inr (slot_ne (Or.inr (hw _ (List.mem_of_getElem? (i := 11) rfl))) (Or.inl (hw _ (List.mem_of_getElem? (i := 21) rfl))) (by decide) (t := .int) (t' := .int) (by decide) (by decide))))
  obtain ⟨T4, X4, e4, st4⟩ := getF X2 hx hZ hown (host := "") (Or.inl (hw _ (List.mem_of_getElem? (i := 10) rfl))) Via.refl e2 f3 (g := (mkF m 11 #[.val (.ref a1), .val (.int p1), .val (.int c1), .unset] [(.ref a1)])) rfl rfl (hb hby d3_11)
  have f5 := (F1.other W2 (Or.inr (slot_ne (Or.inr (hw _ (List.mem_of_getElem? (i := 14) rfl))) (Or.inl (hw _ (List.mem_of_getElem? (i := 21) rfl))) (by decide) (t := (.array .int)) (t' := .int) (by decide) (by decide))))
  obtain ⟨T6, X6, e6, st6⟩ := getF X4 hx hZ hown (host := "") (Or.inl (hw _ (List.mem_of_getElem? (i := 13) rfl))) Via.refl e4 f5 (g := (mkF m 18 #[.val (.ref a1), .val (.int p1), .val (.int c1), .unset] [(.ref a1)])) rfl rfl (hb hby d3_18)
  have f7 := (A1.other W2 (Ne.symm ne1))
  obtain ⟨T8, h8, X8, e8, W8, V8q, st8⟩ := own_stI X6 hx hZ e6 f7 (j := (p1 + (1 : Int32))) hin (g := (mkF m 28 #[.val (.ref a1), .val (.int p1), .val (.int c1), .unset] [(.int ((g ((p1 + (1 : Int32))).toNatClampNeg) + c1)), (.int (p1 + (1 : Int32))), (.ref b1)])) rfl rfl (hb hby d3_28)
  have K8 : Keep h0 h8 [a1, b1] := K2.wr W8 (Or.inl (List.mem_of_getElem? (i := 1) rfl))
  have N8 := Fr.snoc X8 N2 g_b1
  have Z8 : n0 ≤ h8.size := Nat.le_trans Z2 (Keep.of_wr W8).1
  have V8 := own_fupI V8q
  obtain ⟨fs, hr, hrun, hended, hW, hsame⟩ := X8.leave (v := none) (fun _ => rfl)
  refine ⟨_, _, pre0 _ (?_), hrun, hended, _, _, rfl, ?_, ⟨_, rfl⟩, hW, hsame.mono (by decide) (by decide)⟩
  · show Steps p.tables e below (s₁.setTop (mkF m 0 #[.val (.ref a1), .val (.int p1), .val (.int c1), .unset] [])) _
    refine XS.aloadN X0.here hx rfl (hb hby d3_0) rfl rfl ?_
    show Steps p.tables e below (s₁.setTop (mkF m 1 #[.val (.ref a1), .val (.int p1), .val (.int c1), .unset] [(.ref a1)])) _
    refine XS.dup X0.here hx rfl (hb hby d3_1) rfl rfl ?_
    show Steps p.tables e below (s₁.setTop (mkF m 2 #[.val (.ref a1), .val (.int p1), .val (.int c1), .unset] [(.ref a1), (.ref a1)])) _
    refine st1 _ ?_
    show Steps p.tables e below (T1.setTop (mkF m 5 #[.val (.ref a1), .val (.int p1), .val (.int c1), .unset] [(.int t1), (.ref a1)])) _
    refine XS.iloadN X1.here hx rfl (hb hby d3_5) rfl ?_
    show Steps p.tables e below (T1.setTop (mkF m 6 #[.val (.ref a1), .val (.int p1), .val (.int c1), .unset] [(.int c1), (.int t1), (.ref a1)])) _
    refine XS.iadd X1.here hx rfl (hb hby d3_6) rfl ?_
    show Steps p.tables e below (T1.setTop (mkF m 7 #[.val (.ref a1), .val (.int p1), .val (.int c1), .unset] [(.int (t1 + c1)), (.ref a1)])) _
    refine st2 _ ?_
    show Steps p.tables e below (T2.setTop (mkF m 10 #[.val (.ref a1), .val (.int p1), .val (.int c1), .unset] [])) _
    refine XS.aloadN X2.here hx rfl (hb hby d3_10) rfl rfl ?_
    show Steps p.tables e below (T2.setTop (mkF m 11 #[.val (.ref a1), .val (.int p1), .val (.int c1), .unset] [(.ref a1)])) _
    refine st4 _ ?_
    show Steps p.tables e below (T4.setTop (mkF m 14 #[.val (.ref a1), .val (.int p1), .val (.int c1), .unset] [(.int (0 : Int32))])) _
    refine XS.ifNo X4.here hx rfl (hb hby d3_14) rfl ((if0 _ _).trans (teq (by decide : (0 : Int32) = (0 : Int32))).2) ?_
    show Steps p.tables e below (T4.setTop (mkF m 17 #[.val (.ref a1), .val (.int p1), .val (.int c1), .unset] [])) _
    refine XS.aloadN X4.here hx rfl (hb hby d3_17) rfl rfl ?_
    show Steps p.tables e below (T4.setTop (mkF m 18 #[.val (.ref a1), .val (.int p1), .val (.int c1), .unset] [(.ref a1)])) _
    refine st6 _ ?_
    show Steps p.tables e below (T6.setTop (mkF m 21 #[.val (.ref a1), .val (.int p1), .val (.int c1), .unset] [(.ref b1)])) _
    refine XS.iloadN X6.here hx rfl (hb hby d3_21) rfl ?_
    show Steps p.tables e below (T6.setTop (mkF m 22 #[.val (.ref a1), .val (.int p1), .val (.int c1), .unset] [(.int p1), (.ref b1)])) _
    refine XS.iconst X6.here hx rfl (hb hby d3_22) ?_
    show Steps p.tables e below (T6.setTop (mkF m 23 #[.val (.ref a1), .val (.int p1), .val (.int c1), .unset] [(.int (1 : Int32)), (.int p1), (.ref b1)])) _
    refine XS.iadd X6.here hx rfl (hb hby d3_23) rfl ?_
    show Steps p.tables e below (T6.setTop (mkF m 24 #[.val (.ref a1), .val (.int p1), .val (.int c1), .unset] [(.int (p1 + (1 : Int32))), (.ref b1)])) _
    refine Jvm.Free.XT.dup2 X6.here hx rfl (hb hby d3_24) rfl rfl rfl ?_
    show Steps p.tables e below (T6.setTop (mkF m 25 #[.val (.ref a1), .val (.int p1), .val (.int c1), .unset] [(.int (p1 + (1 : Int32))), (.ref b1), (.int (p1 + (1 : Int32))), (.ref b1)])) _
    refine own_ldI X6 hx hZ e6 f7 (j := (p1 + (1 : Int32))) (x := (g ((p1 + (1 : Int32))).toNatClampNeg)) hin rfl (g := (mkF m 25 #[.val (.ref a1), .val (.int p1), .val (.int c1), .unset] [(.int (p1 + (1 : Int32))), (.ref b1), (.int (p1 + (1 : Int32))), (.ref b1)])) rfl rfl (hb hby d3_25) _ ?_
    show Steps p.tables e below (T6.setTop (mkF m 26 #[.val (.ref a1), .val (.int p1), .val (.int c1), .unset] [(.int (g ((p1 + (1 : Int32))).toNatClampNeg)), (.int (p1 + (1 : Int32))), (.ref b1)])) _
    refine XS.iloadN X6.here hx rfl (hb hby d3_26) rfl ?_
    show Steps p.tables e below (T6.setTop (mkF m 27 #[.val (.ref a1), .val (.int p1), .val (.int c1), .unset] [(.int c1), (.int (g ((p1 + (1 : Int32))).toNatClampNeg)), (.int (p1 + (1 : Int32))), (.ref b1)])) _
    refine XS.iadd X6.here hx rfl (hb hby d3_27) rfl ?_
    show Steps p.tables e below (T6.setTop (mkF m 28 #[.val (.ref a1), .val (.int p1), .val (.int c1), .unset] [(.int ((g ((p1 + (1 : Int32))).toNatClampNeg) + c1)), (.int (p1 + (1 : Int32))), (.ref b1)])) _
    refine st8 _ ?_
    show Steps p.tables e below (T8.setTop (mkF m 29 #[.val (.ref a1), .val (.int p1), .val (.int c1), .unset] [])) _
    exact X8.returnOut hx Bd.returns (hb hby d3_29) hr
  have f9 := ((E1.wr W2).wr W8)
  have f10 := (f5.other W8 (Or.inl ne1))
  have f11 := (f3.other W8 (Or.inl ne1))
  have f12 := (Fw2.other W8 (Or.inl ne1))
  · show QrmA_0 Z a1 b1 p1 c1 t1 g h0 n0 _ T8.heap _
    rw [e8]
    exact ⟨rfl, N8, K8, f9, f10, f11, f12, (V8.eq fun j _ => congrArg Value.int (own_pt_eq g _ c1 j))⟩
theorem d3_34 : decode prog_77_method_3_code 34 = .ok (.iload_n 3, 1) := by decide +kernel
theorem d3_35 : decode prog_77_method_3_code 35 = .ok (.aload_n 0, 1) := by decide +kernel
theorem d3_36 : decode prog_77_method_3_code 36 = .ok (.getfield 19, 3) := by decide +kernel
theorem d3_39 : decode prog_77_method_3_code 39 = .ok (.arraylength, 1) := by decide +kernel
theorem d3_40 : decode prog_77_method_3_code 40 = .ok (.if_icmp .ge 23, 3) := by decide +kernel
theorem d3_43 : decode prog_77_method_3_code 43 = .ok (.aload_n 0, 1) := by decide +kernel
theorem d3_44 : decode prog_77_method_3_code 44 = .ok (.getfield 19, 3) := by decide +kernel
theorem d3_47 : decode prog_77_method_3_code 47 = .ok (.iload_n 3, 1) := by decide +kernel
theorem d3_48 : decode prog_77_method_3_code 48 = .ok (.dup2, 1) := by decide +kernel
theorem d3_49 : decode prog_77_method_3_code 49 = .ok (.iaload, 1) := by decide +kernel
theorem d3_50 : decode prog_77_method_3_code 50 = .ok (.iload_n 2, 1) := by decide +kernel
theorem d3_51 : decode prog_77_method_3_code 51 = .ok (.iadd, 1) := by decide +kernel
theorem d3_52 : decode prog_77_method_3_code 52 = .ok (.iastore, 1) := by decide +kernel
theorem d3_53 : decode prog_77_method_3_code 53 = .ok (.iload_n 3, 1) := by decide +kernel
theorem d3_54 : decode prog_77_method_3_code 54 = .ok (.iload_n 3, 1) := by decide +kernel
theorem d3_55 : decode prog_77_method_3_code 55 = .ok (.iload_n 3, 1) := by decide +kernel
theorem d3_56 : decode prog_77_method_3_code 56 = .ok (.ineg, 1) := by decide +kernel
theorem d3_57 : decode prog_77_method_3_code 57 = .ok (.iand, 1) := by decide +kernel
theorem d3_58 : decode prog_77_method_3_code 58 = .ok (.iadd, 1) := by decide +kernel
theorem d3_59 : decode prog_77_method_3_code 59 = .ok (.istore_n 3, 1) := by decide +kernel
theorem d3_60 : decode prog_77_method_3_code 60 = .ok (.goto (-26), 3) := by decide +kernel
set_option maxRecDepth 65536 in
set_option maxHeartbeats 40000000 in
theorem turnA_513 {p : Program} {l : Launch} {e : Env} {R : Room} {s : State} {m : MethodId} {args : Array Value} {below : List Frame} {meth : Method} {c : Code} {T0 : State} {locs : List Loc} {cells slots : Nat} {Z : State} {a0 : Array Value} {h0 : Heap} (a1 b1 : Addr) (p1 c1 i : Int32) (g : Nat → Int32)
    (X0 : Stand p l e R s m args below meth c T0 locs cells slots) (hx : p.tables.exec = Jvm.exec) (hZ : Z.Warmed39 s.vm) (hw : ∀ d ∈ tables_1, d.before a0 Z = true) (hby : c.code = prog_77_method_3_code) (hml : c.maxLocals = 4) (hown : s.vm.findClass "com/example/ebbtide/ebbtide/cluster/PlaceCounts" = some m.cls) (e0 : T0.heap = h0) (n0 : Nat) (N0 : Fr n0 locs) (Z0 : n0 ≤ h0.size) (F1 : Fld Z h0 a1 "com/example/ebbtide/ebbtide/cluster/PlaceCounts" "sums" "[I" (.ref b1)) (A1 : AR Z h0 b1 .int 513 (fun j => (.int (g j)))) (g_b1 : n0 ≤ b1) (hc : i < (513 : Int32)) (hin : ¬ i < 0 ∧ i.toNatClampNeg < 513) (ne1 : a1 ≠ b1) :
    ∃ (T' : State) (h' : Heap) (L' : List Loc), Stand p l e R s m args below meth c T' L' cells slots ∧ T'.heap = h' ∧ Fr n0 L' ∧ Keep h0 h' [b1] ∧ AR Z h' b1 .int 513 (fun j => (.int (if j = i.toNatClampNeg then g i.toNatClampNeg + c1 else g j))) ∧ (∀ t, Steps p.tables e below (T'.setTop (mkF m 34 #[.val (.ref a1), .val (.int p1), .val (.int c1), .val (.int (i + (i &&& (-i))))] [])) t → Steps p.tables e below (T0.setTop (mkF m 34 #[.val (.ref a1), .val (.int p1), .val (.int c1), .val (.int i)] [])) t) := by
  obtain ⟨T1, X1, e1, st1⟩ := getF X0 hx hZ hown (host := "") (Or.inl (hw _ (List.mem_of_getElem? (i := 13) rfl))) Via.refl e0 F1 (g := (mkF m 36 #[.val (.ref a1), .val (.int p1), .val (.int c1), .val (.int i)] [(.ref a1), (.int i)])) rfl rfl (hb hby d3_36)
  obtain ⟨T2, X2, e2, st2⟩ := getF X1 hx hZ hown (host := "") (Or.inl (hw _ (List.mem_of_getElem? (i := 13) rfl))) Via.refl e1 F1 (g := (mkF m 44 #[.val (.ref a1), .val (.int p1), .val (.int c1), .val (.int i)] [(.ref a1)])) rfl rfl (hb hby d3_44)
  obtain ⟨T3, h3, X3, e3, W3, V3q, st3⟩ := own_stI X2 hx hZ e2 A1 (j := i) hin (g := (mkF m 52 #[.val (.ref a1), .val (.int p1), .val (.int c1), .val (.int i)] [(.int ((g (i).toNatClampNeg) + c1)), (.int i), (.ref b1)])) rfl rfl (hb hby d3_52)
  have K3 : Keep h0 h3 [b1] := (Keep.refl h0 [b1]).wr W3 (Or.inl (List.mem_of_getElem? (i := 0) rfl))
  have N3 := Fr.snoc X3 N0 g_b1
  have Z3 : n0 ≤ h3.size := Nat.le_trans Z0 (Keep.of_wr W3).1
  have V3 := own_fupI V3q
  refine ⟨T3, h3, _, X3, e3, N3, K3, V3, fun t kt => ?_⟩
  · show Steps p.tables e below (T0.setTop (mkF m 34 #[.val (.ref a1), .val (.int p1), .val (.int c1), .val (.int i)] [])) _
    refine XS.iloadN X0.here hx rfl (hb hby d3_34) rfl ?_
    show Steps p.tables e below (T0.setTop (mkF m 35 #[.val (.ref a1), .val (.int p1), .val (.int c1), .val (.int i)] [(.int i)])) _
    refine XS.aloadN X0.here hx rfl (hb hby d3_35) rfl rfl ?_
    show Steps p.tables e below (T0.setTop (mkF m 36 #[.val (.ref a1), .val (.int p1), .val (.int c1), .val (.int i)] [(.ref a1), (.int i)])) _
    refine st1 _ ?_
    show Steps p.tables e below (T1.setTop (mkF m 39 #[.val (.ref a1), .val (.int p1), .val (.int c1), .val (.int i)] [(.ref b1), (.int i)])) _
    refine own_len X1 hx hZ e1 A1 (z := (513 : Int32)) rfl (g := (mkF m 39 #[.val (.ref a1), .val (.int p1), .val (.int c1), .val (.int i)] [(.ref b1), (.int i)])) rfl rfl (hb hby d3_39) _ ?_
    show Steps p.tables e below (T1.setTop (mkF m 40 #[.val (.ref a1), .val (.int p1), .val (.int c1), .val (.int i)] [(.int (513 : Int32)), (.int i)])) _
    refine XS.icmpNo X1.here hx rfl (hb hby d3_40) rfl (tlt hc).2.1 ?_
    show Steps p.tables e below (T1.setTop (mkF m 43 #[.val (.ref a1), .val (.int p1), .val (.int c1), .val (.int i)] [])) _
    refine XS.aloadN X1.here hx rfl (hb hby d3_43) rfl rfl ?_
    show Steps p.tables e below (T1.setTop (mkF m 44 #[.val (.ref a1), .val (.int p1), .val (.int c1), .val (.int i)] [(.ref a1)])) _
    refine st2 _ ?_
    show Steps p.tables e below (T2.setTop (mkF m 47 #[.val (.ref a1), .val (.int p1), .val (.int c1), .val (.int i)] [(.ref b1)])) _
    refine XS.iloadN X2.here hx rfl (hb hby d3_47) rfl ?_
    show Steps p.tables e below (T2.setTop (mkF m 48 #[.val (.ref a1), .val (.int p1), .val (.int c1), .val (.int i)] [(.int i), (.ref b1)])) _
    refine Jvm.Free.XT.dup2 X2.here hx rfl (hb hby d3_48) rfl rfl rfl ?_
    show Steps p.tables e below (T2.setTop (mkF m 49 #[.val (.ref a1), .val (.int p1), .val (.int c1), .val (.int i)] [(.int i), (.ref b1), (.int i), (.ref b1)])) _
    refine own_ldI X2 hx hZ e2 A1 (j := i) (x := (g (i).toNatClampNeg)) hin rfl (g := (mkF m 49 #[.val (.ref a1), .val (.int p1), .val (.int c1), .val (.int i)] [(.int i), (.ref b1), (.int i), (.ref b1)])) rfl rfl (hb hby d3_49) _ ?_
    show Steps p.tables e below (T2.setTop (mkF m 50 #[.val (.ref a1), .val (.int p1), .val (.int c1), .val (.int i)] [(.int (g (i).toNatClampNeg)), (.int i), (.ref b1)])) _
    refine XS.iloadN X2.here hx rfl (hb hby d3_50) rfl ?_
    show Steps p.tables e below (T2.setTop (mkF m 51 #[.val (.ref a1), .val (.int p1), .val (.int c1), .val (.int i)] [(.int c1), (.int (g (i).toNatClampNeg)), (.int i), (.ref b1)])) _
    refine XS.iadd X2.here hx rfl (hb hby d3_51) rfl ?_
    show Steps p.tables e below (T2.setTop (mkF m 52 #[.val (.ref a1), .val (.int p1), .val (.int c1), .val (.int i)] [(.int ((g (i).toNatClampNeg) + c1)), (.int i), (.ref b1)])) _
    refine st3 _ ?_
    show Steps p.tables e below (T3.setTop (mkF m 53 #[.val (.ref a1), .val (.int p1), .val (.int c1), .val (.int i)] [])) _
    refine XS.iloadN X3.here hx rfl (hb hby d3_53) rfl ?_
    show Steps p.tables e below (T3.setTop (mkF m 54 #[.val (.ref a1), .val (.int p1), .val (.int c1), .val (.int i)] [(.int i)])) _
    refine XS.iloadN X3.here hx rfl (hb hby d3_54) rfl ?_
    show Steps p.tables e below (T3.setTop (mkF m 55 #[.val (.ref a1), .val (.int p1), .val (.int c1), .val (.int i)] [(.int i), (.int i)])) _
    refine XS.iloadN X3.here hx rfl (hb hby d3_55) rfl ?_
    show Steps p.tables e below (T3.setTop (mkF m 56 #[.val (.ref a1), .val (.int p1), .val (.int c1), .val (.int i)] [(.int i), (.int i), (.int i)])) _
    refine XS.ineg X3.here hx rfl (hb hby d3_56) rfl ?_
    show Steps p.tables e below (T3.setTop (mkF m 57 #[.val (.ref a1), .val (.int p1), .val (.int c1), .val (.int i)] [(.int (-i)), (.int i), (.int i)])) _
    refine XS.iand X3.here hx rfl (hb hby d3_57) rfl ?_
    show Steps p.tables e below (T3.setTop (mkF m 58 #[.val (.ref a1), .val (.int p1), .val (.int c1), .val (.int i)] [(.int (i &&& (-i))), (.int i)])) _
    refine XS.iadd X3.here hx rfl (hb hby d3_58) rfl ?_
    show Steps p.tables e below (T3.setTop (mkF m 59 #[.val (.ref a1), .val (.int p1), .val (.int c1), .val (.int i)] [(.int (i + (i &&& (-i))))])) _
    refine XS.istoreN X3.here hx rfl (hb hby d3_59) rfl (l' := #[.val (.ref a1), .val (.int p1), .val (.int c1), .val (.int (i + (i &&& (-i))))]) rfl ?_
    show Steps p.tables e below (T3.setTop (mkF m 60 #[.val (.ref a1), .val (.int p1), .val (.int c1), .val (.int (i + (i &&& (-i))))] [])) _
    refine XS.goto X3.here hx rfl (pc0 := 60) (pc' := 34) rfl (hb hby d3_60) (by decide) (by decide) ?_
    exact kt
set_option maxRecDepth 65536 in
set_option maxHeartbeats 40000000 in
theorem exitA_513 {p : Program} {l : Launch} {e : Env} {R : Room} {s : State} {m : MethodId} {args : Array Value} {below : List Frame} {meth : Method} {c : Code} {T0 : State} {locs : List Loc} {cells slots : Nat} {Z : State} {a0 : Array Value} {h0 : Heap} (a1 b1 : Addr) (p1 c1 i : Int32) (g : Nat → Int32)
    (X0 : Stand p l e R s m args below meth c T0 locs cells slots) (hx : p.tables.exec = Jvm.exec) (hZ : Z.Warmed39 s.vm) (hw : ∀ d ∈ tables_1, d.before a0 Z = true) (hby : c.code = prog_77_method_3_code) (hml : c.maxLocals = 4) (hown : s.vm.findClass "com/example/ebbtide/ebbtide/cluster/PlaceCounts" = some m.cls) (e0 : T0.heap = h0) (n0 : Nat) (N0 : Fr n0 locs) (Z0 : n0 ≤ h0.size) (F1 : Fld Z h0 a1 "com/example/ebbtide/ebbtide/cluster/PlaceCounts" "sums" "[I" (.ref b1)) (A1 : AR Z h0 b1 .int 513 (fun j => (.int (g j)))) (g_b1 : n0 ≤ b1) (hc : ¬ (i < (513 : Int32))) :
    ∃ (T' : State) (h' : Heap) (L' : List Loc), Stand p l e R s m args below meth c T' L' cells slots ∧ T'.heap = h' ∧ Fr n0 L' ∧ Keep h0 h' [b1] ∧ h' = h0 ∧ (∀ t, Steps p.tables e below (T'.setTop (mkF m 63 #[.val (.ref a1), .val (.int p1), .val (.int c1), .val (.int i)] [])) t → Steps p.tables e below (T0.setTop (mkF m 34 #[.val (.ref a1), .val (.int p1), .val (.int c1), .val (.int i)] [])) t) := by
  obtain ⟨T1, X1, e1, st1⟩ := getF X0 hx hZ hown (host := "") (Or.inl (hw _ (List.mem_of_getElem? (i := 13) rfl))) Via.refl e0 F1 (g := (mkF m 36 #[.val (.ref a1), .val (.int p1), .val (.int c1), .val (.int i)] [(.ref a1), (.int i)])) rfl rfl (hb hby d3_36)
  refine ⟨T1, _, _, X1, e1, N0, (Keep.refl h0 [b1]), rfl, fun t kt => ?_⟩
  · show Steps p.tables e below (T0.setTop (mkF m 34 #[.val (.ref a1), .val (.int p1), .val (.int c1), .val (.int i)] [])) _
    refine XS.iloadN X0.here hx rfl (hb hby d3_34) rfl ?_
    show Steps p.tables e below (T0.setTop (mkF m 35 #[.val (.ref a1), .val (.int p1), .val (.int c1), .val (.int i)] [(.int i)])) _
    refine XS.aloadN X0.here hx rfl (hb hby d3_35) rfl rfl ?_
    show Steps p.tables e below (T0.setTop (mkF m 36 #[.val (.ref a1), .val (.int p1), .val (.int c1), .val (.int i)] [(.ref a1), (.int i)])) _
    refine st1 _ ?_
    show Steps p.tables e below (T1.setTop (mkF m 39 #[.val (.ref a1), .val (.int p1), .val (.int c1), .val (.int i)] [(.ref b1), (.int i)])) _
    refine own_len X1 hx hZ e1 A1 (z := (513 : Int32)) rfl (g := (mkF m 39 #[.val (.ref a1), .val (.int p1), .val (.int c1), .val (.int i)] [(.ref b1), (.int i)])) rfl rfl (hb hby d3_39) _ ?_
    show Steps p.tables e below (T1.setTop (mkF m 40 #[.val (.ref a1), .val (.int p1), .val (.int c1), .val (.int i)] [(.int (513 : Int32)), (.int i)])) _
    refine XS.icmpYes X1.here hx rfl (pc0 := 40) (pc' := 63) rfl (hb hby d3_40) rfl (flt hc).2.1 (by decide) (by decide) ?_
    exact kt
theorem outA_513 {p : Program} {l : Launch} {e : Env} {R : Room} {s : State} {m : MethodId} {args : Array Value} {below : List Frame} {meth : Method} {c : Code} {T0 : State} {locs : List Loc} {cells slots : Nat} {Z : State} {a0 : Array Value} {h0 : Heap} (a1 b1 : Addr) (p1 c1 i : Int32) (g : Nat → Int32) (X0 : Stand p l e R s m args below meth c T0 locs cells slots) (hx : p.tables.exec = Jvm.exec) (hZ : Z.Warmed39 s.vm) (hw : ∀ d ∈ tables_1, d.before a0 Z = true) (hby : c.code = prog_77_method_3_code) (hml : c.maxLocals = 4) (hown : s.vm.findClass "com/example/ebbtide/ebbtide/cluster/PlaceCounts" = some m.cls) (e0 : T0.heap = h0) (n0 : Nat) (N0 : Fr n0 locs) (Z0 : n0 ≤ h0.size) (F1 : Fld Z h0 a1 "com/example/ebbtide/ebbtide/cluster/PlaceCounts" "sums" "[I" (.ref b1)) (A1 : AR Z h0 b1 .int 513 (fun j => (.int (g j)))) (g_b1 : n0 ≤ b1)  (ne1 : a1 ≠ b1) (hi : 1 ≤ i.toInt) (hc : ¬ (i < (513 : Int32))) : ∃ (T' : State) (h' : Heap) (L' : List Loc) (i' : Int32), Stand p l e R s m args below meth c T' L' cells slots ∧ T'.heap = h' ∧ Fr n0 L' ∧ Keep h0 h' [b1] ∧ AR Z h' b1 .int 513 (fun j => (.int (own_fen g i.toNatClampNeg c1 j))) ∧ (∀ t, Steps p.tables e below (T'.setTop (mkF m 63 #[.val (.ref a1), .val (.int p1), .val (.int c1), .val (.int i')] [])) t → Steps p.tables e below (T0.setTop (mkF m 34 #[.val (.ref a1), .val (.int p1), .val (.int c1), .val (.int i)] [])) t) := by
  obtain ⟨T', h', L', X', e', N', K', hh', st'⟩ := exitA_513 a1 b1 p1 c1 i g X0 hx hZ hw hby hml hown e0 n0 N0 Z0 F1 A1 g_b1 hc
  refine ⟨T', h', L', i, X', e', N', K', ?_, st'⟩
  have hz : ((513 : Int32)).toInt = 513 := rfl
  rw [Int32.lt_iff_toInt_lt, hz] at hc
  have hn := (own_ofNat i (by omega)).2
  have A2 : AR Z h' b1 .int 513 (fun j => (.int (g j))) := hh' ▸ A1
  exact A2.eq fun j hj => congrArg Value.int (own_fen_out g i.toNatClampNeg 513 c1 (by omega) j hj)
theorem loopA_513 (k : Nat) : ∀ {p : Program} {l : Launch} {e : Env} {R : Room} {s : State} {m : MethodId} {args : Array Value} {below : List Frame} {meth : Method} {c : Code} {T0 : State} {locs : List Loc} {cells slots : Nat} {Z : State} {a0 : Array Value} {h0 : Heap} (a1 b1 : Addr) (p1 c1 i : Int32) (g : Nat → Int32) (X0 : Stand p l e R s m args below meth c T0 locs cells slots) (hx : p.tables.exec = Jvm.exec) (hZ : Z.Warmed39 s.vm) (hw : ∀ d ∈ tables_1, d.before a0 Z = true) (hby : c.code = prog_77_method_3_code) (hml : c.maxLocals = 4) (hown : s.vm.findClass "com/example/ebbtide/ebbtide/cluster/PlaceCounts" = some m.cls) (e0 : T0.heap = h0) (n0 : Nat) (N0 : Fr n0 locs) (Z0 : n0 ≤ h0.size) (F1 : Fld Z h0 a1 "com/example/ebbtide/ebbtide/cluster/PlaceCounts" "sums" "[I" (.ref b1)) (A1 : AR Z h0 b1 .int 513 (fun j => (.int (g j)))) (g_b1 : n0 ≤ b1)  (ne1 : a1 ≠ b1) (hi : 1 ≤ i.toInt) (hk : 513 ≤ i.toInt + k), ∃ (T' : State) (h' : Heap) (L' : List Loc) (i' : Int32), Stand p l e R s m args below meth c T' L' cells slots ∧ T'.heap = h' ∧ Fr n0 L' ∧ Keep h0 h' [b1] ∧ AR Z h' b1 .int 513 (fun j => (.int (own_fen g i.toNatClampNeg c1 j))) ∧ (∀ t, Steps p.tables e below (T'.setTop (mkF m 63 #[.val (.ref a1), .val (.int p1), .val (.int c1), .val (.int i')] [])) t → Steps p.tables e below (T0.setTop (mkF m 34 #[.val (.ref a1), .val (.int p1), .val (.int c1), .val (.int i)] [])) t) := by
  induction k with
  | zero =>
    intro p l e R s m args below meth c T0 locs cells slots Z a0 h0 a1 b1 p1 c1 i g X0 hx hZ hw hby hml hown e0 n0 N0 Z0 F1 A1 g_b1 ne1 hi hk
    exact outA_513 a1 b1 p1 c1 i g X0 hx hZ hw hby hml hown e0 n0 N0 Z0 F1 A1 g_b1 ne1 hi (by have hz : ((513 : Int32)).toInt = 513 := rfl; rw [Int32.lt_iff_toInt_lt, hz]; omega)
  | succ k ih =>
    intro p l e R s m args below meth c T0 locs cells slots Z a0 h0 a1 b1 p1 c1 i g X0 hx hZ hw hby hml hown e0 n0 N0 Z0 F1 A1 g_b1 ne1 hi hk
    by_cases hc : i < (513 : Int32)
    · have hin := own_in i 513 (513 : Int32) rfl hi hc
      have hz : ((513 : Int32)).toInt = 513 := rfl
      have hlt : i.toInt < 513 := by have := hc; rw [Int32.lt_iff_toInt_lt, hz] at this; exact this
      obtain ⟨n1, n2, n3⟩ := own_next i hi (by omega)
      have hn := (own_ofNat i (by omega)).2
      obtain ⟨T1, h1, L1, X1, e1, N1, K1, V1, st1⟩ := turnA_513 a1 b1 p1 c1 i g X0 hx hZ hw hby hml hown e0 n0 N0 Z0 F1 A1 g_b1 hc hin ne1
      obtain ⟨T2, h2, L2, i2, X2, e2, N2, K2, V2, st2⟩ := ih a1 b1 p1 c1 (i + (i &&& (-i))) (fun j => if j = i.toNatClampNeg then g i.toNatClampNeg + c1 else g j) X1 hx hZ hw hby hml hown e1 n0 N1 (Nat.le_trans Z0 K1.1) (F1.keep K1 (ninS ne1 nin0)) V1 g_b1 ne1 (by omega) (by omega)
      exact ⟨T2, h2, L2, i2, X2, e2, N2, K1.trans K2 (allS (Or.inl (List.mem_of_getElem? (i := 0) rfl)) all0), V2.eq (fun j hj => congrArg Value.int (own_fen_turn g i c1 hi (by omega) j (by omega))), fun t kt => st1 t (st2 t kt)⟩
    · exact outA_513 a1 b1 p1 c1 i g X0 hx hZ hw hby hml hown e0 n0 N0 Z0 F1 A1 g_b1 ne1 hi hc
theorem d3_30 : decode prog_77_method_3_code 30 = .ok (.iload_n 1, 1) := by decide +kernel
theorem d3_31 : decode prog_77_method_3_code 31 = .ok (.iconst 1, 1) := by decide +kernel
theorem d3_32 : decode prog_77_method_3_code 32 = .ok (.iadd, 1) := by decide +kernel
theorem d3_33 : decode prog_77_method_3_code 33 = .ok (.istore_n 3, 1) := by decide +kernel
theorem d3_63 : decode prog_77_method_3_code 63 = .ok (.return_, 1) := by decide +kernel
theorem ef_rmA_512 (m : MethodId) (x0 : Addr) (x1 : Int32) (x2 : Int32) : entryFrame m #[(.ref x0), (.int x1), (.int x2)] 4 = mkF m 0 #[.val (.ref x0), .val (.int x1), .val (.int x2), .unset] [] := by first | (simp [entryFrame, mkF, argsToLocals, Value.category]; done) | rfl
def QrmA_512 (Z : State) (a1 b1 : Addr) (p1 c1 t1 : Int32) (g : Nat → Int32) (h0 : Heap) (n0 : Nat) (v : Option Value) (h : Heap) (L : List Loc) : Prop := v = none ∧ Fr n0 L ∧ Keep h0 h [a1, b1] ∧ Exa Z h a1 "com/example/ebbtide/ebbtide/cluster/PlaceCounts" ∧ Fld Z h a1 "com/example/ebbtide/ebbtide/cluster/PlaceCounts" "sums" "[I" (.ref b1) ∧ Fld Z h a1 "com/example/ebbtide/ebbtide/cluster/PlaceCounts" "top" "I" (.int (512 : Int32)) ∧ Fld Z h a1 "com/example/ebbtide/ebbtide/cluster/PlaceCounts" "total" "I" (.int (t1 + c1)) ∧ AR Z h b1 .int 513 (fun j => (.int (own_fen g (p1 + (1 : Int32)).toNatClampNeg c1 j)))
set_option maxRecDepth 65536 in
set_option maxHeartbeats 40000000 in
theorem rmA_512 (l : Launch) (Z : State) (a0 : Array Value) (hw : ∀ d ∈ tables_1, d.before a0 Z = true) (ws : List Jvm.Cond) (a1 b1 : Addr) (p1 c1 t1 : Int32) (g : Nat → Int32) (h0 : Heap) (n0 : Nat) (Z0 : n0 ≤ h0.size) (E1 : Exa Z h0 a1 "com/example/ebbtide/ebbtide/cluster/PlaceCounts") (F1 : Fld Z h0 a1 "com/example/ebbtide/ebbtide/cluster/PlaceCounts" "sums" "[I" (.ref b1)) (F2 : Fld Z h0 a1 "com/example/ebbtide/ebbtide/cluster/PlaceCounts" "top" "I" (.int (512 : Int32))) (F3 : Fld Z h0 a1 "com/example/ebbtide/ebbtide/cluster/PlaceCounts" "total" "I" (.int t1)) (A1 : AR Z h0 b1 .int 513 (fun j => (.int (g j)))) (g_a1 : n0 ≤ a1) (g_b1 : n0 ≤ b1) (ne1 : a1 ≠ b1) (hp : 1 ≤ (p1 + (1 : Int32)).toInt) :
    MetFree l (⟨"com/example/ebbtide/ebbtide/cluster/PlaceCounts", "add", "(II)V"⟩ : MethodName) (head1 (Jvm.Cond.code (⟨"com/example/ebbtide/ebbtide/cluster/PlaceCounts", "add", "(II)V"⟩ : MethodName) prog_77_method_3_code 4 none :: ws) ({ frames := 0, cells := 0, slots := 0, locals := 0 } : Room)) (fun a U => a = #[(.ref a1), (.int p1), (.int c1)] ∧ Z.Warmed39 U.vm ∧ U.heap = h0) (fun _ _ _ _ _ => True) (fun _ U o U' => ∃ v L, o = .returned v ∧ QrmA_512 Z a1 b1 p1 c1 t1 g h0 n0 v U'.heap L ∧ FrameEnd U o U' L ({ frames := 0, cells := 0, slots := 0, locals := 0 } : Room).cells ({ frames := 0, cells := 0, slots := 0, locals := 0 } : Room).slots) := by
  refine MetFree.of_bodySF (plainFor_of_name pn_com_example_ebbtide_ebbtide_cluster_PlaceCounts) hisR ?_
  intro p e s m args below meth c s₁ Bd hml0 hP hK
  obtain ⟨rfl, hZ, hh⟩ := hP
  have hx := Bd.exec
  have hby := Bd.bytes
  have hml : c.maxLocals = 4 := hml0
  have hown : s.vm.findClass "com/example/ebbtide/ebbtide/cluster/PlaceCounts" = some m.cls := findClass_of_methodNamed Bd.named
  have hnm := (name_of_methodNamed Bd.named Bd.method).1
  have X0 : Stand p l e ({ frames := 0, cells := 0, slots := 0, locals := 0 } : Room) s m #[(.ref a1), (.int p1), (.int c1)] below meth c s₁ [] 0 0 := Stand.of_body Bd
  have e0 : s₁.heap = h0 := by rw [← hh, Bd.state]; rfl
  have N0 := Fr.nil n0
  have pre0 : ∀ t, Steps p.tables e below (s₁.setTop (mkF m 0 #[.val (.ref a1), .val (.int p1), .val (.int c1), .unset] [])) t → Steps p.tables e below (s₁.setTop (entryFrame m #[(.ref a1), (.int p1), (.int c1)] 4)) t := fun t k => castTop (ef_rmA_512 m a1 p1 c1) k
  obtain ⟨T1, X1, e1, st1⟩ := getF X0 hx hZ hown (host := "") (Or.inl (hw _ (List.mem_of_getElem? (i := 20) rfl))) Via.refl e0 F3 (g := (mkF m 2 #[.val (.ref a1), .val (.int p1), .val (.int c1), .unset] [(.ref a1), (.ref a1)])) rfl rfl (hb hby d3_2)
  obtain ⟨T2, h2, X2, e2, W2, st2⟩ := putF X1 hx hZ hown (host := "") (Or.inl (hw _ (List.mem_of_getElem? (i := 20) rfl))) Via.refl e1 F3 E1 (Or.inl (hw _ (List.mem_of_getElem? (i := 21) rfl))) (hw _ (List.mem_of_getElem? (i := 2) rfl)) (ty := .int) (by decide) rfl rfl (g := (mkF m 7 #[.val (.ref a1), .val (.int p1), .val (.int c1), .unset] [(.int (t1 + c1)), (.ref a1)])) rfl rfl (hb hby d3_7)
  have Fw2 := F3.same W2
  have K2 : Keep h0 h2 [a1, b1] := (Keep.refl h0 [a1, b1]).wr W2 (Or.inl (List.mem_of_getElem? (i := 0) rfl))
  have N2 := Fr.snoc X2 N0 g_a1
  have Z2 : n0 ≤ h2.size := Nat.le_trans Z0 (Keep.of_wr W2).1
  have f3 := (F2.other W2 (Or.inr (slot_ne (Or.inr (hw _ (List.mem_of_getElem? (i := 11) rfl))) (Or.inl (hw _ (List.mem_of_getElem? (i := 21) rfl))) (by decide) (t := .int) (t' := .int) (by decide) (by decide))))
  obtain ⟨T4, X4, e4, st4⟩ := getF X2 hx hZ hown (host := "") (Or.inl (hw _ (List.mem_of_getElem? (i := 10) rfl))) Via.refl e2 f3 (g := (mkF m 11 #[.val (.ref a1), .val (.int p1), .val (.int c1), .unset] [(.ref a1)])) rfl rfl (hb hby d3_11)
  have f5 := (F1.other W2 (Or.inr (slot_ne (Or.inr (hw _ (List.mem_of_getElem? (i := 14) rfl))) (Or.inl (hw _ (List.mem_of_getElem? (i := 21) rfl))) (by decide) (t := (.array .int)) (t' := .int) (by decide) (by decide))))
  have f6 := (A1.other W2 (Ne.symm ne1))
  have c8 : ∀ t, Steps p.tables e below (T4.setTop (mkF m 34 #[.val (.ref a1), .val (.int p1), .val (.int c1), .val (.int (p1 + (1 : Int32)))] [])) t → Steps p.tables e below (s₁.setTop (mkF m 0 #[.val (.ref a1), .val (.int p1), .val (.int c1), .unset] [])) t := by
    intro t kt
    show Steps p.tables e below (s₁.setTop (mkF m 0 #[.val (.ref a1), .val (.int p1), .val (.int c1), .unset] [])) _
    refine XS.aloadN X0.here hx rfl (hb hby d3_0) rfl rfl ?_
    show Steps p.tables e below (s₁.setTop (mkF m 1 #[.val (.ref a1), .val (.int p1), .val (.int c1), .unset] [(.ref a1)])) _
    refine XS.dup X0.here hx rfl (hb hby d3_1) rfl rfl ?_
    show Steps p.tables e below (s₁.setTop (mkF m 2 #[.val (.ref a1), .val (.int p1), .val (.int c1), .unset] [(.ref a1), (.ref a1)])) _
    refine st1 _ ?_
    show Steps p.tables e below (T1.setTop (mkF m 5 #[.val (.ref a1), .val (.int p1), .val (.int c1), .unset] [(.int t1), (.ref a1)])) _
    refine XS.iloadN X1.here hx rfl (hb hby d3_5) rfl ?_
    show Steps p.tables e below (T1.setTop (mkF m 6 #[.val (.ref a1), .val (.int p1), .val (.int c1), .unset] [(.int c1), (.int t1), (.ref a1)])) _
    refine XS.iadd X1.here hx rfl (hb hby d3_6) rfl ?_
    show Steps p.tables e below (T1.setTop (mkF m 7 #[.val (.ref a1), .val (.int p1), .val (.int c1), .unset] [(.int (t1 + c1)), (.ref a1)])) _
    refine st2 _ ?_
    show Steps p.tables e below (T2.setTop (mkF m 10 #[.val (.ref a1), .val (.int p1), .val (.int c1), .unset] [])) _
    refine XS.aloadN X2.here hx rfl (hb hby d3_10) rfl rfl ?_
    show Steps p.tables e below (T2.setTop (mkF m 11 #[.val (.ref a1), .val (.int p1), .val (.int c1), .unset] [(.ref a1)])) _
    refine st4 _ ?_
    show Steps p.tables e below (T4.setTop (mkF m 14 #[.val (.ref a1), .val (.int p1), .val (.int c1), .unset] [(.int (512 : Int32))])) _
    refine XS.ifYes X4.here hx rfl (pc0 := 14) (pc' := 30) rfl (hb hby d3_14) rfl ((if0 _ _).trans (feq (by decide : ¬ ((512 : Int32) = (0 : Int32)))).2) (by decide) (by decide) ?_
    show Steps p.tables e below (T4.setTop (mkF m 30 #[.val (.ref a1), .val (.int p1), .val (.int c1), .unset] [])) _
    refine XS.iloadN X4.here hx rfl (hb hby d3_30) rfl ?_
    show Steps p.tables e below (T4.setTop (mkF m 31 #[.val (.ref a1), .val (.int p1), .val (.int c1), .unset] [(.int p1)])) _
    refine XS.iconst X4.here hx rfl (hb hby d3_31) ?_
    show Steps p.tables e below (T4.setTop (mkF m 32 #[.val (.ref a1), .val (.int p1), .val (.int c1), .unset] [(.int (1 : Int32)), (.int p1)])) _
    refine XS.iadd X4.here hx rfl (hb hby d3_32) rfl ?_
    show Steps p.tables e below (T4.setTop (mkF m 33 #[.val (.ref a1), .val (.int p1), .val (.int c1), .unset] [(.int (p1 + (1 : Int32)))])) _
    refine XS.istoreN X4.here hx rfl (hb hby d3_33) rfl (l' := #[.val (.ref a1), .val (.int p1), .val (.int c1), .val (.int (p1 + (1 : Int32)))]) rfl ?_
    exact kt
  obtain ⟨T7, h7, L7, i7, X7, e7, N7, K7q, V7, st7⟩ := loopA_513 513 a1 b1 p1 c1 (p1 + (1 : Int32)) g X4 hx hZ hw hby hml hown e4 n0 N2 Z2 f5 f6 g_b1 ne1 hp (by omega)
  have K7 : Keep h0 h7 [a1, b1] := K2.trans K7q (allS (Or.inl (List.mem_of_getElem? (i := 1) rfl)) all0)
  have Z7 : n0 ≤ h7.size := Nat.le_trans Z2 K7q.1
  obtain ⟨fs, hr, hrun, hended, hW, hsame⟩ := X7.leave (v := none) (fun _ => rfl)
  refine ⟨_, _, pre0 _ (c8 _ (?_)), hrun, hended, _, _, rfl, ?_, ⟨_, rfl⟩, hW, hsame.mono (by decide) (by decide)⟩
  · show Steps p.tables e below (T4.setTop (mkF m 34 #[.val (.ref a1), .val (.int p1), .val (.int c1), .val (.int (p1 + (1 : Int32)))] [])) _
    refine st7 _ ?_
    show Steps p.tables e below (T7.setTop (mkF m 63 #[.val (.ref a1), .val (.int p1), .val (.int c1), .val (.int i7)] [])) _
    exact X7.returnOut hx Bd.returns (hb hby d3_63) hr
  have f9 := ((E1.wr W2).keep K7q)
  have f10 := (f5.keep K7q (ninS ne1 nin0))
  have f11 := (f3.keep K7q (ninS ne1 nin0))
  have f12 := (Fw2.keep K7q (ninS ne1 nin0))
  · show QrmA_512 Z a1 b1 p1 c1 t1 g h0 n0 _ T7.heap _
    rw [e7]
    exact ⟨rfl, N7, K7, f9, f10, f11, f12, V7⟩
set_option maxRecDepth 65536 in
set_option maxHeartbeats 40000000 in
theorem turnA_1025 {p : Program} {l : Launch} {e : Env} {R : Room} {s : State} {m : MethodId} {args : Array Value} {below : List Frame} {meth : Method} {c : Code} {T0 : State} {locs : List Loc} {cells slots : Nat} {Z : State} {a0 : Array Value} {h0 : Heap} (a1 b1 : Addr) (p1 c1 i : Int32) (g : Nat → Int32)
    (X0 : Stand p l e R s m args below meth c T0 locs cells slots) (hx : p.tables.exec = Jvm.exec) (hZ : Z.Warmed39 s.vm) (hw : ∀ d ∈ tables_1, d.before a0 Z = true) (hby : c.code = prog_77_method_3_code) (hml : c.maxLocals = 4) (hown : s.vm.findClass "com/example/ebbtide/ebbtide/cluster/PlaceCounts" = some m.cls) (e0 : T0.heap = h0) (n0 : Nat) (N0 : Fr n0 locs) (Z0 : n0 ≤ h0.size) (F1 : Fld Z h0 a1 "com/example/ebbtide/ebbtide/cluster/PlaceCounts" "sums" "[I" (.ref b1)) (A1 : AR Z h0 b1 .int 1025 (fun j => (.int (g j)))) (g_b1 : n0 ≤ b1) (hc : i < (1025 : Int32)) (hin : ¬ i < 0 ∧ i.toNatClampNeg < 1025) (ne1 : a1 ≠ b1) :
    ∃ (T' : State) (h' : Heap) (L' : List Loc), Stand p l e R s m args below meth c T' L' cells slots ∧ T'.heap = h' ∧ Fr n0 L' ∧ Keep h0 h' [b1] ∧ AR Z h' b1 .int 1025 (fun j => (.int (if j = i.toNatClampNeg then g i.toNatClampNeg + c1 else g j))) ∧ (∀ t, Steps p.tables e below (T'.setTop (mkF m 34 #[.val (.ref a1), .val (.int p1), .val (.int c1), .val (.int (i + (i &&& (-i))))] [])) t → Steps p.tables e below (T0.setTop (mkF m 34 #[.val (.ref a1), .val (.int p1), .val (.int c1), .val (.int i)] [])) t) := by
  obtain ⟨T1, X1, e1, st1⟩ := getF X0 hx hZ hown (host := "") (Or.inl (hw _ (List.mem_of_getElem? (i := 13) rfl))) Via.refl e0 F1 (g := (mkF m 36 #[.val (.ref a1), .val (.int p1), .val (.int c1), .val (.int i)] [(.ref a1), (.int i)])) rfl rfl (hb hby d3_36)
  obtain ⟨T2, X2, e2, st2⟩ := getF X1 hx hZ hown (host := "") (Or.inl (hw _ (List.mem_of_getElem? (i := 13) rfl))) Via.refl e1 F1 (g := (mkF m 44 #[.val (.ref a1), .val (.int p1), .val (.int c1), .val (.int i)] [(.ref a1)])) rfl rfl (hb hby d3_44)
  obtain ⟨T3, h3, X3, e3, W3, V3q, st3⟩ := own_stI X2 hx hZ e2 A1 (j := i) hin (g := (mkF m 52 #[.val (.ref a1), .val (.int p1), .val (.int c1), .val (.int i)] [(.int ((g (i).toNatClampNeg) + c1)), (.int i), (.ref b1)])) rfl rfl (hb hby d3_52)
  have K3 : Keep h0 h3 [b1] := (Keep.refl h0 [b1]).wr W3 (Or.inl (List.mem_of_getElem? (i := 0) rfl))
  have N3 := Fr.snoc X3 N0 g_b1
  have Z3 : n0 ≤ h3.size := Nat.le_trans Z0 (Keep.of_wr W3).1
  have V3 := own_fupI V3q
  refine ⟨T3, h3, _, X3, e3, N3, K3, V3, fun t kt => ?_⟩
  · show Steps p.tables e below (T0.setTop (mkF m 34 #[.val (.ref a1), .val (.int p1), .val (.int c1), .val (.int i)] [])) _
    refine XS.iloadN X0.here hx rfl (hb hby d3_34) rfl ?_
    show Steps p.tables e below (T0.setTop (mkF m 35 #[.val (.ref a1), .val (.int p1), .val (.int c1), .val (.int i)] [(.int i)])) _
    refine XS.aloadN X0.here hx rfl (hb hby d3_35) rfl rfl ?_
    show Steps p.tables e below (T0.setTop (mkF m 36 #[.val (.ref a1), .val (.int p1), .val (.int c1), .val (.int i)] [(.ref a1), (.int i)])) _
    refine st1 _ ?_
    show Steps p.tables e below (T1.setTop (mkF m 39 #[.val (.ref a1), .val (.int p1), .val (.int c1), .val (.int i)] [(.ref b1), (.int i)])) _
    refine own_len X1 hx hZ e1 A1 (z := (1025 : Int32)) rfl (g := (mkF m 39 #[.val (.ref a1), .val (.int p1), .val (.int c1), .val (.int i)] [(.ref b1), (.int i)])) rfl rfl (hb hby d3_39) _ ?_
    show Steps p.tables e below (T1.setTop (mkF m 40 #[.val (.ref a1), .val (.int p1), .val (.int c1), .val (.int i)] [(.int (1025 : Int32)), (.int i)])) _
    refine XS.icmpNo X1.here hx rfl (hb hby d3_40) rfl (tlt hc).2.1 ?_
    show Steps p.tables e below (T1.setTop (mkF m 43 #[.val (.ref a1), .val (.int p1), .val (.int c1), .val (.int i)] [])) _
    refine XS.aloadN X1.here hx rfl (hb hby d3_43) rfl rfl ?_
    show Steps p.tables e below (T1.setTop (mkF m 44 #[.val (.ref a1), .val (.int p1), .val (.int c1), .val (.int i)] [(.ref a1)])) _
    refine st2 _ ?_
    show Steps p.tables e below (T2.setTop (mkF m 47 #[.val (.ref a1), .val (.int p1), .val (.int c1), .val (.int i)] [(.ref b1)])) _
    refine XS.iloadN X2.here hx rfl (hb hby d3_47) rfl ?_
    show Steps p.tables e below (T2.setTop (mkF m 48 #[.val (.ref a1), .val (.int p1), .val (.int c1), .val (.int i)] [(.int i), (.ref b1)])) _
    refine Jvm.Free.XT.dup2 X2.here hx rfl (hb hby d3_48) rfl rfl rfl ?_
    show Steps p.tables e below (T2.setTop (mkF m 49 #[.val (.ref a1), .val (.int p1), .val (.int c1), .val (.int i)] [(.int i), (.ref b1), (.int i), (.ref b1)])) _
    refine own_ldI X2 hx hZ e2 A1 (j := i) (x := (g (i).toNatClampNeg)) hin rfl (g := (mkF m 49 #[.val (.ref a1), .val (.int p1), .val (.int c1), .val (.int i)] [(.int i), (.ref b1), (.int i), (.ref b1)])) rfl rfl (hb hby d3_49) _ ?_
    show Steps p.tables e below (T2.setTop (mkF m 50 #[.val (.ref a1), .val (.int p1), .val (.int c1), .val (.int i)] [(.int (g (i).toNatClampNeg)), (.int i), (.ref b1)])) _
    refine XS.iloadN X2.here hx rfl (hb hby d3_50) rfl ?_
    show Steps p.tables e below (T2.setTop (mkF m 51 #[.val (.ref a1), .val (.int p1), .val (.int c1), .val (.int i)] [(.int c1), (.int (g (i).toNatClampNeg)), (.int i), (.ref b1)])) _
    refine XS.iadd X2.here hx rfl (hb hby d3_51) rfl ?_
    show Steps p.tables e below (T2.setTop (mkF m 52 #[.val (.ref a1), .val (.int p1), .val (.int c1), .val (.int i)] [(.int ((g (i).toNatClampNeg) + c1)), (.int i), (.ref b1)])) _
    refine st3 _ ?_
    show Steps p.tables e below (T3.setTop (mkF m 53 #[.val (.ref a1), .val (.int p1), .val (.int c1), .val (.int i)] [])) _
    refine XS.iloadN X3.here hx rfl (hb hby d3_53) rfl ?_
    show Steps p.tables e below (T3.setTop (mkF m 54 #[.val (.ref a1), .val (.int p1), .val (.int c1), .val (.int i)] [(.int i)])) _
    refine XS.iloadN X3.here hx rfl (hb hby d3_54) rfl ?_
    show Steps p.tables e below (T3.setTop (mkF m 55 #[.val (.ref a1), .val (.int p1), .val (.int c1), .val (.int i)] [(.int i), (.int i)])) _
    refine XS.iloadN X3.here hx rfl (hb hby d3_55) rfl ?_
    show Steps p.tables e below (T3.setTop (mkF m 56 #[.val (.ref a1), .val (.int p1), .val (.int c1), .val (.int i)] [(.int i), (.int i), (.int i)])) _
    refine XS.ineg X3.here hx rfl (hb hby d3_56) rfl ?_
    show Steps p.tables e below (T3.setTop (mkF m 57 #[.val (.ref a1), .val (.int p1), .val (.int c1), .val (.int i)] [(.int (-i)), (.int i), (.int i)])) _
    refine XS.iand X3.here hx rfl (hb hby d3_57) rfl ?_
    show Steps p.tables e below (T3.setTop (mkF m 58 #[.val (.ref a1), .val (.int p1), .val (.int c1), .val (.int i)] [(.int (i &&& (-i))), (.int i)])) _
    refine XS.iadd X3.here hx rfl (hb hby d3_58) rfl ?_
    show Steps p.tables e below (T3.setTop (mkF m 59 #[.val (.ref a1), .val (.int p1), .val (.int c1), .val (.int i)] [(.int (i + (i &&& (-i))))])) _
    refine XS.istoreN X3.here hx rfl (hb hby d3_59) rfl (l' := #[.val (.ref a1), .val (.int p1), .val (.int c1), .val (.int (i + (i &&& (-i))))]) rfl ?_
    show Steps p.tables e below (T3.setTop (mkF m 60 #[.val (.ref a1), .val (.int p1), .val (.int c1), .val (.int (i + (i &&& (-i))))] [])) _
    refine XS.goto X3.here hx rfl (pc0 := 60) (pc' := 34) rfl (hb hby d3_60) (by decide) (by decide) ?_
    exact kt
set_option maxRecDepth 65536 in
set_option maxHeartbeats 40000000 in
theorem exitA_1025 {p : Program} {l : Launch} {e : Env} {R : Room} {s : State} {m : MethodId} {args : Array Value} {below : List Frame} {meth : Method} {c : Code} {T0 : State} {locs : List Loc} {cells slots : Nat} {Z : State} {a0 : Array Value} {h0 : Heap} (a1 b1 : Addr) (p1 c1 i : Int32) (g : Nat → Int32)
    (X0 : Stand p l e R s m args below meth c T0 locs cells slots) (hx : p.tables.exec = Jvm.exec) (hZ : Z.Warmed39 s.vm) (hw : ∀ d ∈ tables_1, d.before a0 Z = true) (hby : c.code = prog_77_method_3_code) (hml : c.maxLocals = 4) (hown : s.vm.findClass "com/example/ebbtide/ebbtide/cluster/PlaceCounts" = some m.cls) (e0 : T0.heap = h0) (n0 : Nat) (N0 : Fr n0 locs) (Z0 : n0 ≤ h0.size) (F1 : Fld Z h0 a1 "com/example/ebbtide/ebbtide/cluster/PlaceCounts" "sums" "[I" (.ref b1)) (A1 : AR Z h0 b1 .int 1025 (fun j => (.int (g j)))) (g_b1 : n0 ≤ b1) (hc : ¬ (i < (1025 : Int32))) :
    ∃ (T' : State) (h' : Heap) (L' : List Loc), Stand p l e R s m args below meth c T' L' cells slots ∧ T'.heap = h' ∧ Fr n0 L' ∧ Keep h0 h' [b1] ∧ h' = h0 ∧ (∀ t, Steps p.tables e below (T'.setTop (mkF m 63 #[.val (.ref a1), .val (.int p1), .val (.int c1), .val (.int i)] [])) t → Steps p.tables e below (T0.setTop (mkF m 34 #[.val (.ref a1), .val (.int p1), .val (.int c1), .val (.int i)] [])) t) := by
  obtain ⟨T1, X1, e1, st1⟩ := getF X0 hx hZ hown (host := "") (Or.inl (hw _ (List.mem_of_getElem? (i := 13) rfl))) Via.refl e0 F1 (g := (mkF m 36 #[.val (.ref a1), .val (.int p1), .val (.int c1), .val (.int i)] [(.ref a1), (.int i)])) rfl rfl (hb hby d3_36)
  refine ⟨T1, _, _, X1, e1, N0, (Keep.refl h0 [b1]), rfl, fun t kt => ?_⟩
  · show Steps p.tables e below (T0.setTop (mkF m 34 #[.val (.ref a1), .val (.int p1), .val (.int c1), .val (.int i)] [])) _
    refine XS.iloadN X0.here hx rfl (hb hby d3_34) rfl ?_
    show Steps p.tables e below (T0.setTop (mkF m 35 #[.val (.ref a1), .val (.int p1), .val (.int c1), .val (.int i)] [(.int i)])) _
    refine XS.aloadN X0.here hx rfl (hb hby d3_35) rfl rfl ?_
    show Steps p.tables e below (T0.setTop (mkF m 36 #[.val (.ref a1), .val (.int p1), .val (.int c1), .val (.int i)] [(.ref a1), (.int i)])) _
    refine st1 _ ?_
    show Steps p.tables e below (T1.setTop (mkF m 39 #[.val (.ref a1), .val (.int p1), .val (.int c1), .val (.int i)] [(.ref b1), (.int i)])) _
    refine own_len X1 hx hZ e1 A1 (z := (1025 : Int32)) rfl (g := (mkF m 39 #[.val (.ref a1), .val (.int p1), .val (.int c1), .val (.int i)] [(.ref b1), (.int i)])) rfl rfl (hb hby d3_39) _ ?_
    show Steps p.tables e below (T1.setTop (mkF m 40 #[.val (.ref a1), .val (.int p1), .val (.int c1), .val (.int i)] [(.int (1025 : Int32)), (.int i)])) _
    refine XS.icmpYes X1.here hx rfl (pc0 := 40) (pc' := 63) rfl (hb hby d3_40) rfl (flt hc).2.1 (by decide) (by decide) ?_
    exact kt
theorem outA_1025 {p : Program} {l : Launch} {e : Env} {R : Room} {s : State} {m : MethodId} {args : Array Value} {below : List Frame} {meth : Method} {c : Code} {T0 : State} {locs : List Loc} {cells slots : Nat} {Z : State} {a0 : Array Value} {h0 : Heap} (a1 b1 : Addr) (p1 c1 i : Int32) (g : Nat → Int32) (X0 : Stand p l e R s m args below meth c T0 locs cells slots) (hx : p.tables.exec = Jvm.exec) (hZ : Z.Warmed39 s.vm) (hw : ∀ d ∈ tables_1, d.before a0 Z = true) (hby : c.code = prog_77_method_3_code) (hml : c.maxLocals = 4) (hown : s.vm.findClass "com/example/ebbtide/ebbtide/cluster/PlaceCounts" = some m.cls) (e0 : T0.heap = h0) (n0 : Nat) (N0 : Fr n0 locs) (Z0 : n0 ≤ h0.size) (F1 : Fld Z h0 a1 "com/example/ebbtide/ebbtide/cluster/PlaceCounts" "sums" "[I" (.ref b1)) (A1 : AR Z h0 b1 .int 1025 (fun j => (.int (g j)))) (g_b1 : n0 ≤ b1)  (ne1 : a1 ≠ b1) (hi : 1 ≤ i.toInt) (hc : ¬ (i < (1025 : Int32))) : ∃ (T' : State) (h' : Heap) (L' : List Loc) (i' : Int32), Stand p l e R s m args below meth c T' L' cells slots ∧ T'.heap = h' ∧ Fr n0 L' ∧ Keep h0 h' [b1] ∧ AR Z h' b1 .int 1025 (fun j => (.int (own_fen g i.toNatClampNeg c1 j))) ∧ (∀ t, Steps p.tables e below (T'.setTop (mkF m 63 #[.val (.ref a1), .val (.int p1), .val (.int c1), .val (.int i')] [])) t → Steps p.tables e below (T0.setTop (mkF m 34 #[.val (.ref a1), .val (.int p1), .val (.int c1), .val (.int i)] [])) t) := by
  obtain ⟨T', h', L', X', e', N', K', hh', st'⟩ := exitA_1025 a1 b1 p1 c1 i g X0 hx hZ hw hby hml hown e0 n0 N0 Z0 F1 A1 g_b1 hc
  refine ⟨T', h', L', i, X', e', N', K', ?_, st'⟩
  have hz : ((1025 : Int32)).toInt = 1025 := rfl
  rw [Int32.lt_iff_toInt_lt, hz] at hc
  have hn := (own_ofNat i (by omega)).2
  have A2 : AR Z h' b1 .int 1025 (fun j => (.int (g j))) := hh' ▸ A1
  exact A2.eq fun j hj => congrArg Value.int (own_fen_out g i.toNatClampNeg 1025 c1 (by omega) j hj)
theorem loopA_1025 (k : Nat) : ∀ {p : Program} {l : Launch} {e : Env} {R : Room} {s : State} {m : MethodId} {args : Array Value} {below : List Frame} {meth : Method} {c : Code} {T0 : State} {locs : List Loc} {cells slots : Nat} {Z : State} {a0 : Array Value} {h0 : Heap} (a1 b1 : Addr) (p1 c1 i : Int32) (g : Nat → Int32) (X0 : Stand p l e R s m args below meth c T0 locs cells slots) (hx : p.tables.exec = Jvm.exec) (hZ : Z.Warmed39 s.vm) (hw : ∀ d ∈ tables_1, d.before a0 Z = true) (hby : c.code = prog_77_method_3_code) (hml : c.maxLocals = 4) (hown : s.vm.findClass "com/example/ebbtide/ebbtide/cluster/PlaceCounts" = some m.cls) (e0 : T0.heap = h0) (n0 : Nat) (N0 : Fr n0 locs) (Z0 : n0 ≤ h0.size) (F1 : Fld Z h0 a1 "com/example/ebbtide/ebbtide/cluster/PlaceCounts" "sums" "[I" (.ref b1)) (A1 : AR Z h0 b1 .int 1025 (fun j => (.int (g j)))) (g_b1 : n0 ≤ b1)  (ne1 : a1 ≠ b1) (hi : 1 ≤ i.toInt) (hk : 1025 ≤ i.toInt + k), ∃ (T' : State) (h' : Heap) (L' : List Loc) (i' : Int32), Stand p l e R s m args below meth c T' L' cells slots ∧ T'.heap = h' ∧ Fr n0 L' ∧ Keep h0 h' [b1] ∧ AR Z h' b1 .int 1025 (fun j => (.int (own_fen g i.toNatClampNeg c1 j))) ∧ (∀ t, Steps p.tables e below (T'.setTop (mkF m 63 #[.val (.ref a1), .val (.int p1), .val (.int c1), .val (.int i')] [])) t → Steps p.tables e below (T0.setTop (mkF m 34 #[.val (.ref a1), .val (.int p1), .val (.int c1), .val (.int i)] [])) t) := by
  induction k with
  | zero =>
    intro p l e R s m args below meth c T0 locs cells slots Z a0 h0 a1 b1 p1 c1 i g X0 hx hZ hw hby hml hown e0 n0 N0 Z0 F1 A1 g_b1 ne1 hi hk
    exact outA_1025 a1 b1 p1 c1 i g X0 hx hZ hw hby hml hown e0 n0 N0 Z0 F1 A1 g_b1 ne1 hi (by have hz : ((1025 : Int32)).toInt = 1025 := rfl; rw [Int32.lt_iff_toInt_lt, hz]; omega)
  | succ k ih =>
    intro p l e R s m args below meth c T0 locs cells slots Z a0 h0 a1 b1 p1 c1 i g X0 hx hZ hw hby hml hown e0 n0 N0 Z0 F1 A1 g_b1 ne1 hi hk
    by_cases hc : i < (1025 : Int32)
    · have hin := own_in i 1025 (1025 : Int32) rfl hi hc
      have hz : ((1025 : Int32)).toInt = 1025 := rfl
      have hlt : i.toInt < 1025 := by have := hc; rw [Int32.lt_iff_toInt_lt, hz] at this; exact this
      obtain ⟨n1, n2, n3⟩ := own_next i hi (by omega)
      have hn := (own_ofNat i (by omega)).2
      obtain ⟨T1, h1, L1, X1, e1, N1, K1, V1, st1⟩ := turnA_1025 a1 b1 p1 c1 i g X0 hx hZ hw hby hml hown e0 n0 N0 Z0 F1 A1 g_b1 hc hin ne1
      obtain ⟨T2, h2, L2, i2, X2, e2, N2, K2, V2, st2⟩ := ih a1 b1 p1 c1 (i + (i &&& (-i))) (fun j => if j = i.toNatClampNeg then g i.toNatClampNeg + c1 else g j) X1 hx hZ hw hby hml hown e1 n0 N1 (Nat.le_trans Z0 K1.1) (F1.keep K1 (ninS ne1 nin0)) V1 g_b1 ne1 (by omega) (by omega)
      exact ⟨T2, h2, L2, i2, X2, e2, N2, K1.trans K2 (allS (Or.inl (List.mem_of_getElem? (i := 0) rfl)) all0), V2.eq (fun j hj => congrArg Value.int (own_fen_turn g i c1 hi (by omega) j (by omega))), fun t kt => st1 t (st2 t kt)⟩
    · exact outA_1025 a1 b1 p1 c1 i g X0 hx hZ hw hby hml hown e0 n0 N0 Z0 F1 A1 g_b1 ne1 hi hc
theorem ef_rmA_1024 (m : MethodId) (x0 : Addr) (x1 : Int32) (x2 : Int32) : entryFrame m #[(.ref x0), (.int x1), (.int x2)] 4 = mkF m 0 #[.val (.ref x0), .val (.int x1), .val (.int x2), .unset] [] := by first | (simp [entryFrame, mkF, argsToLocals, Value.category]; done) | rfl
def QrmA_1024 (Z : State) (a1 b1 : Addr) (p1 c1 t1 : Int32) (g : Nat → Int32) (h0 : Heap) (n0 : Nat) (v : Option Value) (h : Heap) (L : List Loc) : Prop := v = none ∧ Fr n0 L ∧ Keep h0 h [a1, b1] ∧ Exa Z h a1 "com/example/ebbtide/ebbtide/cluster/PlaceCounts" ∧ Fld Z h a1 "com/example/ebbtide/ebbtide/cluster/PlaceCounts" "sums" "[I" (.ref b1) ∧ Fld Z h a1 "com/example/ebbtide/ebbtide/cluster/PlaceCounts" "top" "I" (.int (1024 : Int32)) ∧ Fld Z h a1 "com/example/ebbtide/ebbtide/cluster/PlaceCounts" "total" "I" (.int (t1 + c1)) ∧ AR Z h b1 .int 1025 (fun j => (.int (own_fen g (p1 + (1 : Int32)).toNatClampNeg c1 j)))
set_option maxRecDepth 65536 in
set_option maxHeartbeats 40000000 in
theorem rmA_1024 (l : Launch) (Z : State) (a0 : Array Value) (hw : ∀ d ∈ tables_1, d.before a0 Z = true) (ws : List Jvm.Cond) (a1 b1 : Addr) (p1 c1 t1 : Int32) (g : Nat → Int32) (h0 : Heap) (n0 : Nat) (Z0 : n0 ≤ h0.size) (E1 : Exa Z h0 a1 "com/example/ebbtide/ebbtide/cluster/PlaceCounts") (F1 : Fld Z h0 a1 "com/example/ebbtide/ebbtide/cluster/PlaceCounts" "sums" "[I" (.ref b1)) (F2 : Fld Z h0 a1 "com/example/ebbtide/ebbtide/cluster/PlaceCounts" "top" "I" (.int (1024 : Int32))) (F3 : Fld Z h0 a1 "com/example/ebbtide/ebbtide/cluster/PlaceCounts" "total" "I" (.int t1)) (A1 : AR Z h0 b1 .int 1025 (fun j => (.int (g j)))) (g_a1 : n0 ≤ a1) (g_b1 : n0 ≤ b1) (ne1 : a1 ≠ b1) (hp : 1 ≤ (p1 + (1 : Int32)).toInt) :
    MetFree l (⟨"com/example/ebbtide/ebbtide/cluster/PlaceCounts", "add", "(II)V"⟩ : MethodName) (head1 (Jvm.Cond.code (⟨"com/example/ebbtide/ebbtide/cluster/PlaceCounts", "add", "(II)V"⟩ : MethodName) prog_77_method_3_code 4 none :: ws) ({ frames := 0, cells := 0, slots := 0, locals := 0 } : Room)) (fun a U => a = #[(.ref a1), (.int p1), (.int c1)] ∧ Z.Warmed39 U.vm ∧ U.heap = h0) (fun _ _ _ _ _ => True) (fun _ U o U' => ∃ v L, o = .returned v ∧ QrmA_1024 Z a1 b1 p1 c1 t1 g h0 n0 v U'.heap L ∧ FrameEnd U o U' L ({ frames := 0, cells := 0, slots := 0, locals := 0 } : Room).cells ({ frames := 0, cells := 0, slots := 0, locals := 0 } : Room).slots) := by
  refine MetFree.of_bodySF (plainFor_of_name pn_com_example_ebbtide_ebbtide_cluster_PlaceCounts) hisR ?_
  intro p e s m args below meth c s₁ Bd hml0 hP hK
  obtain ⟨rfl, hZ, hh⟩ := hP
  have hx := Bd.exec
  have hby := Bd.bytes
  have hml : c.maxLocals = 4 := hml0
  have hown : s.vm.findClass "com/example/ebbtide/ebbtide/cluster/PlaceCounts" = some m.cls := findClass_of_methodNamed Bd.named
  have hnm := (name_of_methodNamed Bd.named Bd.method).1
  have X0 : Stand p l e ({ frames := 0, cells := 0, slots := 0, locals := 0 } : Room) s m #[(.ref a1), (.int p1), (.int c1)] below meth c s₁ [] 0 0 := Stand.of_body Bd
  have e0 : s₁.heap = h0 := by rw [← hh, Bd.state]; rfl
  have N0 := Fr.nil n0
  have pre0 : ∀ t, Steps p.tables e below (s₁.setTop (mkF m 0 #[.val (.ref a1), .val (.int p1), .val (.int c1), .unset] [])) t → Steps p.tables e below (s₁.setTop (entryFrame m #[(.ref a1), (.int p1), (.int c1)] 4)) t := fun t k => castTop (ef_rmA_1024 m a1 p1 c1) k
  obtain ⟨T1, X1, e1, st1⟩ := getF X0 hx hZ hown (host := "") (Or.inl (hw _ (List.mem_of_getElem? (i := 20) rfl))) Via.refl e0 F3 (g := (mkF m 2 #[.val (.ref a1), .val (.int p1), .val (.int c1), .unset] [(.ref a1), (.ref a1)])) rfl rfl (hb hby d3_2)
  obtain ⟨T2, h2, X2, e2, W2, st2⟩ := putF X1 hx hZ hown (host := "") (Or.inl (hw _ (List.mem_of_getElem? (i := 20) rfl))) Via.refl e1 F3 E1 (Or.inl (hw _ (List.mem_of_getElem? (i := 21) rfl))) (hw _ (List.mem_of_getElem? (i := 2) rfl)) (ty := .int) (by decide) rfl rfl (g := (mkF m 7 #[.val (.ref a1), .val (.int p1), .val (.int c1), .unset] [(.int (t1 + c1)), (.ref a1)])) rfl rfl (hb hby d3_7)
  have Fw2 := F3.same W2
  have K2 : Keep h0 h2 [a1, b1] := (Keep.refl h0 [a1, b1]).wr W2 (Or.inl (List.mem_of_getElem? (i := 0) rfl))
  have N2 := Fr.snoc X2 N0 g_a1
  have Z2 : n0 ≤ h2.size := Nat.le_trans Z0 (Keep.of_wr W2).1
  have f3 := (F2.other W2 (Or.inr (slot_ne (Or.inr (hw _ (List.mem_of_getElem? (i := 11) rfl))) (Or.inl (hw _ (List.mem_of_getElem? (i := 21) rfl))) (by decide) (t := .int) (t' := .int) (by decide) (by decide))))
  obtain ⟨T4, X4, e4, st4⟩ := getF X2 hx hZ hown (host := "") (Or.inl (hw _ (List.mem_of_getElem? (i := 10) rfl))) Via.refl e2 f3 (g := (mkF m 11 #[.val (.ref a1), .val (.int p1), .val (.int c1), .unset] [(.ref a1)])) rfl rfl (hb hby d3_11)
  have f5 := (F1.other W2 (Or.inr (slot_ne (Or.inr (hw _ (List.mem_of_getElem? (i := 14) rfl))) (Or.inl (hw _ (List.mem_of_getElem? (i := 21) rfl))) (by decide) (t := (.array .int)) (t' := .int) (by decide) (by decide))))
  have f6 := (A1.other W2 (Ne.symm ne1))
  have c8 : ∀ t, Steps p.tables e below (T4.setTop (mkF m 34 #[.val (.ref a1), .val (.int p1), .val (.int c1), .val (.int (p1 + (1 : Int32)))] [])) t → Steps p.tables e below (s₁.setTop (mkF m 0 #[.val (.ref a1), .val (.int p1), .val (.int c1), .unset] [])) t := by
    intro t kt
    show Steps p.tables e below (s₁.setTop (mkF m 0 #[.val (.ref a1), .val (.int p1), .val (.int c1), .unset] [])) _
    refine XS.aloadN X0.here hx rfl (hb hby d3_0) rfl rfl ?_
    show Steps p.tables e below (s₁.setTop (mkF m 1 #[.val (.ref a1), .val (.int p1), .val (.int c1), .unset] [(.ref a1)])) _
    refine XS.dup X0.here hx rfl (hb hby d3_1) rfl rfl ?_
    show Steps p.tables e below (s₁.setTop (mkF m 2 #[.val (.ref a1), .val (.int p1), .val (.int c1), .unset] [(.ref a1), (.ref a1)])) _
    refine st1 _ ?_
    show Steps p.tables e below (T1.setTop (mkF m 5 #[.val (.ref a1), .val (.int p1), .val (.int c1), .unset] [(.int t1), (.ref a1)])) _
    refine XS.iloadN X1.here hx rfl (hb hby d3_5) rfl ?_
    show Steps p.tables e below (T1.setTop (mkF m 6 #[.val (.ref a1), .val (.int p1), .val (.int c1), .unset] [(.int c1), (.int t1), (.ref a1)])) _
    refine XS.iadd X1.here hx rfl (hb hby d3_6) rfl ?_
    show Steps p.tables e below (T1.setTop (mkF m 7 #[.val (.ref a1), .val (.int p1), .val (.int c1), .unset] [(.int (t1 + c1)), (.ref a1)])) _
    refine st2 _ ?_
    show Steps p.tables e below (T2.setTop (mkF m 10 #[.val (.ref a1), .val (.int p1), .val (.int c1), .unset] [])) _
    refine XS.aloadN X2.here hx rfl (hb hby d3_10) rfl rfl ?_
    show Steps p.tables e below (T2.setTop (mkF m 11 #[.val (.ref a1), .val (.int p1), .val (.int c1), .unset] [(.ref a1)])) _
    refine st4 _ ?_
    show Steps p.tables e below (T4.setTop (mkF m 14 #[.val (.ref a1), .val (.int p1), .val (.int c1), .unset] [(.int (1024 : Int32))])) _
    refine XS.ifYes X4.here hx rfl (pc0 := 14) (pc' := 30) rfl (hb hby d3_14) rfl ((if0 _ _).trans (feq (by decide : ¬ ((1024 : Int32) = (0 : Int32)))).2) (by decide) (by decide) ?_
    show Steps p.tables e below (T4.setTop (mkF m 30 #[.val (.ref a1), .val (.int p1), .val (.int c1), .unset] [])) _
    refine XS.iloadN X4.here hx rfl (hb hby d3_30) rfl ?_
    show Steps p.tables e below (T4.setTop (mkF m 31 #[.val (.ref a1), .val (.int p1), .val (.int c1), .unset] [(.int p1)])) _
    refine XS.iconst X4.here hx rfl (hb hby d3_31) ?_
    show Steps p.tables e below (T4.setTop (mkF m 32 #[.val (.ref a1), .val (.int p1), .val (.int c1), .unset] [(.int (1 : Int32)), (.int p1)])) _
    refine XS.iadd X4.here hx rfl (hb hby d3_32) rfl ?_
    show Steps p.tables e below (T4.setTop (mkF m 33 #[.val (.ref a1), .val (.int p1), .val (.int c1), .unset] [(.int (p1 + (1 : Int32)))])) _
    refine XS.istoreN X4.here hx rfl (hb hby d3_33) rfl (l' := #[.val (.ref a1), .val (.int p1), .val (.int c1), .val (.int (p1 + (1 : Int32)))]) rfl ?_
    exact kt
  obtain ⟨T7, h7, L7, i7, X7, e7, N7, K7q, V7, st7⟩ := loopA_1025 1025 a1 b1 p1 c1 (p1 + (1 : Int32)) g X4 hx hZ hw hby hml hown e4 n0 N2 Z2 f5 f6 g_b1 ne1 hp (by omega)
  have K7 : Keep h0 h7 [a1, b1] := K2.trans K7q (allS (Or.inl (List.mem_of_getElem? (i := 1) rfl)) all0)
  have Z7 : n0 ≤ h7.size := Nat.le_trans Z2 K7q.1
  obtain ⟨fs, hr, hrun, hended, hW, hsame⟩ := X7.leave (v := none) (fun _ => rfl)
  refine ⟨_, _, pre0 _ (c8 _ (?_)), hrun, hended, _, _, rfl, ?_, ⟨_, rfl⟩, hW, hsame.mono (by decide) (by decide)⟩
  · show Steps p.tables e below (T4.setTop (mkF m 34 #[.val (.ref a1), .val (.int p1), .val (.int c1), .val (.int (p1 + (1 : Int32)))] [])) _
    refine st7 _ ?_
    show Steps p.tables e below (T7.setTop (mkF m 63 #[.val (.ref a1), .val (.int p1), .val (.int c1), .val (.int i7)] [])) _
    exact X7.returnOut hx Bd.returns (hb hby d3_63) hr
  have f9 := ((E1.wr W2).keep K7q)
  have f10 := (f5.keep K7q (ninS ne1 nin0))
  have f11 := (f3.keep K7q (ninS ne1 nin0))
  have f12 := (Fw2.keep K7q (ninS ne1 nin0))
  · show QrmA_1024 Z a1 b1 p1 c1 t1 g h0 n0 _ T7.heap _
    rw [e7]
    exact ⟨rfl, N7, K7, f9, f10, f11, f12, V7⟩
theorem d4_9 : decode prog_77_method_5_code 9 = .ok (.iload_n 1, 1) := by decide +kernel
theorem d4_10 : decode prog_77_method_5_code 10 = .ok (.aload_n 0, 1) := by decide +kernel
theorem d4_11 : decode prog_77_method_5_code 11 = .ok (.getfield 19, 3) := by decide +kernel
theorem d4_14 : decode prog_77_method_5_code 14 = .ok (.iload_n 2, 1) := by decide +kernel
theorem d4_15 : decode prog_77_method_5_code 15 = .ok (.iconst 1, 1) := by decide +kernel
theorem d4_16 : decode prog_77_method_5_code 16 = .ok (.iadd, 1) := by decide +kernel
theorem d4_17 : decode prog_77_method_5_code 17 = .ok (.iaload, 1) := by decide +kernel
theorem d4_18 : decode prog_77_method_5_code 18 = .ok (.if_icmp .lt 20, 3) := by decide +kernel
theorem d4_21 : decode prog_77_method_5_code 21 = .ok (.iload_n 1, 1) := by decide +kernel
theorem d4_22 : decode prog_77_method_5_code 22 = .ok (.aload_n 0, 1) := by decide +kernel
theorem d4_23 : decode prog_77_method_5_code 23 = .ok (.getfield 19, 3) := by decide +kernel
theorem d4_26 : decode prog_77_method_5_code 26 = .ok (.iload_n 2, 1) := by decide +kernel
theorem d4_27 : decode prog_77_method_5_code 27 = .ok (.iconst 1, 1) := by decide +kernel
theorem d4_28 : decode prog_77_method_5_code 28 = .ok (.iadd, 1) := by decide +kernel
theorem d4_29 : decode prog_77_method_5_code 29 = .ok (.iaload, 1) := by decide +kernel
theorem d4_30 : decode prog_77_method_5_code 30 = .ok (.isub, 1) := by decide +kernel
theorem d4_31 : decode prog_77_method_5_code 31 = .ok (.istore_n 1, 1) := by decide +kernel
theorem d4_32 : decode prog_77_method_5_code 32 = .ok (.iinc 2 1, 3) := by decide +kernel
theorem d4_35 : decode prog_77_method_5_code 35 = .ok (.goto (-26), 3) := by decide +kernel
set_option maxRecDepth 65536 in
set_option maxHeartbeats 40000000 in
theorem turnL {p : Program} {l : Launch} {e : Env} {R : Room} {s : State} {m : MethodId} {args : Array Value} {below : List Frame} {meth : Method} {c : Code} {T0 : State} {locs : List Loc} {cells slots : Nat} {Z : State} {a0 : Array Value} {h0 : Heap} (a1 b1 : Addr) (pl rk : Int32) (g : Nat → Int32)
    (X0 : Stand p l e R s m args below meth c T0 locs cells slots) (hx : p.tables.exec = Jvm.exec) (hZ : Z.Warmed39 s.vm) (hw : ∀ d ∈ tables_1, d.before a0 Z = true) (hby : c.code = prog_77_method_5_code) (hml : c.maxLocals = 6) (hown : s.vm.findClass "com/example/ebbtide/ebbtide/cluster/PlaceCounts" = some m.cls) (e0 : T0.heap = h0) (n0 : Nat) (N0 : Fr n0 locs) (Z0 : n0 ≤ h0.size) (F1 : Fld Z h0 a1 "com/example/ebbtide/ebbtide/cluster/PlaceCounts" "sums" "[I" (.ref b1)) (A1 : AR Z h0 b1 .int 257 (fun j => (.int (g j)))) (hin : ¬ (pl + (1 : Int32)) < 0 ∧ (pl + (1 : Int32)).toNatClampNeg < 257) (hc : ¬ (rk < (g (pl + (1 : Int32)).toNatClampNeg))) :
    ∃ (T' : State) (h' : Heap) (L' : List Loc), Stand p l e R s m args below meth c T' L' cells slots ∧ T'.heap = h' ∧ Fr n0 L' ∧ Keep h0 h' [] ∧ h' = h0 ∧ (∀ t, Steps p.tables e below (T'.setTop (mkF m 9 #[.val (.ref a1), .val (.int (rk - (g ((pl + (1 : Int32))).toNatClampNeg))), .val (.int (pl + (1 : Int32))), .unset, .unset, .unset] [])) t → Steps p.tables e below (T0.setTop (mkF m 9 #[.val (.ref a1), .val (.int rk), .val (.int pl), .unset, .unset, .unset] [])) t) := by
  obtain ⟨T1, X1, e1, st1⟩ := getF X0 hx hZ hown (host := "") (Or.inl (hw _ (List.mem_of_getElem? (i := 13) rfl))) Via.refl e0 F1 (g := (mkF m 11 #[.val (.ref a1), .val (.int rk), .val (.int pl), .unset, .unset, .unset] [(.ref a1), (.int rk)])) rfl rfl (hb hby d4_11)
  obtain ⟨T2, X2, e2, st2⟩ := getF X1 hx hZ hown (host := "") (Or.inl (hw _ (List.mem_of_getElem? (i := 13) rfl))) Via.refl e1 F1 (g := (mkF m 23 #[.val (.ref a1), .val (.int rk), .val (.int pl), .unset, .unset, .unset] [(.ref a1), (.int rk)])) rfl rfl (hb hby d4_23)
  refine ⟨T2, _, _, X2, e2, N0, (Keep.refl h0 []), rfl, fun t kt => ?_⟩
  · show Steps p.tables e below (T0.setTop (mkF m 9 #[.val (.ref a1), .val (.int rk), .val (.int pl), .unset, .unset, .unset] [])) _
    refine XS.iloadN X0.here hx rfl (hb hby d4_9) rfl ?_
    show Steps p.tables e below (T0.setTop (mkF m 10 #[.val (.ref a1), .val (.int rk), .val (.int pl), .unset, .unset, .unset] [(.int rk)])) _
    refine XS.aloadN X0.here hx rfl (hb hby d4_10) rfl rfl ?_
    show Steps p.tables e below (T0.setTop (mkF m 11 #[.val (.ref a1), .val (.int rk), .val (.int pl), .unset, .unset, .unset] [(.ref a1), (.int rk)])) _
    refine st1 _ ?_
    show Steps p.tables e below (T1.setTop (mkF m 14 #[.val (.ref a1), .val (.int rk), .val (.int pl), .unset, .unset, .unset] [(.ref b1), (.int rk)])) _
    refine XS.iloadN X1.here hx rfl (hb hby d4_14) rfl ?_
    show Steps p.tables e below (T1.setTop (mkF m 15 #[.val (.ref a1), .val (.int rk), .val (.int pl), .unset, .unset, .unset] [(.int pl), (.ref b1), (.int rk)])) _
    refine XS.iconst X1.here hx rfl (hb hby d4_15) ?_
    show Steps p.tables e below (T1.setTop (mkF m 16 #[.val (.ref a1), .val (.int rk), .val (.int pl), .unset, .unset, .unset] [(.int (1 : Int32)), (.int pl), (.ref b1), (.int rk)])) _
    refine XS.iadd X1.here hx rfl (hb hby d4_16) rfl ?_
    show Steps p.tables e below (T1.setTop (mkF m 17 #[.val (.ref a1), .val (.int rk), .val (.int pl), .unset, .unset, .unset] [(.int (pl + (1 : Int32))), (.ref b1), (.int rk)])) _
    refine own_ldI X1 hx hZ e1 A1 (j := (pl + (1 : Int32))) (x := (g ((pl + (1 : Int32))).toNatClampNeg)) hin rfl (g := (mkF m 17 #[.val (.ref a1), .val (.int rk), .val (.int pl), .unset, .unset, .unset] [(.int (pl + (1 : Int32))), (.ref b1), (.int rk)])) rfl rfl (hb hby d4_17) _ ?_
    show Steps p.tables e below (T1.setTop (mkF m 18 #[.val (.ref a1), .val (.int rk), .val (.int pl), .unset, .unset, .unset] [(.int (g ((pl + (1 : Int32))).toNatClampNeg)), (.int rk)])) _
    refine XS.icmpNo X1.here hx rfl (hb hby d4_18) rfl (flt hc).1 ?_
    show Steps p.tables e below (T1.setTop (mkF m 21 #[.val (.ref a1), .val (.int rk), .val (.int pl), .unset, .unset, .unset] [])) _
    refine XS.iloadN X1.here hx rfl (hb hby d4_21) rfl ?_
    show Steps p.tables e below (T1.setTop (mkF m 22 #[.val (.ref a1), .val (.int rk), .val (.int pl), .unset, .unset, .unset] [(.int rk)])) _
    refine XS.aloadN X1.here hx rfl (hb hby d4_22) rfl rfl ?_
    show Steps p.tables e below (T1.setTop (mkF m 23 #[.val (.ref a1), .val (.int rk), .val (.int pl), .unset, .unset, .unset] [(.ref a1), (.int rk)])) _
    refine st2 _ ?_
    show Steps p.tables e below (T2.setTop (mkF m 26 #[.val (.ref a1), .val (.int rk), .val (.int pl), .unset, .unset, .unset] [(.ref b1), (.int rk)])) _
    refine XS.iloadN X2.here hx rfl (hb hby d4_26) rfl ?_
    show Steps p.tables e below (T2.setTop (mkF m 27 #[.val (.ref a1), .val (.int rk), .val (.int pl), .unset, .unset, .unset] [(.int pl), (.ref b1), (.int rk)])) _
    refine XS.iconst X2.here hx rfl (hb hby d4_27) ?_
    show Steps p.tables e below (T2.setTop (mkF m 28 #[.val (.ref a1), .val (.int rk), .val (.int pl), .unset, .unset, .unset] [(.int (1 : Int32)), (.int pl), (.ref b1), (.int rk)])) _
    refine XS.iadd X2.here hx rfl (hb hby d4_28) rfl ?_
    show Steps p.tables e below (T2.setTop (mkF m 29 #[.val (.ref a1), .val (.int rk), .val (.int pl), .unset, .unset, .unset] [(.int (pl + (1 : Int32))), (.ref b1), (.int rk)])) _
    refine own_ldI X2 hx hZ e2 A1 (j := (pl + (1 : Int32))) (x := (g ((pl + (1 : Int32))).toNatClampNeg)) hin rfl (g := (mkF m 29 #[.val (.ref a1), .val (.int rk), .val (.int pl), .unset, .unset, .unset] [(.int (pl + (1 : Int32))), (.ref b1), (.int rk)])) rfl rfl (hb hby d4_29) _ ?_
    show Steps p.tables e below (T2.setTop (mkF m 30 #[.val (.ref a1), .val (.int rk), .val (.int pl), .unset, .unset, .unset] [(.int (g ((pl + (1 : Int32))).toNatClampNeg)), (.int rk)])) _
    refine XS.isub X2.here hx rfl (hb hby d4_30) rfl ?_
    show Steps p.tables e below (T2.setTop (mkF m 31 #[.val (.ref a1), .val (.int rk), .val (.int pl), .unset, .unset, .unset] [(.int (rk - (g ((pl + (1 : Int32))).toNatClampNeg)))])) _
    refine XS.istoreN X2.here hx rfl (hb hby d4_31) rfl (l' := #[.val (.ref a1), .val (.int (rk - (g ((pl + (1 : Int32))).toNatClampNeg))), .val (.int pl), .unset, .unset, .unset]) rfl ?_
    show Steps p.tables e below (T2.setTop (mkF m 32 #[.val (.ref a1), .val (.int (rk - (g ((pl + (1 : Int32))).toNatClampNeg))), .val (.int pl), .unset, .unset, .unset] [])) _
    refine XS.iinc X2.here hx rfl (hb hby d4_32) rfl (l' := #[.val (.ref a1), .val (.int (rk - (g ((pl + (1 : Int32))).toNatClampNeg))), .val (.int (pl + (1 : Int32))), .unset, .unset, .unset]) rfl ?_
    show Steps p.tables e below (T2.setTop (mkF m 35 #[.val (.ref a1), .val (.int (rk - (g ((pl + (1 : Int32))).toNatClampNeg))), .val (.int (pl + (1 : Int32))), .unset, .unset, .unset] [])) _
    refine XS.goto X2.here hx rfl (pc0 := 35) (pc' := 9) rfl (hb hby d4_35) (by decide) (by decide) ?_
    exact kt
set_option maxRecDepth 65536 in
set_option maxHeartbeats 40000000 in
theorem exitL {p : Program} {l : Launch} {e : Env} {R : Room} {s : State} {m : MethodId} {args : Array Value} {below : List Frame} {meth : Method} {c : Code} {T0 : State} {locs : List Loc} {cells slots : Nat} {Z : State} {a0 : Array Value} {h0 : Heap} (a1 b1 : Addr) (pl rk : Int32) (g : Nat → Int32)
    (X0 : Stand p l e R s m args below meth c T0 locs cells slots) (hx : p.tables.exec = Jvm.exec) (hZ : Z.Warmed39 s.vm) (hw : ∀ d ∈ tables_1, d.before a0 Z = true) (hby : c.code = prog_77_method_5_code) (hml : c.maxLocals = 6) (hown : s.vm.findClass "com/example/ebbtide/ebbtide/cluster/PlaceCounts" = some m.cls) (e0 : T0.heap = h0) (n0 : Nat) (N0 : Fr n0 locs) (Z0 : n0 ≤ h0.size) (F1 : Fld Z h0 a1 "com/example/ebbtide/ebbtide/cluster/PlaceCounts" "sums" "[I" (.ref b1)) (A1 : AR Z h0 b1 .int 257 (fun j => (.int (g j)))) (hin : ¬ (pl + (1 : Int32)) < 0 ∧ (pl + (1 : Int32)).toNatClampNeg < 257) (hc : rk < (g (pl + (1 : Int32)).toNatClampNeg)) :
    ∃ (T' : State) (h' : Heap) (L' : List Loc), Stand p l e R s m args below meth c T' L' cells slots ∧ T'.heap = h' ∧ Fr n0 L' ∧ Keep h0 h' [] ∧ h' = h0 ∧ (∀ t, Steps p.tables e below (T'.setTop (mkF m 38 #[.val (.ref a1), .val (.int rk), .val (.int pl), .unset, .unset, .unset] [])) t → Steps p.tables e below (T0.setTop (mkF m 9 #[.val (.ref a1), .val (.int rk), .val (.int pl), .unset, .unset, .unset] [])) t) := by
  obtain ⟨T1, X1, e1, st1⟩ := getF X0 hx hZ hown (host := "") (Or.inl (hw _ (List.mem_of_getElem? (i := 13) rfl))) Via.refl e0 F1 (g := (mkF m 11 #[.val (.ref a1), .val (.int rk), .val (.int pl), .unset, .unset, .unset] [(.ref a1), (.int rk)])) rfl rfl (hb hby d4_11)
  refine ⟨T1, _, _, X1, e1, N0, (Keep.refl h0 []), rfl, fun t kt => ?_⟩
  · show Steps p.tables e below (T0.setTop (mkF m 9 #[.val (.ref a1), .val (.int rk), .val (.int pl), .unset, .unset, .unset] [])) _
    refine XS.iloadN X0.here hx rfl (hb hby d4_9) rfl ?_
    show Steps p.tables e below (T0.setTop (mkF m 10 #[.val (.ref a1), .val (.int rk), .val (.int pl), .unset, .unset, .unset] [(.int rk)])) _
    refine XS.aloadN X0.here hx rfl (hb hby d4_10) rfl rfl ?_
    show Steps p.tables e below (T0.setTop (mkF m 11 #[.val (.ref a1), .val (.int rk), .val (.int pl), .unset, .unset, .unset] [(.ref a1), (.int rk)])) _
    refine st1 _ ?_
    show Steps p.tables e below (T1.setTop (mkF m 14 #[.val (.ref a1), .val (.int rk), .val (.int pl), .unset, .unset, .unset] [(.ref b1), (.int rk)])) _
    refine XS.iloadN X1.here hx rfl (hb hby d4_14) rfl ?_
    show Steps p.tables e below (T1.setTop (mkF m 15 #[.val (.ref a1), .val (.int rk), .val (.int pl), .unset, .unset, .unset] [(.int pl), (.ref b1), (.int rk)])) _
    refine XS.iconst X1.here hx rfl (hb hby d4_15) ?_
    show Steps p.tables e below (T1.setTop (mkF m 16 #[.val (.ref a1), .val (.int rk), .val (.int pl), .unset, .unset, .unset] [(.int (1 : Int32)), (.int pl), (.ref b1), (.int rk)])) _
    refine XS.iadd X1.here hx rfl (hb hby d4_16) rfl ?_
    show Steps p.tables e below (T1.setTop (mkF m 17 #[.val (.ref a1), .val (.int rk), .val (.int pl), .unset, .unset, .unset] [(.int (pl + (1 : Int32))), (.ref b1), (.int rk)])) _
    refine own_ldI X1 hx hZ e1 A1 (j := (pl + (1 : Int32))) (x := (g ((pl + (1 : Int32))).toNatClampNeg)) hin rfl (g := (mkF m 17 #[.val (.ref a1), .val (.int rk), .val (.int pl), .unset, .unset, .unset] [(.int (pl + (1 : Int32))), (.ref b1), (.int rk)])) rfl rfl (hb hby d4_17) _ ?_
    show Steps p.tables e below (T1.setTop (mkF m 18 #[.val (.ref a1), .val (.int rk), .val (.int pl), .unset, .unset, .unset] [(.int (g ((pl + (1 : Int32))).toNatClampNeg)), (.int rk)])) _
    refine XS.icmpYes X1.here hx rfl (pc0 := 18) (pc' := 38) rfl (hb hby d4_18) rfl (tlt hc).1 (by decide) (by decide) ?_
    exact kt
theorem loopL (k : Nat) : ∀ {p : Program} {l : Launch} {e : Env} {R : Room} {s : State} {m : MethodId} {args : Array Value} {below : List Frame} {meth : Method} {c : Code} {T0 : State} {locs : List Loc} {cells slots : Nat} {Z : State} {a0 : Array Value} {h0 : Heap} (a1 b1 : Addr) (pl rk : Int32) (g : Nat → Int32) (X0 : Stand p l e R s m args below meth c T0 locs cells slots) (hx : p.tables.exec = Jvm.exec) (hZ : Z.Warmed39 s.vm) (hw : ∀ d ∈ tables_1, d.before a0 Z = true) (hby : c.code = prog_77_method_5_code) (hml : c.maxLocals = 6) (hown : s.vm.findClass "com/example/ebbtide/ebbtide/cluster/PlaceCounts" = some m.cls) (e0 : T0.heap = h0) (n0 : Nat) (N0 : Fr n0 locs) (Z0 : n0 ≤ h0.size) (P : Int → Int) (r : Int) (F1 : Fld Z h0 a1 "com/example/ebbtide/ebbtide/cluster/PlaceCounts" "sums" "[I" (.ref b1)) (A1 : AR Z h0 b1 .int 257 (fun j => (.int (g j)))) (hm : ∀ x y, x ≤ y → P x ≤ P y) (hr : r < P 256) (hlo : ∀ x, 0 ≤ P x) (hhi : ∀ x, P x ≤ 4000) (hr4 : r ≤ 4000) (hG : ∀ q : Nat, (g (q + 1)).toInt = P ((q + 1 : Nat) : Int) - P q) (I : own_lin P r pl rk) (hk : 256 ≤ pl.toInt + k),
    ∃ (T' : State) (h' : Heap) (L' : List Loc) (pl' rk' : Int32), Stand p l e R s m args below meth c T' L' cells slots ∧ T'.heap = h' ∧ Fr n0 L' ∧ Keep h0 h' [] ∧ h' = h0 ∧ own_inv P r 1 256 pl' rk' ∧ (∀ t, Steps p.tables e below (T'.setTop (mkF m 38 #[.val (.ref a1), .val (.int rk'), .val (.int pl'), .unset, .unset, .unset] [])) t → Steps p.tables e below (T0.setTop (mkF m 9 #[.val (.ref a1), .val (.int rk), .val (.int pl), .unset, .unset, .unset] [])) t) := by
  induction k with
  | zero =>
    intro p l e R s m args below meth c T0 locs cells slots Z a0 h0 a1 b1 pl rk g X0 hx hZ hw hby hml hown e0 n0 N0 Z0 P r F1 A1 hm hr hlo hhi hr4 hG I hk
    obtain ⟨q, h1, h2, h3, h4, h5⟩ := own_lin_at P r pl rk hm hr I
    exfalso; omega
  | succ k ih =>
    intro p l e R s m args below meth c T0 locs cells slots Z a0 h0 a1 b1 pl rk g X0 hx hZ hw hby hml hown e0 n0 N0 Z0 P r F1 A1 hm hr hlo hhi hr4 hG I hk
    have hin := own_lin_idx P r pl rk hm hr I
    by_cases hc : rk < g (pl + (1 : Int32)).toNatClampNeg
    · obtain ⟨T', h', L', X', e', N', K', hh, st'⟩ := exitL a1 b1 pl rk g X0 hx hZ hw hby hml hown e0 n0 N0 Z0 F1 A1 hin hc
      exact ⟨T', h', L', pl, rk, X', e', N', K', hh, own_lin_exit P r pl rk g hm hr hG I hc, st'⟩
    · obtain ⟨T1, h1, L1, X1, e1, N1, K1, hh1, st1⟩ := turnL a1 b1 pl rk g X0 hx hZ hw hby hml hown e0 n0 N0 Z0 F1 A1 hin hc
      subst hh1
      obtain ⟨q, q1, q2, q3, q4, q5⟩ := own_lin_at P r pl rk hm hr I
      obtain ⟨T2, h2, L2, pl2, rk2, X2, e2, N2, K2, hh2, I2, st2⟩ := ih a1 b1 (pl + (1 : Int32)) (rk - g (pl + (1 : Int32)).toNatClampNeg) g X1 hx hZ hw hby hml hown e1 n0 N1 Z0 P r F1 A1 hm hr hlo hhi hr4 hG (own_lin_next P r pl rk g hm hr hlo hhi hr4 hG I hc) (by omega)
      exact ⟨T2, h2, L2, pl2, rk2, X2, e2, N2, K2, hh2, I2, fun t kt => st1 t (st2 t kt)⟩
theorem d4_0 : decode prog_77_method_5_code 0 = .ok (.aload_n 0, 1) := by decide +kernel
theorem d4_1 : decode prog_77_method_5_code 1 = .ok (.getfield 9, 3) := by decide +kernel
theorem d4_4 : decode prog_77_method_5_code 4 = .ok (.ifCond .ne 43, 3) := by decide +kernel
theorem d4_7 : decode prog_77_method_5_code 7 = .ok (.iconst 0, 1) := by decide +kernel
theorem d4_8 : decode prog_77_method_5_code 8 = .ok (.istore_n 2, 1) := by decide +kernel
theorem d4_38 : decode prog_77_method_5_code 38 = .ok (.iload_n 2, 1) := by decide +kernel
theorem d4_39 : decode prog_77_method_5_code 39 = .ok (.i2l, 1) := by decide +kernel
theorem d4_40 : decode prog_77_method_5_code 40 = .ok (.bipush 32, 2) := by decide +kernel
theorem d4_42 : decode prog_77_method_5_code 42 = .ok (.lshl, 1) := by decide +kernel
theorem d4_43 : decode prog_77_method_5_code 43 = .ok (.iload_n 1, 1) := by decide +kernel
theorem d4_44 : decode prog_77_method_5_code 44 = .ok (.i2l, 1) := by decide +kernel
theorem d4_45 : decode prog_77_method_5_code 45 = .ok (.lor, 1) := by decide +kernel
theorem d4_46 : decode prog_77_method_5_code 46 = .ok (.lreturn, 1) := by decide +kernel
theorem ef_rmL_0 (m : MethodId) (x0 : Addr) (x1 : Int32) : entryFrame m #[(.ref x0), (.int x1)] 6 = mkF m 0 #[.val (.ref x0), .val (.int x1), .unset, .unset, .unset, .unset] [] := by first | (simp [entryFrame, mkF, argsToLocals, Value.category]; done) | rfl
def QrmL_0 (Z : State) (a1 b1 : Addr) (p1 : Int32) (g : Nat → Int32) (P : Int → Int) (h0 : Heap) (n0 : Nat) (v : Option Value) (h : Heap) (L : List Loc) : Prop := ∃ (pl rk : Int32) (M : Nat), v = some (.long (((pl.toInt64) <<< ((32 : Int32) &&& 0x3f).toInt64) ||| (rk.toInt64))) ∧ Fr n0 L ∧ h = h0 ∧ own_inv P p1.toInt 1 M pl rk
set_option maxRecDepth 65536 in
set_option maxHeartbeats 40000000 in
theorem rmL_0 (l : Launch) (Z : State) (a0 : Array Value) (hw : ∀ d ∈ tables_1, d.before a0 Z = true) (ws : List Jvm.Cond) (a1 b1 : Addr) (p1 : Int32) (g : Nat → Int32) (P : Int → Int) (h0 : Heap) (n0 : Nat) (Z0 : n0 ≤ h0.size) (F1 : Fld Z h0 a1 "com/example/ebbtide/ebbtide/cluster/PlaceCounts" "sums" "[I" (.ref b1)) (F2 : Fld Z h0 a1 "com/example/ebbtide/ebbtide/cluster/PlaceCounts" "top" "I" (.int (0 : Int32))) (A1 : AR Z h0 b1 .int 257 (fun j => (.int (g j)))) (hm : ∀ x y, x ≤ y → P x ≤ P y) (hlo : ∀ x, 0 ≤ P x) (hhi : ∀ x, P x ≤ 4000) (hz : P 0 = 0) (hr0 : 0 ≤ p1.toInt) (hr4 : p1.toInt ≤ 4000) (hr : p1.toInt < P 256) (hG : ∀ q : Nat, (g (q + 1)).toInt = P ((q + 1 : Nat) : Int) - P q) :
    MetFree l (⟨"com/example/ebbtide/ebbtide/cluster/PlaceCounts", "locate", "(I)J"⟩ : MethodName) (head1 (Jvm.Cond.code (⟨"com/example/ebbtide/ebbtide/cluster/PlaceCounts", "locate", "(I)J"⟩ : MethodName) prog_77_method_5_code 6 (some .long) :: ws) ({ frames := 0, cells := 0, slots := 0, locals := 0 } : Room)) (fun a U => a = #[(.ref a1), (.int p1)] ∧ Z.Warmed39 U.vm ∧ U.heap = h0) (fun _ _ _ _ _ => True) (fun _ U o U' => ∃ v L, o = .returned v ∧ QrmL_0 Z a1 b1 p1 g P h0 n0 v U'.heap L ∧ FrameEnd U o U' L ({ frames := 0, cells := 0, slots := 0, locals := 0 } : Room).cells ({ frames := 0, cells := 0, slots := 0, locals := 0 } : Room).slots) := by
  refine MetFree.of_bodySF (plainFor_of_name pn_com_example_ebbtide_ebbtide_cluster_PlaceCounts) hisR ?_
  intro p e s m args below meth c s₁ Bd hml0 hP hK
  obtain ⟨rfl, hZ, hh⟩ := hP
  have hx := Bd.exec
  have hby := Bd.bytes
  have hml : c.maxLocals = 6 := hml0
  have hown : s.vm.findClass "com/example/ebbtide/ebbtide/cluster/PlaceCounts" = some m.cls := findClass_of_methodNamed Bd.named
  have hnm := (name_of_methodNamed Bd.named Bd.method).1
  have X0 : Stand p l e ({ frames := 0, cells := 0, slots := 0, locals := 0 } : Room) s m #[(.ref a1), (.int p1)] below meth c s₁ [] 0 0 := Stand.of_body Bd
  have e0 : s₁.heap = h0 := by rw [← hh, Bd.state]; rfl
  have N0 := Fr.nil n0
  have pre0 : ∀ t, Steps p.tables e below (s₁.setTop (mkF m 0 #[.val (.ref a1), .val (.int p1), .unset, .unset, .unset, .unset] [])) t → Steps p.tables e below (s₁.setTop (entryFrame m #[(.ref a1), (.int p1)] 6)) t := fun t k => castTop (ef_rmL_0 m a1 p1) k
  obtain ⟨T1, X1, e1, st1⟩ := getF X0 hx hZ hown (host := "") (Or.inl (hw _ (List.mem_of_getElem? (i := 10) rfl))) Via.refl e0 F2 (g := (mkF m 1 #[.val (.ref a1), .val (.int p1), .unset, .unset, .unset, .unset] [(.ref a1)])) rfl rfl (hb hby d4_1)
  have I0 : own_lin P p1.toInt (0 : Int32) p1 := ⟨0, rfl, by show p1.toInt = p1.toInt - P 0; omega, by show P 0 ≤ p1.toInt; omega⟩
  have c3 : ∀ t, Steps p.tables e below (T1.setTop (mkF m 9 #[.val (.ref a1), .val (.int p1), .val (.int (0 : Int32)), .unset, .unset, .unset] [])) t → Steps p.tables e below (s₁.setTop (mkF m 0 #[.val (.ref a1), .val (.int p1), .unset, .unset, .unset, .unset] [])) t := by
    intro t kt
    show Steps p.tables e below (s₁.setTop (mkF m 0 #[.val (.ref a1), .val (.int p1), .unset, .unset, .unset, .unset] [])) _
    refine XS.aloadN X0.here hx rfl (hb hby d4_0) rfl rfl ?_
    show Steps p.tables e below (s₁.setTop (mkF m 1 #[.val (.ref a1), .val (.int p1), .unset, .unset, .unset, .unset] [(.ref a1)])) _
    refine st1 _ ?_
    show Steps p.tables e below (T1.setTop (mkF m 4 #[.val (.ref a1), .val (.int p1), .unset, .unset, .unset, .unset] [(.int (0 : Int32))])) _
    refine XS.ifNo X1.here hx rfl (hb hby d4_4) rfl ((if0 _ _).trans (teq (by decide : (0 : Int32) = (0 : Int32))).2) ?_
    show Steps p.tables e below (T1.setTop (mkF m 7 #[.val (.ref a1), .val (.int p1), .unset, .unset, .unset, .unset] [])) _
    refine XS.iconst X1.here hx rfl (hb hby d4_7) ?_
    show Steps p.tables e below (T1.setTop (mkF m 8 #[.val (.ref a1), .val (.int p1), .unset, .unset, .unset, .unset] [(.int (0 : Int32))])) _
    refine XS.istoreN X1.here hx rfl (hb hby d4_8) rfl (l' := #[.val (.ref a1), .val (.int p1), .val (.int (0 : Int32)), .unset, .unset, .unset]) rfl ?_
    exact kt
  obtain ⟨T2, h2, L2, pl2, rk2, X2, e2, N2, K2q, hh2, I2, st2⟩ := loopL 256 a1 b1 (0 : Int32) p1 g X1 hx hZ hw hby hml hown e1 n0 N0 Z0 P p1.toInt F1 A1 hm hr hlo hhi hr4 hG I0 (by decide)
  have K2 : Keep h0 h2 [] := (Keep.refl h0 []).trans K2q all0
  have Z2 : n0 ≤ h2.size := Nat.le_trans Z0 K2q.1
  obtain ⟨zr, hzr⟩ : ∃ z : Int64, z = (((pl2.toInt64) <<< ((32 : Int32) &&& 0x3f).toInt64) ||| (rk2.toInt64)) := ⟨_, rfl⟩
  obtain ⟨fs, hr, hrun, hended, hW, hsame⟩ := X2.leave (v := some (.long zr)) (fun h => by rw [Bd.returns] at h; cases h)
  refine ⟨_, _, pre0 _ (c3 _ (?_)), hrun, hended, _, _, rfl, ?_, ⟨_, rfl⟩, hW, hsame.mono (by decide) (by decide)⟩
  · show Steps p.tables e below (T1.setTop (mkF m 9 #[.val (.ref a1), .val (.int p1), .val (.int (0 : Int32)), .unset, .unset, .unset] [])) _
    refine st2 _ ?_
    show Steps p.tables e below (T2.setTop (mkF m 38 #[.val (.ref a1), .val (.int rk2), .val (.int pl2), .unset, .unset, .unset] [])) _
    refine XS.iloadN X2.here hx rfl (hb hby d4_38) rfl ?_
    show Steps p.tables e below (T2.setTop (mkF m 39 #[.val (.ref a1), .val (.int rk2), .val (.int pl2), .unset, .unset, .unset] [(.int pl2)])) _
    refine XS.i2l X2.here hx rfl (hb hby d4_39) rfl ?_
    show Steps p.tables e below (T2.setTop (mkF m 40 #[.val (.ref a1), .val (.int rk2), .val (.int pl2), .unset, .unset, .unset] [(.long (pl2.toInt64))])) _
    refine XS.bipush X2.here hx rfl (hb hby d4_40) ?_
    show Steps p.tables e below (T2.setTop (mkF m 42 #[.val (.ref a1), .val (.int rk2), .val (.int pl2), .unset, .unset, .unset] [(.int (32 : Int32)), (.long (pl2.toInt64))])) _
    refine XS.lshl X2.here hx rfl (hb hby d4_42) rfl ?_
    show Steps p.tables e below (T2.setTop (mkF m 43 #[.val (.ref a1), .val (.int rk2), .val (.int pl2), .unset, .unset, .unset] [(.long ((pl2.toInt64) <<< ((32 : Int32) &&& 0x3f).toInt64))])) _
    refine XS.iloadN X2.here hx rfl (hb hby d4_43) rfl ?_
    show Steps p.tables e below (T2.setTop (mkF m 44 #[.val (.ref a1), .val (.int rk2), .val (.int pl2), .unset, .unset, .unset] [(.int rk2), (.long ((pl2.toInt64) <<< ((32 : Int32) &&& 0x3f).toInt64))])) _
    refine XS.i2l X2.here hx rfl (hb hby d4_44) rfl ?_
    show Steps p.tables e below (T2.setTop (mkF m 45 #[.val (.ref a1), .val (.int rk2), .val (.int pl2), .unset, .unset, .unset] [(.long (rk2.toInt64)), (.long ((pl2.toInt64) <<< ((32 : Int32) &&& 0x3f).toInt64))])) _
    refine XS.lor X2.here hx rfl (hb hby d4_45) rfl ?_
    show Steps p.tables e below (T2.setTop (mkF m 46 #[.val (.ref a1), .val (.int rk2), .val (.int pl2), .unset, .unset, .unset] [(.long (((pl2.toInt64) <<< ((32 : Int32) &&& 0x3f).toInt64) ||| (rk2.toInt64)))])) _
    rw [← hzr]
    jvm_step X2.here [X2.here.top, hx, (hb hby d4_46), X2.method', Bd.returns, narrow]
    first | (intro acts; rw [hr _ acts rfl rfl rfl]) | rw [hr _ _ rfl rfl rfl]
    exact Steps.refl _
  · show QrmL_0 Z a1 b1 p1 g P h0 n0 _ T2.heap _
    rw [e2]; subst hzr
    exact ⟨_, _, _, rfl, N2, hh2, I2⟩
theorem d4_47 : decode prog_77_method_5_code 47 = .ok (.iconst 0, 1) := by decide +kernel
theorem d4_48 : decode prog_77_method_5_code 48 = .ok (.istore_n 2, 1) := by decide +kernel
theorem d4_49 : decode prog_77_method_5_code 49 = .ok (.aload_n 0, 1) := by decide +kernel
theorem d4_50 : decode prog_77_method_5_code 50 = .ok (.getfield 9, 3) := by decide +kernel
theorem d4_53 : decode prog_77_method_5_code 53 = .ok (.istore_n 3, 1) := by decide +kernel
theorem d4_54 : decode prog_77_method_5_code 54 = .ok (.iload_n 3, 1) := by decide +kernel
theorem d4_55 : decode prog_77_method_5_code 55 = .ok (.ifCond .le 46, 3) := by decide +kernel
theorem d4_58 : decode prog_77_method_5_code 58 = .ok (.aload_n 0, 1) := by decide +kernel
theorem d4_59 : decode prog_77_method_5_code 59 = .ok (.getfield 19, 3) := by decide +kernel
theorem d4_62 : decode prog_77_method_5_code 62 = .ok (.iload_n 2, 1) := by decide +kernel
theorem d4_63 : decode prog_77_method_5_code 63 = .ok (.iload_n 3, 1) := by decide +kernel
theorem d4_64 : decode prog_77_method_5_code 64 = .ok (.iadd, 1) := by decide +kernel
theorem d4_65 : decode prog_77_method_5_code 65 = .ok (.iaload, 1) := by decide +kernel
theorem d4_66 : decode prog_77_method_5_code 66 = .ok (.istore 4, 2) := by decide +kernel
theorem d4_68 : decode prog_77_method_5_code 68 = .ok (.iload 4, 2) := by decide +kernel
theorem d4_70 : decode prog_77_method_5_code 70 = .ok (.iload_n 1, 1) := by decide +kernel
theorem d4_71 : decode prog_77_method_5_code 71 = .ok (.isub, 1) := by decide +kernel
theorem d4_72 : decode prog_77_method_5_code 72 = .ok (.iconst 1, 1) := by decide +kernel
theorem d4_73 : decode prog_77_method_5_code 73 = .ok (.isub, 1) := by decide +kernel
theorem d4_74 : decode prog_77_method_5_code 74 = .ok (.bipush 31, 2) := by decide +kernel
theorem d4_76 : decode prog_77_method_5_code 76 = .ok (.ishr, 1) := by decide +kernel
theorem d4_77 : decode prog_77_method_5_code 77 = .ok (.istore 5, 2) := by decide +kernel
theorem d4_79 : decode prog_77_method_5_code 79 = .ok (.iload_n 2, 1) := by decide +kernel
theorem d4_80 : decode prog_77_method_5_code 80 = .ok (.iload_n 3, 1) := by decide +kernel
theorem d4_81 : decode prog_77_method_5_code 81 = .ok (.iload 5, 2) := by decide +kernel
theorem d4_83 : decode prog_77_method_5_code 83 = .ok (.iand, 1) := by decide +kernel
theorem d4_84 : decode prog_77_method_5_code 84 = .ok (.iadd, 1) := by decide +kernel
theorem d4_85 : decode prog_77_method_5_code 85 = .ok (.istore_n 2, 1) := by decide +kernel
theorem d4_86 : decode prog_77_method_5_code 86 = .ok (.iload_n 1, 1) := by decide +kernel
theorem d4_87 : decode prog_77_method_5_code 87 = .ok (.iload 4, 2) := by decide +kernel
theorem d4_89 : decode prog_77_method_5_code 89 = .ok (.iload 5, 2) := by decide +kernel
theorem d4_91 : decode prog_77_method_5_code 91 = .ok (.iand, 1) := by decide +kernel
theorem d4_92 : decode prog_77_method_5_code 92 = .ok (.isub, 1) := by decide +kernel
theorem d4_93 : decode prog_77_method_5_code 93 = .ok (.istore_n 1, 1) := by decide +kernel
theorem d4_94 : decode prog_77_method_5_code 94 = .ok (.iload_n 3, 1) := by decide +kernel
theorem d4_95 : decode prog_77_method_5_code 95 = .ok (.iconst 1, 1) := by decide +kernel
theorem d4_96 : decode prog_77_method_5_code 96 = .ok (.ishr, 1) := by decide +kernel
theorem d4_97 : decode prog_77_method_5_code 97 = .ok (.istore_n 3, 1) := by decide +kernel
theorem d4_98 : decode prog_77_method_5_code 98 = .ok (.goto (-44), 3) := by decide +kernel
theorem d4_101 : decode prog_77_method_5_code 101 = .ok (.iload_n 2, 1) := by decide +kernel
theorem d4_102 : decode prog_77_method_5_code 102 = .ok (.i2l, 1) := by decide +kernel
theorem d4_103 : decode prog_77_method_5_code 103 = .ok (.bipush 32, 2) := by decide +kernel
theorem d4_105 : decode prog_77_method_5_code 105 = .ok (.lshl, 1) := by decide +kernel
theorem d4_106 : decode prog_77_method_5_code 106 = .ok (.iload_n 1, 1) := by decide +kernel
theorem d4_107 : decode prog_77_method_5_code 107 = .ok (.i2l, 1) := by decide +kernel
theorem d4_108 : decode prog_77_method_5_code 108 = .ok (.lor, 1) := by decide +kernel
theorem d4_109 : decode prog_77_method_5_code 109 = .ok (.lreturn, 1) := by decide +kernel
theorem ef_rmL_512 (m : MethodId) (x0 : Addr) (x1 : Int32) : entryFrame m #[(.ref x0), (.int x1)] 6 = mkF m 0 #[.val (.ref x0), .val (.int x1), .unset, .unset, .unset, .unset] [] := by first | (simp [entryFrame, mkF, argsToLocals, Value.category]; done) | rfl
def QrmL_512 (Z : State) (a1 b1 : Addr) (p1 : Int32) (g : Nat → Int32) (P : Int → Int) (h0 : Heap) (n0 : Nat) (v : Option Value) (h : Heap) (L : List Loc) : Prop := ∃ (pl rk : Int32) (M : Nat), v = some (.long (((pl.toInt64) <<< ((32 : Int32) &&& 0x3f).toInt64) ||| (rk.toInt64))) ∧ Fr n0 L ∧ h = h0 ∧ own_inv P p1.toInt 1 M pl rk
set_option maxRecDepth 65536 in
set_option maxHeartbeats 40000000 in
theorem rmL_512 (l : Launch) (Z : State) (a0 : Array Value) (hw : ∀ d ∈ tables_1, d.before a0 Z = true) (ws : List Jvm.Cond) (a1 b1 : Addr) (p1 : Int32) (g : Nat → Int32) (P : Int → Int) (h0 : Heap) (n0 : Nat) (Z0 : n0 ≤ h0.size) (F1 : Fld Z h0 a1 "com/example/ebbtide/ebbtide/cluster/PlaceCounts" "sums" "[I" (.ref b1)) (F2 : Fld Z h0 a1 "com/example/ebbtide/ebbtide/cluster/PlaceCounts" "top" "I" (.int (512 : Int32))) (A1 : AR Z h0 b1 .int 513 (fun j => (.int (g j)))) (hm : ∀ x y, x ≤ y → P x ≤ P y) (hlo : ∀ x, 0 ≤ P x) (hhi : ∀ x, P x ≤ 4000) (hz : P 0 = 0) (hr0 : 0 ≤ p1.toInt) (hr4 : p1.toInt ≤ 4000) (hr : p1.toInt < P 512) (hG : ∀ k : Nat, k < 11 → ∀ q : Nat, q % (2 * 2 ^ k) = 0 → q + 2 ^ k < 1025 → (g (q + 2 ^ k)).toInt = P ((q + 2 ^ k : Nat) : Int) - P q) :
    MetFree l (⟨"com/example/ebbtide/ebbtide/cluster/PlaceCounts", "locate", "(I)J"⟩ : MethodName) (head1 (Jvm.Cond.code (⟨"com/example/ebbtide/ebbtide/cluster/PlaceCounts", "locate", "(I)J"⟩ : MethodName) prog_77_method_5_code 6 (some .long) :: ws) ({ frames := 0, cells := 0, slots := 0, locals := 0 } : Room)) (fun a U => a = #[(.ref a1), (.int p1)] ∧ Z.Warmed39 U.vm ∧ U.heap = h0) (fun _ _ _ _ _ => True) (fun _ U o U' => ∃ v L, o = .returned v ∧ QrmL_512 Z a1 b1 p1 g P h0 n0 v U'.heap L ∧ FrameEnd U o U' L ({ frames := 0, cells := 0, slots := 0, locals := 0 } : Room).cells ({ frames := 0, cells := 0, slots := 0, locals := 0 } : Room).slots) := by
  refine MetFree.of_bodySF (plainFor_of_name pn_com_example_ebbtide_ebbtide_cluster_PlaceCounts) hisR ?_
  intro p e s m args below meth c s₁ Bd hml0 hP hK
  obtain ⟨rfl, hZ, hh⟩ := hP
  have hx := Bd.exec
  have hby := Bd.bytes
  have hml : c.maxLocals = 6 := hml0
  have hown : s.vm.findClass "com/example/ebbtide/ebbtide/cluster/PlaceCounts" = some m.cls := findClass_of_methodNamed Bd.named
  have hnm := (name_of_methodNamed Bd.named Bd.method).1
  have X0 : Stand p l e ({ frames := 0, cells := 0, slots := 0, locals := 0 } : Room) s m #[(.ref a1), (.int p1)] below meth c s₁ [] 0 0 := Stand.of_body Bd
  have e0 : s₁.heap = h0 := by rw [← hh, Bd.state]; rfl
  have N0 := Fr.nil n0
  have pre0 : ∀ t, Steps p.tables e below (s₁.setTop (mkF m 0 #[.val (.ref a1), .val (.int p1), .unset, .unset, .unset, .unset] [])) t → Steps p.tables e below (s₁.setTop (entryFrame m #[(.ref a1), (.int p1)] 6)) t := fun t k => castTop (ef_rmL_512 m a1 p1) k
  obtain ⟨T1, X1, e1, st1⟩ := getF X0 hx hZ hown (host := "") (Or.inl (hw _ (List.mem_of_getElem? (i := 10) rfl))) Via.refl e0 F2 (g := (mkF m 1 #[.val (.ref a1), .val (.int p1), .unset, .unset, .unset, .unset] [(.ref a1)])) rfl rfl (hb hby d4_1)
  obtain ⟨T2, X2, e2, st2⟩ := getF X1 hx hZ hown (host := "") (Or.inl (hw _ (List.mem_of_getElem? (i := 10) rfl))) Via.refl e1 F2 (g := (mkF m 50 #[.val (.ref a1), .val (.int p1), .val (.int (0 : Int32)), .unset, .unset, .unset] [(.ref a1)])) rfl rfl (hb hby d4_50)
  have I0 : own_inv P p1.toInt (2 * 512) (2 * 512) (0 : Int32) p1 := own_init P p1.toInt (2 * 512) p1 hz hr0 (Int.lt_of_lt_of_le hr (hm _ _ (by decide))) rfl
  obtain ⟨T3, X3, e3, st3⟩ := getF X2 hx hZ hown (host := "") (Or.inl (hw _ (List.mem_of_getElem? (i := 13) rfl))) Via.refl e2 F1 (g := (mkF m 59 #[.val (.ref a1), .val (.int p1), .val (.int (0 : Int32)), .val (.int (512 : Int32)), .unset, .unset] [(.ref a1)])) rfl rfl (hb hby d4_59)
  obtain ⟨sm4, hsm4⟩ : ∃ z, z = (g ((512 : Int32)).toNatClampNeg) := ⟨_, rfl⟩
  have c5 : ∀ t, Steps p.tables e below (T3.setTop (mkF m 68 #[.val (.ref a1), .val (.int p1), .val (.int (0 : Int32)), .val (.int (512 : Int32)), .val (.int sm4), .unset] [])) t → Steps p.tables e below (s₁.setTop (mkF m 0 #[.val (.ref a1), .val (.int p1), .unset, .unset, .unset, .unset] [])) t := by
    intro t kt
    subst hsm4
    show Steps p.tables e below (s₁.setTop (mkF m 0 #[.val (.ref a1), .val (.int p1), .unset, .unset, .unset, .unset] [])) _
    refine XS.aloadN X0.here hx rfl (hb hby d4_0) rfl rfl ?_
    show Steps p.tables e below (s₁.setTop (mkF m 1 #[.val (.ref a1), .val (.int p1), .unset, .unset, .unset, .unset] [(.ref a1)])) _
    refine st1 _ ?_
    refine XS.ifYes X1.here hx rfl (pc0 := 4) (pc' := 47) rfl (hb hby d4_4) rfl ((if0 _ _).trans (feq (by decide : ¬ ((512 : Int32) = (0 : Int32)))).2) (by decide) (by decide) ?_
    refine XS.iconst X1.here hx rfl (hb hby d4_47) ?_
    show Steps p.tables e below (T1.setTop (mkF m 48 #[.val (.ref a1), .val (.int p1), .unset, .unset, .unset, .unset] [(.int (0 : Int32))])) _
    refine XS.istoreN X1.here hx rfl (hb hby d4_48) rfl (l' := #[.val (.ref a1), .val (.int p1), .val (.int (0 : Int32)), .unset, .unset, .unset]) rfl ?_
    refine XS.aloadN X1.here hx rfl (hb hby d4_49) rfl rfl ?_
    show Steps p.tables e below (T1.setTop (mkF m 50 #[.val (.ref a1), .val (.int p1), .val (.int (0 : Int32)), .unset, .unset, .unset] [(.ref a1)])) _
    refine st2 _ ?_
    refine XS.istoreN X2.here hx rfl (hb hby d4_53) rfl (l' := #[.val (.ref a1), .val (.int p1), .val (.int (0 : Int32)), .val (.int (512 : Int32)), .unset, .unset]) rfl ?_
    refine XS.iloadN X2.here hx rfl (hb hby d4_54) rfl ?_
    show Steps p.tables e below (T2.setTop (mkF m 55 #[.val (.ref a1), .val (.int p1), .val (.int (0 : Int32)), .val (.int (512 : Int32)), .unset, .unset] [(.int (512 : Int32))])) _
    refine XS.ifNo X2.here hx rfl (hb hby d4_55) rfl ((if0 _ _).trans (tlt (by decide : (0 : Int32) < (512 : Int32))).2.2.2) ?_
    refine XS.aloadN X2.here hx rfl (hb hby d4_58) rfl rfl ?_
    show Steps p.tables e below (T2.setTop (mkF m 59 #[.val (.ref a1), .val (.int p1), .val (.int (0 : Int32)), .val (.int (512 : Int32)), .unset, .unset] [(.ref a1)])) _
    refine st3 _ ?_
    refine XS.iloadN X3.here hx rfl (hb hby d4_62) rfl ?_
    refine XS.iloadN X3.here hx rfl (hb hby d4_63) rfl ?_
    show Steps p.tables e below (T3.setTop (mkF m 64 #[.val (.ref a1), .val (.int p1), .val (.int (0 : Int32)), .val (.int (512 : Int32)), .unset, .unset] [(.int (512 : Int32)), (.int (0 : Int32)), (.ref b1)])) _
    refine XS.iadd X3.here hx rfl (hb hby d4_64) rfl ?_
    refine own_ldI X3 hx hZ e3 A1 (j := (512 : Int32)) (x := (g ((512 : Int32)).toNatClampNeg)) (own_idx P p1.toInt 512 (2 * 512) 513 (512 : Int32) (0 : Int32) p1 rfl (by decide) (by decide) (by decide) I0) rfl (g := (mkF m 65 #[.val (.ref a1), .val (.int p1), .val (.int (0 : Int32)), .val (.int (512 : Int32)), .unset, .unset] [(.int (512 : Int32)), (.ref b1)])) rfl rfl (hb hby d4_65) _ ?_
    refine XS.istore X3.here hx rfl (hb hby d4_66) rfl (l' := #[.val (.ref a1), .val (.int p1), .val (.int (0 : Int32)), .val (.int (512 : Int32)), .val (.int (g ((512 : Int32)).toNatClampNeg)), .unset]) rfl ?_
    exact kt
  obtain ⟨ps6, hps6⟩ : ∃ z, z = (((sm4 - p1) - (1 : Int32)) >>> ((31 : Int32) &&& 31)) := ⟨_, rfl⟩
  have c7 : ∀ t, Steps p.tables e below (T3.setTop (mkF m 79 #[.val (.ref a1), .val (.int p1), .val (.int (0 : Int32)), .val (.int (512 : Int32)), .val (.int sm4), .val (.int ps6)] [])) t → Steps p.tables e below (T3.setTop (mkF m 68 #[.val (.ref a1), .val (.int p1), .val (.int (0 : Int32)), .val (.int (512 : Int32)), .val (.int sm4), .unset] [])) t := by
    intro t kt
    subst hps6
    show Steps p.tables e below (T3.setTop (mkF m 68 #[.val (.ref a1), .val (.int p1), .val (.int (0 : Int32)), .val (.int (512 : Int32)), .val (.int sm4), .unset] [])) _
    refine XS.iload X3.here hx rfl (hb hby d4_68) rfl ?_
    refine XS.iloadN X3.here hx rfl (hb hby d4_70) rfl ?_
    refine XS.isub X3.here hx rfl (hb hby d4_71) rfl ?_
    show Steps p.tables e below (T3.setTop (mkF m 72 #[.val (.ref a1), .val (.int p1), .val (.int (0 : Int32)), .val (.int (512 : Int32)), .val (.int sm4), .unset] [(.int (sm4 - p1))])) _
    refine XS.iconst X3.here hx rfl (hb hby d4_72) ?_
    refine XS.isub X3.here hx rfl (hb hby d4_73) rfl ?_
    refine XS.bipush X3.here hx rfl (hb hby d4_74) ?_
    show Steps p.tables e below (T3.setTop (mkF m 76 #[.val (.ref a1), .val (.int p1), .val (.int (0 : Int32)), .val (.int (512 : Int32)), .val (.int sm4), .unset] [(.int (31 : Int32)), (.int ((sm4 - p1) - (1 : Int32)))])) _
    refine XS.ishr X3.here hx rfl (hb hby d4_76) rfl ?_
    refine XS.istore X3.here hx rfl (hb hby d4_77) rfl (l' := #[.val (.ref a1), .val (.int p1), .val (.int (0 : Int32)), .val (.int (512 : Int32)), .val (.int sm4), .val (.int (((sm4 - p1) - (1 : Int32)) >>> ((31 : Int32) &&& 31)))]) rfl ?_
    exact kt
  obtain ⟨rk8, hrk8⟩ : ∃ z, z = (p1 - (sm4 &&& ps6)) := ⟨_, rfl⟩
  obtain ⟨pl9, hpl9⟩ : ∃ z, z = ((0 : Int32) + ((512 : Int32) &&& ps6)) := ⟨_, rfl⟩
  have c10 : ∀ t, Steps p.tables e below (T3.setTop (mkF m 54 #[.val (.ref a1), .val (.int rk8), .val (.int pl9), .val (.int (256 : Int32)), .val (.int sm4), .val (.int ps6)] [])) t → Steps p.tables e below (T3.setTop (mkF m 79 #[.val (.ref a1), .val (.int p1), .val (.int (0 : Int32)), .val (.int (512 : Int32)), .val (.int sm4), .val (.int ps6)] [])) t := by
    intro t kt
    subst hrk8
    subst hpl9
    show Steps p.tables e below (T3.setTop (mkF m 79 #[.val (.ref a1), .val (.int p1), .val (.int (0 : Int32)), .val (.int (512 : Int32)), .val (.int sm4), .val (.int ps6)] [])) _
    refine XS.iloadN X3.here hx rfl (hb hby d4_79) rfl ?_
    refine XS.iloadN X3.here hx rfl (hb hby d4_80) rfl ?_
    refine XS.iload X3.here hx rfl (hb hby d4_81) rfl ?_
    show Steps p.tables e below (T3.setTop (mkF m 83 #[.val (.ref a1), .val (.int p1), .val (.int (0 : Int32)), .val (.int (512 : Int32)), .val (.int sm4), .val (.int ps6)] [(.int ps6), (.int (512 : Int32)), (.int (0 : Int32))])) _
    refine XS.iand X3.here hx rfl (hb hby d4_83) rfl ?_
    refine XS.iadd X3.here hx rfl (hb hby d4_84) rfl ?_
    refine XS.istoreN X3.here hx rfl (hb hby d4_85) rfl (l' := #[.val (.ref a1), .val (.int p1), .val (.int ((0 : Int32) + ((512 : Int32) &&& ps6))), .val (.int (512 : Int32)), .val (.int sm4), .val (.int ps6)]) rfl ?_
    show Steps p.tables e below (T3.setTop (mkF m 86 #[.val (.ref a1), .val (.int p1), .val (.int ((0 : Int32) + ((512 : Int32) &&& ps6))), .val (.int (512 : Int32)), .val (.int sm4), .val (.int ps6)] [])) _
    refine XS.iloadN X3.here hx rfl (hb hby d4_86) rfl ?_
    refine XS.iload X3.here hx rfl (hb hby d4_87) rfl ?_
    refine XS.iload X3.here hx rfl (hb hby d4_89) rfl ?_
    show Steps p.tables e below (T3.setTop (mkF m 91 #[.val (.ref a1), .val (.int p1), .val (.int ((0 : Int32) + ((512 : Int32) &&& ps6))), .val (.int (512 : Int32)), .val (.int sm4), .val (.int ps6)] [(.int ps6), (.int sm4), (.int p1)])) _
    refine XS.iand X3.here hx rfl (hb hby d4_91) rfl ?_
    refine XS.isub X3.here hx rfl (hb hby d4_92) rfl ?_
    refine XS.istoreN X3.here hx rfl (hb hby d4_93) rfl (l' := #[.val (.ref a1), .val (.int (p1 - (sm4 &&& ps6))), .val (.int ((0 : Int32) + ((512 : Int32) &&& ps6))), .val (.int (512 : Int32)), .val (.int sm4), .val (.int ps6)]) rfl ?_
    show Steps p.tables e below (T3.setTop (mkF m 94 #[.val (.ref a1), .val (.int (p1 - (sm4 &&& ps6))), .val (.int ((0 : Int32) + ((512 : Int32) &&& ps6))), .val (.int (512 : Int32)), .val (.int sm4), .val (.int ps6)] [])) _
    refine XS.iloadN X3.here hx rfl (hb hby d4_94) rfl ?_
    refine XS.iconst X3.here hx rfl (hb hby d4_95) ?_
    refine XS.ishr X3.here hx rfl (hb hby d4_96) rfl ?_
    show Steps p.tables e below (T3.setTop (mkF m 97 #[.val (.ref a1), .val (.int (p1 - (sm4 &&& ps6))), .val (.int ((0 : Int32) + ((512 : Int32) &&& ps6))), .val (.int (512 : Int32)), .val (.int sm4), .val (.int ps6)] [(.int (256 : Int32))])) _
    refine XS.istoreN X3.here hx rfl (hb hby d4_97) rfl (l' := #[.val (.ref a1), .val (.int (p1 - (sm4 &&& ps6))), .val (.int ((0 : Int32) + ((512 : Int32) &&& ps6))), .val (.int (256 : Int32)), .val (.int sm4), .val (.int ps6)]) rfl ?_
    refine XS.goto X3.here hx rfl (pc0 := 98) (pc' := 54) rfl (hb hby d4_98) (by decide) (by decide) ?_
    exact kt
  have I11 : own_inv P p1.toInt 512 (2 * 512) pl9 rk8 := by
    rw [hpl9, hrk8]
    exact own_step P p1.toInt 512 (2 * 512) (512 : Int32) (0 : Int32) p1 g rfl (by decide) (by decide) (fun q u w => hG 9 (by decide) q u (by omega)) hm hlo hhi hr4 I0 sm4 ps6 hsm4 hps6
  have I12 : own_inv P p1.toInt 512 512 pl9 rk8 := own_narrow P p1.toInt 512 _ _ (by decide) hr I11
  obtain ⟨T13, X13, e13, st13⟩ := getF X3 hx hZ hown (host := "") (Or.inl (hw _ (List.mem_of_getElem? (i := 13) rfl))) Via.refl e3 F1 (g := (mkF m 59 #[.val (.ref a1), .val (.int rk8), .val (.int pl9), .val (.int (256 : Int32)), .val (.int sm4), .val (.int ps6)] [(.ref a1)])) rfl rfl (hb hby d4_59)
  obtain ⟨sm14, hsm14⟩ : ∃ z, z = (g ((pl9 + (256 : Int32))).toNatClampNeg) := ⟨_, rfl⟩
  have c15 : ∀ t, Steps p.tables e below (T13.setTop (mkF m 68 #[.val (.ref a1), .val (.int rk8), .val (.int pl9), .val (.int (256 : Int32)), .val (.int sm14), .val (.int ps6)] [])) t → Steps p.tables e below (T3.setTop (mkF m 54 #[.val (.ref a1), .val (.int rk8), .val (.int pl9), .val (.int (256 : Int32)), .val (.int sm4), .val (.int ps6)] [])) t := by
    intro t kt
    subst hsm14
    show Steps p.tables e below (T3.setTop (mkF m 54 #[.val (.ref a1), .val (.int rk8), .val (.int pl9), .val (.int (256 : Int32)), .val (.int sm4), .val (.int ps6)] [])) _
    refine XS.iloadN X3.here hx rfl (hb hby d4_54) rfl ?_
    refine XS.ifNo X3.here hx rfl (hb hby d4_55) rfl ((if0 _ _).trans (tlt (by decide : (0 : Int32) < (256 : Int32))).2.2.2) ?_
    refine XS.aloadN X3.here hx rfl (hb hby d4_58) rfl rfl ?_
    show Steps p.tables e below (T3.setTop (mkF m 59 #[.val (.ref a1), .val (.int rk8), .val (.int pl9), .val (.int (256 : Int32)), .val (.int sm4), .val (.int ps6)] [(.ref a1)])) _
    refine st13 _ ?_
    refine XS.iloadN X13.here hx rfl (hb hby d4_62) rfl ?_
    refine XS.iloadN X13.here hx rfl (hb hby d4_63) rfl ?_
    show Steps p.tables e below (T13.setTop (mkF m 64 #[.val (.ref a1), .val (.int rk8), .val (.int pl9), .val (.int (256 : Int32)), .val (.int sm4), .val (.int ps6)] [(.int (256 : Int32)), (.int pl9), (.ref b1)])) _
    refine XS.iadd X13.here hx rfl (hb hby d4_64) rfl ?_
    refine own_ldI X13 hx hZ e13 A1 (j := (pl9 + (256 : Int32))) (x := (g ((pl9 + (256 : Int32))).toNatClampNeg)) (own_idx P p1.toInt 256 (512) 513 (256 : Int32) pl9 rk8 rfl (by decide) (by decide) (by decide) I12) rfl (g := (mkF m 65 #[.val (.ref a1), .val (.int rk8), .val (.int pl9), .val (.int (256 : Int32)), .val (.int sm4), .val (.int ps6)] [(.int (pl9 + (256 : Int32))), (.ref b1)])) rfl rfl (hb hby d4_65) _ ?_
    refine XS.istore X13.here hx rfl (hb hby d4_66) rfl (l' := #[.val (.ref a1), .val (.int rk8), .val (.int pl9), .val (.int (256 : Int32)), .val (.int (g ((pl9 + (256 : Int32))).toNatClampNeg)), .val (.int ps6)]) rfl ?_
    exact kt
  obtain ⟨ps16, hps16⟩ : ∃ z, z = (((sm14 - rk8) - (1 : Int32)) >>> ((31 : Int32) &&& 31)) := ⟨_, rfl⟩
  have c17 : ∀ t, Steps p.tables e below (T13.setTop (mkF m 79 #[.val (.ref a1), .val (.int rk8), .val (.int pl9), .val (.int (256 : Int32)), .val (.int sm14), .val (.int ps16)] [])) t → Steps p.tables e below (T13.setTop (mkF m 68 #[.val (.ref a1), .val (.int rk8), .val (.int pl9), .val (.int (256 : Int32)), .val (.int sm14), .val (.int ps6)] [])) t := by
    intro t kt
    subst hps16
    show Steps p.tables e below (T13.setTop (mkF m 68 #[.val (.ref a1), .val (.int rk8), .val (.int pl9), .val (.int (256 : Int32)), .val (.int sm14), .val (.int ps6)] [])) _
    refine XS.iload X13.here hx rfl (hb hby d4_68) rfl ?_
    refine XS.iloadN X13.here hx rfl (hb hby d4_70) rfl ?_
    refine XS.isub X13.here hx rfl (hb hby d4_71) rfl ?_
    show Steps p.tables e below (T13.setTop (mkF m 72 #[.val (.ref a1), .val (.int rk8), .val (.int pl9), .val (.int (256 : Int32)), .val (.int sm14), .val (.int ps6)] [(.int (sm14 - rk8))])) _
    refine XS.iconst X13.here hx rfl (hb hby d4_72) ?_
    refine XS.isub X13.here hx rfl (hb hby d4_73) rfl ?_
    refine XS.bipush X13.here hx rfl (hb hby d4_74) ?_
    show Steps p.tables e below (T13.setTop (mkF m 76 #[.val (.ref a1), .val (.int rk8), .val (.int pl9), .val (.int (256 : Int32)), .val (.int sm14), .val (.int ps6)] [(.int (31 : Int32)), (.int ((sm14 - rk8) - (1 : Int32)))])) _
    refine XS.ishr X13.here hx rfl (hb hby d4_76) rfl ?_
    refine XS.istore X13.here hx rfl (hb hby d4_77) rfl (l' := #[.val (.ref a1), .val (.int rk8), .val (.int pl9), .val (.int (256 : Int32)), .val (.int sm14), .val (.int (((sm14 - rk8) - (1 : Int32)) >>> ((31 : Int32) &&& 31)))]) rfl ?_
    exact kt
  obtain ⟨rk18, hrk18⟩ : ∃ z, z = (rk8 - (sm14 &&& ps16)) := ⟨_, rfl⟩
  obtain ⟨pl19, hpl19⟩ : ∃ z, z = (pl9 + ((256 : Int32) &&& ps16)) := ⟨_, rfl⟩
  have c20 : ∀ t, Steps p.tables e below (T13.setTop (mkF m 54 #[.val (.ref a1), .val (.int rk18), .val (.int pl19), .val (.int (128 : Int32)), .val (.int sm14), .val (.int ps16)] [])) t → Steps p.tables e below (T13.setTop (mkF m 79 #[.val (.ref a1), .val (.int rk8), .val (.int pl9), .val (.int (256 : Int32)), .val (.int sm14), .val (.int ps16)] [])) t := by
    intro t kt
    subst hrk18
    subst hpl19
    show Steps p.tables e below (T13.setTop (mkF m 79 #[.val (.ref a1), .val (.int rk8), .val (.int pl9), .val (.int (256 : Int32)), .val (.int sm14), .val (.int ps16)] [])) _
    refine XS.iloadN X13.here hx rfl (hb hby d4_79) rfl ?_
    refine XS.iloadN X13.here hx rfl (hb hby d4_80) rfl ?_
    refine XS.iload X13.here hx rfl (hb hby d4_81) rfl ?_
    show Steps p.tables e below (T13.setTop (mkF m 83 #[.val (.ref a1), .val (.int rk8), .val (.int pl9), .val (.int (256 : Int32)), .val (.int sm14), .val (.int ps16)] [(.int ps16), (.int (256 : Int32)), (.int pl9)])) _
    refine XS.iand X13.here hx rfl (hb hby d4_83) rfl ?_
    refine XS.iadd X13.here hx rfl (hb hby d4_84) rfl ?_
    refine XS.istoreN X13.here hx rfl (hb hby d4_85) rfl (l' := #[.val (.ref a1), .val (.int rk8), .val (.int (pl9 + ((256 : Int32) &&& ps16))), .val (.int (256 : Int32)), .val (.int sm14), .val (.int ps16)]) rfl ?_
    show Steps p.tables e below (T13.setTop (mkF m 86 #[.val (.ref a1), .val (.int rk8), .val (.int (pl9 + ((256 : Int32) &&& ps16))), .val (.int (256 : Int32)), .val (.int sm14), .val (.int ps16)] [])) _
    refine XS.iloadN X13.here hx rfl (hb hby d4_86) rfl ?_
    refine XS.iload X13.here hx rfl (hb hby d4_87) rfl ?_
    refine XS.iload X13.here hx rfl (hb hby d4_89) rfl ?_
    show Steps p.tables e below (T13.setTop (mkF m 91 #[.val (.ref a1), .val (.int rk8), .val (.int (pl9 + ((256 : Int32) &&& ps16))), .val (.int (256 : Int32)), .val (.int sm14), .val (.int ps16)] [(.int ps16), (.int sm14), (.int rk8)])) _
    refine XS.iand X13.here hx rfl (hb hby d4_91) rfl ?_
    refine XS.isub X13.here hx rfl (hb hby d4_92) rfl ?_
    refine XS.istoreN X13.here hx rfl (hb hby d4_93) rfl (l' := #[.val (.ref a1), .val (.int (rk8 - (sm14 &&& ps16))), .val (.int (pl9 + ((256 : Int32) &&& ps16))), .val (.int (256 : Int32)), .val (.int sm14), .val (.int ps16)]) rfl ?_
    show Steps p.tables e below (T13.setTop (mkF m 94 #[.val (.ref a1), .val (.int (rk8 - (sm14 &&& ps16))), .val (.int (pl9 + ((256 : Int32) &&& ps16))), .val (.int (256 : Int32)), .val (.int sm14), .val (.int ps16)] [])) _
    refine XS.iloadN X13.here hx rfl (hb hby d4_94) rfl ?_
    refine XS.iconst X13.here hx rfl (hb hby d4_95) ?_
    refine XS.ishr X13.here hx rfl (hb hby d4_96) rfl ?_
    show Steps p.tables e below (T13.setTop (mkF m 97 #[.val (.ref a1), .val (.int (rk8 - (sm14 &&& ps16))), .val (.int (pl9 + ((256 : Int32) &&& ps16))), .val (.int (256 : Int32)), .val (.int sm14), .val (.int ps16)] [(.int (128 : Int32))])) _
    refine XS.istoreN X13.here hx rfl (hb hby d4_97) rfl (l' := #[.val (.ref a1), .val (.int (rk8 - (sm14 &&& ps16))), .val (.int (pl9 + ((256 : Int32) &&& ps16))), .val (.int (128 : Int32)), .val (.int sm14), .val (.int ps16)]) rfl ?_
    refine XS.goto X13.here hx rfl (pc0 := 98) (pc' := 54) rfl (hb hby d4_98) (by decide) (by decide) ?_
    exact kt
  have I21 : own_inv P p1.toInt 256 512 pl19 rk18 := by
    rw [hpl19, hrk18]
    exact own_step P p1.toInt 256 (512) (256 : Int32) pl9 rk8 g rfl (by decide) (by decide) (fun q u w => hG 8 (by decide) q u (by omega)) hm hlo hhi hr4 I12 sm14 ps16 hsm14 hps16
  obtain ⟨T22, X22, e22, st22⟩ := getF X13 hx hZ hown (host := "") (Or.inl (hw _ (List.mem_of_getElem? (i := 13) rfl))) Via.refl e13 F1 (g := (mkF m 59 #[.val (.ref a1), .val (.int rk18), .val (.int pl19), .val (.int (128 : Int32)), .val (.int sm14), .val (.int ps16)] [(.ref a1)])) rfl rfl (hb hby d4_59)
  obtain ⟨sm23, hsm23⟩ : ∃ z, z = (g ((pl19 + (128 : Int32))).toNatClampNeg) := ⟨_, rfl⟩
  have c24 : ∀ t, Steps p.tables e below (T22.setTop (mkF m 68 #[.val (.ref a1), .val (.int rk18), .val (.int pl19), .val (.int (128 : Int32)), .val (.int sm23), .val (.int ps16)] [])) t → Steps p.tables e below (T13.setTop (mkF m 54 #[.val (.ref a1), .val (.int rk18), .val (.int pl19), .val (.int (128 : Int32)), .val (.int sm14), .val (.int ps16)] [])) t := by
    intro t kt
    subst hsm23
    show Steps p.tables e below (T13.setTop (mkF m 54 #[.val (.ref a1), .val (.int rk18), .val (.int pl19), .val (.int (128 : Int32)), .val (.int sm14), .val (.int ps16)] [])) _
    refine XS.iloadN X13.here hx rfl (hb hby d4_54) rfl ?_
    refine XS.ifNo X13.here hx rfl (hb hby d4_55) rfl ((if0 _ _).trans (tlt (by decide : (0 : Int32) < (128 : Int32))).2.2.2) ?_
    refine XS.aloadN X13.here hx rfl (hb hby d4_58) rfl rfl ?_
    show Steps p.tables e below (T13.setTop (mkF m 59 #[.val (.ref a1), .val (.int rk18), .val (.int pl19), .val (.int (128 : Int32)), .val (.int sm14), .val (.int ps16)] [(.ref a1)])) _
    refine st22 _ ?_
    refine XS.iloadN X22.here hx rfl (hb hby d4_62) rfl ?_
    refine XS.iloadN X22.here hx rfl (hb hby d4_63) rfl ?_
    show Steps p.tables e below (T22.setTop (mkF m 64 #[.val (.ref a1), .val (.int rk18), .val (.int pl19), .val (.int (128 : Int32)), .val (.int sm14), .val (.int ps16)] [(.int (128 : Int32)), (.int pl19), (.ref b1)])) _
    refine XS.iadd X22.here hx rfl (hb hby d4_64) rfl ?_
    refine own_ldI X22 hx hZ e22 A1 (j := (pl19 + (128 : Int32))) (x := (g ((pl19 + (128 : Int32))).toNatClampNeg)) (own_idx P p1.toInt 128 (512) 513 (128 : Int32) pl19 rk18 rfl (by decide) (by decide) (by decide) I21) rfl (g := (mkF m 65 #[.val (.ref a1), .val (.int rk18), .val (.int pl19), .val (.int (128 : Int32)), .val (.int sm14), .val (.int ps16)] [(.int (pl19 + (128 : Int32))), (.ref b1)])) rfl rfl (hb hby d4_65) _ ?_
    refine XS.istore X22.here hx rfl (hb hby d4_66) rfl (l' := #[.val (.ref a1), .val (.int rk18), .val (.int pl19), .val (.int (128 : Int32)), .val (.int (g ((pl19 + (128 : Int32))).toNatClampNeg)), .val (.int ps16)]) rfl ?_
    exact kt
  obtain ⟨ps25, hps25⟩ : ∃ z, z = (((sm23 - rk18) - (1 : Int32)) >>> ((31 : Int32) &&& 31)) := ⟨_, rfl⟩
  have c26 : ∀ t, Steps p.tables e below (T22.setTop (mkF m 79 #[.val (.ref a1), .val (.int rk18), .val (.int pl19), .val (.int (128 : Int32)), .val (.int sm23), .val (.int ps25)] [])) t → Steps p.tables e below (T22.setTop (mkF m 68 #[.val (.ref a1), .val (.int rk18), .val (.int pl19), .val (.int (128 : Int32)), .val (.int sm23), .val (.int ps16)] [])) t := by
    intro t kt
    subst hps25
    show Steps p.tables e below (T22.setTop (mkF m 68 #[.val (.ref a1), .val (.int rk18), .val (.int pl19), .val (.int (128 : Int32)), .val (.int sm23), .val (.int ps16)] [])) _
    refine XS.iload X22.here hx rfl (hb hby d4_68) rfl ?_
    refine XS.iloadN X22.here hx rfl (hb hby d4_70) rfl ?_
    refine XS.isub X22.here hx rfl (hb hby d4_71) rfl ?_
    show Steps p.tables e below (T22.setTop (mkF m 72 #[.val (.ref a1), .val (.int rk18), .val (.int pl19), .val (.int (128 : Int32)), .val (.int sm23), .val (.int ps16)] [(.int (sm23 - rk18))])) _
    refine XS.iconst X22.here hx rfl (hb hby d4_72) ?_
    refine XS.isub X22.here hx rfl (hb hby d4_73) rfl ?_
    refine XS.bipush X22.here hx rfl (hb hby d4_74) ?_
    show Steps p.tables e below (T22.setTop (mkF m 76 #[.val (.ref a1), .val (.int rk18), .val (.int pl19), .val (.int (128 : Int32)), .val (.int sm23), .val (.int ps16)] [(.int (31 : Int32)), (.int ((sm23 - rk18) - (1 : Int32)))])) _
    refine XS.ishr X22.here hx rfl (hb hby d4_76) rfl ?_
    refine XS.istore X22.here hx rfl (hb hby d4_77) rfl (l' := #[.val (.ref a1), .val (.int rk18), .val (.int pl19), .val (.int (128 : Int32)), .val (.int sm23), .val (.int (((sm23 - rk18) - (1 : Int32)) >>> ((31 : Int32) &&& 31)))]) rfl ?_
    exact kt
  obtain ⟨rk27, hrk27⟩ : ∃ z, z = (rk18 - (sm23 &&& ps25)) := ⟨_, rfl⟩
  obtain ⟨pl28, hpl28⟩ : ∃ z, z = (pl19 + ((128 : Int32) &&& ps25)) := ⟨_, rfl⟩
  have c29 : ∀ t, Steps p.tables e below (T22.setTop (mkF m 54 #[.val (.ref a1), .val (.int rk27), .val (.int pl28), .val (.int (64 : Int32)), .val (.int sm23), .val (.int ps25)] [])) t → Steps p.tables e below (T22.setTop (mkF m 79 #[.val (.ref a1), .val (.int rk18), .val (.int pl19), .val (.int (128 : Int32)), .val (.int sm23), .val (.int ps25)] [])) t := by
    intro t kt
    subst hrk27
    subst hpl28
    show Steps p.tables e below (T22.setTop (mkF m 79 #[.val (.ref a1), .val (.int rk18), .val (.int pl19), .val (.int (128 : Int32)), .val (.int sm23), .val (.int ps25)] [])) _
    refine XS.iloadN X22.here hx rfl (hb hby d4_79) rfl ?_
    refine XS.iloadN X22.here hx rfl (hb hby d4_80) rfl ?_
    refine XS.iload X22.here hx rfl (hb hby d4_81) rfl ?_
    show Steps p.tables e below (T22.setTop (mkF m 83 #[.val (.ref a1), .val (.int rk18), .val (.int pl19), .val (.int (128 : Int32)), .val (.int sm23), .val (.int ps25)] [(.int ps25), (.int (128 : Int32)), (.int pl19)])) _
    refine XS.iand X22.here hx rfl (hb hby d4_83) rfl ?_
    refine XS.iadd X22.here hx rfl (hb hby d4_84) rfl ?_
    refine XS.istoreN X22.here hx rfl (hb hby d4_85) rfl (l' := #[.val (.ref a1), .val (.int rk18), .val (.int (pl19 + ((128 : Int32) &&& ps25))), .val (.int (128 : Int32)), .val (.int sm23), .val (.int ps25)]) rfl ?_
    show Steps p.tables e below (T22.setTop (mkF m 86 #[.val (.ref a1), .val (.int rk18), .val (.int (pl19 + ((128 : Int32) &&& ps25))), .val (.int (128 : Int32)), .val (.int sm23), .val (.int ps25)] [])) _
    refine XS.iloadN X22.here hx rfl (hb hby d4_86) rfl ?_
    refine XS.iload X22.here hx rfl (hb hby d4_87) rfl ?_
    refine XS.iload X22.here hx rfl (hb hby d4_89) rfl ?_
    show Steps p.tables e below (T22.setTop (mkF m 91 #[.val (.ref a1), .val (.int rk18), .val (.int (pl19 + ((128 : Int32) &&& ps25))), .val (.int (128 : Int32)), .val (.int sm23), .val (.int ps25)] [(.int ps25), (.int sm23), (.int rk18)])) _
    refine XS.iand X22.here hx rfl (hb hby d4_91) rfl ?_
    refine XS.isub X22.here hx rfl (hb hby d4_92) rfl ?_
    refine XS.istoreN X22.here hx rfl (hb hby d4_93) rfl (l' := #[.val (.ref a1), .val (.int (rk18 - (sm23 &&& ps25))), .val (.int (pl19 + ((128 : Int32) &&& ps25))), .val (.int (128 : Int32)), .val (.int sm23), .val (.int ps25)]) rfl ?_
    show Steps p.tables e below (T22.setTop (mkF m 94 #[.val (.ref a1), .val (.int (rk18 - (sm23 &&& ps25))), .val (.int (pl19 + ((128 : Int32) &&& ps25))), .val (.int (128 : Int32)), .val (.int sm23), .val (.int ps25)] [])) _
    refine XS.iloadN X22.here hx rfl (hb hby d4_94) rfl ?_
    refine XS.iconst X22.here hx rfl (hb hby d4_95) ?_
    refine XS.ishr X22.here hx rfl (hb hby d4_96) rfl ?_
    show Steps p.tables e below (T22.setTop (mkF m 97 #[.val (.ref a1), .val (.int (rk18 - (sm23 &&& ps25))), .val (.int (pl19 + ((128 : Int32) &&& ps25))), .val (.int (128 : Int32)), .val (.int sm23), .val (.int ps25)] [(.int (64 : Int32))])) _
    refine XS.istoreN X22.here hx rfl (hb hby d4_97) rfl (l' := #[.val (.ref a1), .val (.int (rk18 - (sm23 &&& ps25))), .val (.int (pl19 + ((128 : Int32) &&& ps25))), .val (.int (64 : Int32)), .val (.int sm23), .val (.int ps25)]) rfl ?_
    refine XS.goto X22.here hx rfl (pc0 := 98) (pc' := 54) rfl (hb hby d4_98) (by decide) (by decide) ?_
    exact kt
  have I30 : own_inv P p1.toInt 128 512 pl28 rk27 := by
    rw [hpl28, hrk27]
    exact own_step P p1.toInt 128 (512) (128 : Int32) pl19 rk18 g rfl (by decide) (by decide) (fun q u w => hG 7 (by decide) q u (by omega)) hm hlo hhi hr4 I21 sm23 ps25 hsm23 hps25
  obtain ⟨T31, X31, e31, st31⟩ := getF X22 hx hZ hown (host := "") (Or.inl (hw _ (List.mem_of_getElem? (i := 13) rfl))) Via.refl e22 F1 (g := (mkF m 59 #[.val (.ref a1), .val (.int rk27), .val (.int pl28), .val (.int (64 : Int32)), .val (.int sm23), .val (.int ps25)] [(.ref a1)])) rfl rfl (hb hby d4_59)
  obtain ⟨sm32, hsm32⟩ : ∃ z, z = (g ((pl28 + (64 : Int32))).toNatClampNeg) := ⟨_, rfl⟩
  have c33 : ∀ t, Steps p.tables e below (T31.setTop (mkF m 68 #[.val (.ref a1), .val (.int rk27), .val (.int pl28), .val (.int (64 : Int32)), .val (.int sm32), .val (.int ps25)] [])) t → Steps p.tables e below (T22.setTop (mkF m 54 #[.val (.ref a1), .val (.int rk27), .val (.int pl28), .val (.int (64 : Int32)), .val (.int sm23), .val (.int ps25)] [])) t := by
    intro t kt
    subst hsm32
    show Steps p.tables e below (T22.setTop (mkF m 54 #[.val (.ref a1), .val (.int rk27), .val (.int pl28), .val (.int (64 : Int32)), .val (.int sm23), .val (.int ps25)] [])) _
    refine XS.iloadN X22.here hx rfl (hb hby d4_54) rfl ?_
    refine XS.ifNo X22.here hx rfl (hb hby d4_55) rfl ((if0 _ _).trans (tlt (by decide : (0 : Int32) < (64 : Int32))).2.2.2) ?_
    refine XS.aloadN X22.here hx rfl (hb hby d4_58) rfl rfl ?_
    show Steps p.tables e below (T22.setTop (mkF m 59 #[.val (.ref a1), .val (.int rk27), .val (.int pl28), .val (.int (64 : Int32)), .val (.int sm23), .val (.int ps25)] [(.ref a1)])) _
    refine st31 _ ?_
    refine XS.iloadN X31.here hx rfl (hb hby d4_62) rfl ?_
    refine XS.iloadN X31.here hx rfl (hb hby d4_63) rfl ?_
    show Steps p.tables e below (T31.setTop (mkF m 64 #[.val (.ref a1), .val (.int rk27), .val (.int pl28), .val (.int (64 : Int32)), .val (.int sm23), .val (.int ps25)] [(.int (64 : Int32)), (.int pl28), (.ref b1)])) _
    refine XS.iadd X31.here hx rfl (hb hby d4_64) rfl ?_
    refine own_ldI X31 hx hZ e31 A1 (j := (pl28 + (64 : Int32))) (x := (g ((pl28 + (64 : Int32))).toNatClampNeg)) (own_idx P p1.toInt 64 (512) 513 (64 : Int32) pl28 rk27 rfl (by decide) (by decide) (by decide) I30) rfl (g := (mkF m 65 #[.val (.ref a1), .val (.int rk27), .val (.int pl28), .val (.int (64 : Int32)), .val (.int sm23), .val (.int ps25)] [(.int (pl28 + (64 : Int32))), (.ref b1)])) rfl rfl (hb hby d4_65) _ ?_
    refine XS.istore X31.here hx rfl (hb hby d4_66) rfl (l' := #[.val (.ref a1), .val (.int rk27), .val (.int pl28), .val (.int (64 : Int32)), .val (.int (g ((pl28 + (64 : Int32))).toNatClampNeg)), .val (.int ps25)]) rfl ?_
    exact kt
  obtain ⟨ps34, hps34⟩ : ∃ z, z = (((sm32 - rk27) - (1 : Int32)) >>> ((31 : Int32) &&& 31)) := ⟨_, rfl⟩
  have c35 : ∀ t, Steps p.tables e below (T31.setTop (mkF m 79 #[.val (.ref a1), .val (.int rk27), .val (.int pl28), .val (.int (64 : Int32)), .val (.int sm32), .val (.int ps34)] [])) t → Steps p.tables e below (T31.setTop (mkF m 68 #[.val (.ref a1), .val (.int rk27), .val (.int pl28), .val (.int (64 : Int32)), .val (.int sm32), .val (.int ps25)] [])) t := by
    intro t kt
    subst hps34
    show Steps p.tables e below (T31.setTop (mkF m 68 #[.val (.ref a1), .val (.int rk27), .val (.int pl28), .val (.int (64 : Int32)), .val (.int sm32), .val (.int ps25)] [])) _
    refine XS.iload X31.here hx rfl (hb hby d4_68) rfl ?_
    refine XS.iloadN X31.here hx rfl (hb hby d4_70) rfl ?_
    refine XS.isub X31.here hx rfl (hb hby d4_71) rfl ?_
    show Steps p.tables e below (T31.setTop (mkF m 72 #[.val (.ref a1), .val (.int rk27), .val (.int pl28), .val (.int (64 : Int32)), .val (.int sm32), .val (.int ps25)] [(.int (sm32 - rk27))])) _
    refine XS.iconst X31.here hx rfl (hb hby d4_72) ?_
    refine XS.isub X31.here hx rfl (hb hby d4_73) rfl ?_
    refine XS.bipush X31.here hx rfl (hb hby d4_74) ?_
    show Steps p.tables e below (T31.setTop (mkF m 76 #[.val (.ref a1), .val (.int rk27), .val (.int pl28), .val (.int (64 : Int32)), .val (.int sm32), .val (.int ps25)] [(.int (31 : Int32)), (.int ((sm32 - rk27) - (1 : Int32)))])) _
    refine XS.ishr X31.here hx rfl (hb hby d4_76) rfl ?_
    refine XS.istore X31.here hx rfl (hb hby d4_77) rfl (l' := #[.val (.ref a1), .val (.int rk27), .val (.int pl28), .val (.int (64 : Int32)), .val (.int sm32), .val (.int (((sm32 - rk27) - (1 : Int32)) >>> ((31 : Int32) &&& 31)))]) rfl ?_
    exact kt
  obtain ⟨rk36, hrk36⟩ : ∃ z, z = (rk27 - (sm32 &&& ps34)) := ⟨_, rfl⟩
  obtain ⟨pl37, hpl37⟩ : ∃ z, z = (pl28 + ((64 : Int32) &&& ps34)) := ⟨_, rfl⟩
  have c38 : ∀ t, Steps p.tables e below (T31.setTop (mkF m 54 #[.val (.ref a1), .val (.int rk36), .val (.int pl37), .val (.int (32 : Int32)), .val (.int sm32), .val (.int ps34)] [])) t → Steps p.tables e below (T31.setTop (mkF m 79 #[.val (.ref a1), .val (.int rk27), .val (.int pl28), .val (.int (64 : Int32)), .val (.int sm32), .val (.int ps34)] [])) t := by
    intro t kt
    subst hrk36
    subst hpl37
    show Steps p.tables e below (T31.setTop (mkF m 79 #[.val (.ref a1), .val (.int rk27), .val (.int pl28), .val (.int (64 : Int32)), .val (.int sm32), .val (.int ps34)] [])) _
    refine XS.iloadN X31.here hx rfl (hb hby d4_79) rfl ?_
    refine XS.iloadN X31.here hx rfl (hb hby d4_80) rfl ?_
    refine XS.iload X31.here hx rfl (hb hby d4_81) rfl ?_
    show Steps p.tables e below (T31.setTop (mkF m 83 #[.val (.ref a1), .val (.int rk27), .val (.int pl28), .val (.int (64 : Int32)), .val (.int sm32), .val (.int ps34)] [(.int ps34), (.int (64 : Int32)), (.int pl28)])) _
    refine XS.iand X31.here hx rfl (hb hby d4_83) rfl ?_
    refine XS.iadd X31.here hx rfl (hb hby d4_84) rfl ?_
    refine XS.istoreN X31.here hx rfl (hb hby d4_85) rfl (l' := #[.val (.ref a1), .val (.int rk27), .val (.int (pl28 + ((64 : Int32) &&& ps34))), .val (.int (64 : Int32)), .val (.int sm32), .val (.int ps34)]) rfl ?_
    show Steps p.tables e below (T31.setTop (mkF m 86 #[.val (.ref a1), .val (.int rk27), .val (.int (pl28 + ((64 : Int32) &&& ps34))), .val (.int (64 : Int32)), .val (.int sm32), .val (.int ps34)] [])) _
    refine XS.iloadN X31.here hx rfl (hb hby d4_86) rfl ?_
    refine XS.iload X31.here hx rfl (hb hby d4_87) rfl ?_
    refine XS.iload X31.here hx rfl (hb hby d4_89) rfl ?_
    show Steps p.tables e below (T31.setTop (mkF m 91 #[.val (.ref a1), .val (.int rk27), .val (.int (pl28 + ((64 : Int32) &&& ps34))), .val (.int (64 : Int32)), .val (.int sm32), .val (.int ps34)] [(.int ps34), (.int sm32), (.int rk27)])) _
    refine XS.iand X31.here hx rfl (hb hby d4_91) rfl ?_
    refine XS.isub X31.here hx rfl (hb hby d4_92) rfl ?_
    refine XS.istoreN X31.here hx rfl (hb hby d4_93) rfl (l' := #[.val (.ref a1), .val (.int (rk27 - (sm32 &&& ps34))), .val (.int (pl28 + ((64 : Int32) &&& ps34))), .val (.int (64 : Int32)), .val (.int sm32), .val (.int ps34)]) rfl ?_
    show Steps p.tables e below (T31.setTop (mkF m 94 #[.val (.ref a1), .val (.int (rk27 - (sm32 &&& ps34))), .val (.int (pl28 + ((64 : Int32) &&& ps34))), .val (.int (64 : Int32)), .val (.int sm32), .val (.int ps34)] [])) _
    refine XS.iloadN X31.here hx rfl (hb hby d4_94) rfl ?_
    refine XS.iconst X31.here hx rfl (hb hby d4_95) ?_
    refine XS.ishr X31.here hx rfl (hb hby d4_96) rfl ?_
    show Steps p.tables e below (T31.setTop (mkF m 97 #[.val (.ref a1), .val (.int (rk27 - (sm32 &&& ps34))), .val (.int (pl28 + ((64 : Int32) &&& ps34))), .val (.int (64 : Int32)), .val (.int sm32), .val (.int ps34)] [(.int (32 : Int32))])) _
    refine XS.istoreN X31.here hx rfl (hb hby d4_97) rfl (l' := #[.val (.ref a1), .val (.int (rk27 - (sm32 &&& ps34))), .val (.int (pl28 + ((64 : Int32) &&& ps34))), .val (.int (32 : Int32)), .val (.int sm32), .val (.int ps34)]) rfl ?_
    refine XS.goto X31.here hx rfl (pc0 := 98) (pc' := 54) rfl (hb hby d4_98) (by decide) (by decide) ?_
    exact kt
  have I39 : own_inv P p1.toInt 64 512 pl37 rk36 := by
    rw [hpl37, hrk36]
    exact own_step P p1.toInt 64 (512) (64 : Int32) pl28 rk27 g rfl (by decide) (by decide) (fun q u w => hG 6 (by decide) q u (by omega)) hm hlo hhi hr4 I30 sm32 ps34 hsm32 hps34
  obtain ⟨T40, X40, e40, st40⟩ := getF X31 hx hZ hown (host := "") (Or.inl (hw _ (List.mem_of_getElem? (i := 13) rfl))) Via.refl e31 F1 (g := (mkF m 59 #[.val (.ref a1), .val (.int rk36), .val (.int pl37), .val (.int (32 : Int32)), .val (.int sm32), .val (.int ps34)] [(.ref a1)])) rfl rfl (hb hby d4_59)
  obtain ⟨sm41, hsm41⟩ : ∃ z, z = (g ((pl37 + (32 : Int32))).toNatClampNeg) := ⟨_, rfl⟩
  have c42 : ∀ t, Steps p.tables e below (T40.setTop (mkF m 68 #[.val (.ref a1), .val (.int rk36), .val (.int pl37), .val (.int (32 : Int32)), .val (.int sm41), .val (.int ps34)] [])) t → Steps p.tables e below (T31.setTop (mkF m 54 #[.val (.ref a1), .val (.int rk36), .val (.int pl37), .val (.int (32 : Int32)), .val (.int sm32), .val (.int ps34)] [])) t := by
    intro t kt
    subst hsm41
    show Steps p.tables e below (T31.setTop (mkF m 54 #[.val (.ref a1), .val (.int rk36), .val (.int pl37), .val (.int (32 : Int32)), .val (.int sm32), .val (.int ps34)] [])) _
    refine XS.iloadN X31.here hx rfl (hb hby d4_54) rfl ?_
    refine XS.ifNo X31.here hx rfl (hb hby d4_55) rfl ((if0 _ _).trans (tlt (by decide : (0 : Int32) < (32 : Int32))).2.2.2) ?_
    refine XS.aloadN X31.here hx rfl (hb hby d4_58) rfl rfl ?_
    show Steps p.tables e below (T31.setTop (mkF m 59 #[.val (.ref a1), .val (.int rk36), .val (.int pl37), .val (.int (32 : Int32)), .val (.int sm32), .val (.int ps34)] [(.ref a1)])) _
    refine st40 _ ?_
    refine XS.iloadN X40.here hx rfl (hb hby d4_62) rfl ?_
    refine XS.iloadN X40.here hx rfl (hb hby d4_63) rfl ?_
    show Steps p.tables e below (T40.setTop (mkF m 64 #[.val (.ref a1), .val (.int rk36), .val (.int pl37), .val (.int (32 : Int32)), .val (.int sm32), .val (.int ps34)] [(.int (32 : Int32)), (.int pl37), (.ref b1)])) _
    refine XS.iadd X40.here hx rfl (hb hby d4_64) rfl ?_
    refine own_ldI X40 hx hZ e40 A1 (j := (pl37 + (32 : Int32))) (x := (g ((pl37 + (32 : Int32))).toNatClampNeg)) (own_idx P p1.toInt 32 (512) 513 (32 : Int32) pl37 rk36 rfl (by decide) (by decide) (by decide) I39) rfl (g := (mkF m 65 #[.val (.ref a1), .val (.int rk36), .val (.int pl37), .val (.int (32 : Int32)), .val (.int sm32), .val (.int ps34)] [(.int (pl37 + (32 : Int32))), (.ref b1)])) rfl rfl (hb hby d4_65) _ ?_
    refine XS.istore X40.here hx rfl (hb hby d4_66) rfl (l' := #[.val (.ref a1), .val (.int rk36), .val (.int pl37), .val (.int (32 : Int32)), .val (.int (g ((pl37 + (32 : Int32))).toNatClampNeg)), .val (.int ps34)]) rfl ?_
    exact kt
  obtain ⟨ps43, hps43⟩ : ∃ z, z = (((sm41 - rk36) - (1 : Int32)) >>> ((31 : Int32) &&& 31)) := ⟨_, rfl⟩
  have c44 : ∀ t, Steps p.tables e below (T40.setTop (mkF m 79 #[.val (.ref a1), .val (.int rk36), .val (.int pl37), .val (.int (32 : Int32)), .val (.int sm41), .val (.int ps43)] [])) t → Steps p.tables e below (T40.setTop (mkF m 68 #[.val (.ref a1), .val (.int rk36), .val (.int pl37), .val (.int (32 : Int32)), .val (.int sm41), .val (.int ps34)] [])) t := by
    intro t kt
    subst hps43
    show Steps p.tables e below (T40.setTop (mkF m 68 #[.val (.ref a1), .val (.int rk36), .val (.int pl37), .val (.int (32 : Int32)), .val (.int sm41), .val (.int ps34)] [])) _
    refine XS.iload X40.here hx rfl (hb hby d4_68) rfl ?_
    refine XS.iloadN X40.here hx rfl (hb hby d4_70) rfl ?_
    refine XS.isub X40.here hx rfl (hb hby d4_71) rfl ?_
    show Steps p.tables e below (T40.setTop (mkF m 72 #[.val (.ref a1), .val (.int rk36), .val (.int pl37), .val (.int (32 : Int32)), .val (.int sm41), .val (.int ps34)] [(.int (sm41 - rk36))])) _
    refine XS.iconst X40.here hx rfl (hb hby d4_72) ?_
    refine XS.isub X40.here hx rfl (hb hby d4_73) rfl ?_
    refine XS.bipush X40.here hx rfl (hb hby d4_74) ?_
    show Steps p.tables e below (T40.setTop (mkF m 76 #[.val (.ref a1), .val (.int rk36), .val (.int pl37), .val (.int (32 : Int32)), .val (.int sm41), .val (.int ps34)] [(.int (31 : Int32)), (.int ((sm41 - rk36) - (1 : Int32)))])) _
    refine XS.ishr X40.here hx rfl (hb hby d4_76) rfl ?_
    refine XS.istore X40.here hx rfl (hb hby d4_77) rfl (l' := #[.val (.ref a1), .val (.int rk36), .val (.int pl37), .val (.int (32 : Int32)), .val (.int sm41), .val (.int (((sm41 - rk36) - (1 : Int32)) >>> ((31 : Int32) &&& 31)))]) rfl ?_
    exact kt
  obtain ⟨rk45, hrk45⟩ : ∃ z, z = (rk36 - (sm41 &&& ps43)) := ⟨_, rfl⟩
  obtain ⟨pl46, hpl46⟩ : ∃ z, z = (pl37 + ((32 : Int32) &&& ps43)) := ⟨_, rfl⟩
  have c47 : ∀ t, Steps p.tables e below (T40.setTop (mkF m 54 #[.val (.ref a1), .val (.int rk45), .val (.int pl46), .val (.int (16 : Int32)), .val (.int sm41), .val (.int ps43)] [])) t → Steps p.tables e below (T40.setTop (mkF m 79 #[.val (.ref a1), .val (.int rk36), .val (.int pl37), .val (.int (32 : Int32)), .val (.int sm41), .val (.int ps43)] [])) t := by
    intro t kt
    subst hrk45
    subst hpl46
    show Steps p.tables e below (T40.setTop (mkF m 79 #[.val (.ref a1), .val (.int rk36), .val (.int pl37), .val (.int (32 : Int32)), .val (.int sm41), .val (.int ps43)] [])) _
    refine XS.iloadN X40.here hx rfl (hb hby d4_79) rfl ?_
    refine XS.iloadN X40.here hx rfl (hb hby d4_80) rfl ?_
    refine XS.iload X40.here hx rfl (hb hby d4_81) rfl ?_
    show Steps p.tables e below (T40.setTop (mkF m 83 #[.val (.ref a1), .val (.int rk36), .val (.int pl37), .val (.int (32 : Int32)), .val (.int sm41), .val (.int ps43)] [(.int ps43), (.int (32 : Int32)), (.int pl37)])) _
    refine XS.iand X40.here hx rfl (hb hby d4_83) rfl ?_
    refine XS.iadd X40.here hx rfl (hb hby d4_84) rfl ?_
    refine XS.istoreN X40.here hx rfl (hb hby d4_85) rfl (l' := #[.val (.ref a1), .val (.int rk36), .val (.int (pl37 + ((32 : Int32) &&& ps43))), .val (.int (32 : Int32)), .val (.int sm41), .val (.int ps43)]) rfl ?_
    show Steps p.tables e below (T40.setTop (mkF m 86 #[.val (.ref a1), .val (.int rk36), .val (.int (pl37 + ((32 : Int32) &&& ps43))), .val (.int (32 : Int32)), .val (.int sm41), .val (.int ps43)] [])) _
    refine XS.iloadN X40.here hx rfl (hb hby d4_86) rfl ?_
    refine XS.iload X40.here hx rfl (hb hby d4_87) rfl ?_
    refine XS.iload X40.here hx rfl (hb hby d4_89) rfl ?_
    show Steps p.tables e below (T40.setTop (mkF m 91 #[.val (.ref a1), .val (.int rk36), .val (.int (pl37 + ((32 : Int32) &&& ps43))), .val (.int (32 : Int32)), .val (.int sm41), .val (.int ps43)] [(.int ps43), (.int sm41), (.int rk36)])) _
    refine XS.iand X40.here hx rfl (hb hby d4_91) rfl ?_
    refine XS.isub X40.here hx rfl (hb hby d4_92) rfl ?_
    refine XS.istoreN X40.here hx rfl (hb hby d4_93) rfl (l' := #[.val (.ref a1), .val (.int (rk36 - (sm41 &&& ps43))), .val (.int (pl37 + ((32 : Int32) &&& ps43))), .val (.int (32 : Int32)), .val (.int sm41), .val (.int ps43)]) rfl ?_
    show Steps p.tables e below (T40.setTop (mkF m 94 #[.val (.ref a1), .val (.int (rk36 - (sm41 &&& ps43))), .val (.int (pl37 + ((32 : Int32) &&& ps43))), .val (.int (32 : Int32)), .val (.int sm41), .val (.int ps43)] [])) _
    refine XS.iloadN X40.here hx rfl (hb hby d4_94) rfl ?_
    refine XS.iconst X40.here hx rfl (hb hby d4_95) ?_
    refine XS.ishr X40.here hx rfl (hb hby d4_96) rfl ?_
    show Steps p.tables e below (T40.setTop (mkF m 97 #[.val (.ref a1), .val (.int (rk36 - (sm41 &&& ps43))), .val (.int (pl37 + ((32 : Int32) &&& ps43))), .val (.int (32 : Int32)), .val (.int sm41), .val (.int ps43)] [(.int (16 : Int32))])) _
    refine XS.istoreN X40.here hx rfl (hb hby d4_97) rfl (l' := #[.val (.ref a1), .val (.int (rk36 - (sm41 &&& ps43))), .val (.int (pl37 + ((32 : Int32) &&& ps43))), .val (.int (16 : Int32)), .val (.int sm41), .val (.int ps43)]) rfl ?_
    refine XS.goto X40.here hx rfl (pc0 := 98) (pc' := 54) rfl (hb hby d4_98) (by decide) (by decide) ?_
    exact kt
  have I48 : own_inv P p1.toInt 32 512 pl46 rk45 := by
    rw [hpl46, hrk45]
    exact own_step P p1.toInt 32 (512) (32 : Int32) pl37 rk36 g rfl (by decide) (by decide) (fun q u w => hG 5 (by decide) q u (by omega)) hm hlo hhi hr4 I39 sm41 ps43 hsm41 hps43
  obtain ⟨T49, X49, e49, st49⟩ := getF X40 hx hZ hown (host := "") (Or.inl (hw _ (List.mem_of_getElem? (i := 13) rfl))) Via.refl e40 F1 (g := (mkF m 59 #[.val (.ref a1), .val (.int rk45), .val (.int pl46), .val (.int (16 : Int32)), .val (.int sm41), .val (.int ps43)] [(.ref a1)])) rfl rfl (hb hby d4_59)
  obtain ⟨sm50, hsm50⟩ : ∃ z, z = (g ((pl46 + (16 : Int32))).toNatClampNeg) := ⟨_, rfl⟩
  have c51 : ∀ t, Steps p.tables e below (T49.setTop (mkF m 68 #[.val (.ref a1), .val (.int rk45), .val (.int pl46), .val (.int (16 : Int32)), .val (.int sm50), .val (.int ps43)] [])) t → Steps p.tables e below (T40.setTop (mkF m 54 #[.val (.ref a1), .val (.int rk45), .val (.int pl46), .val (.int (16 : Int32)), .val (.int sm41), .val (.int ps43)] [])) t := by
    intro t kt
    subst hsm50
    show Steps p.tables e below (T40.setTop (mkF m 54 #[.val (.ref a1), .val (.int rk45), .val (.int pl46), .val (.int (16 : Int32)), .val (.int sm41), .val (.int ps43)] [])) _
    refine XS.iloadN X40.here hx rfl (hb hby d4_54) rfl ?_
    refine XS.ifNo X40.here hx rfl (hb hby d4_55) rfl ((if0 _ _).trans (tlt (by decide : (0 : Int32) < (16 : Int32))).2.2.2) ?_
    refine XS.aloadN X40.here hx rfl (hb hby d4_58) rfl rfl ?_
    show Steps p.tables e below (T40.setTop (mkF m 59 #[.val (.ref a1), .val (.int rk45), .val (.int pl46), .val (.int (16 : Int32)), .val (.int sm41), .val (.int ps43)] [(.ref a1)])) _
    refine st49 _ ?_
    refine XS.iloadN X49.here hx rfl (hb hby d4_62) rfl ?_
    refine XS.iloadN X49.here hx rfl (hb hby d4_63) rfl ?_
    show Steps p.tables e below (T49.setTop (mkF m 64 #[.val (.ref a1), .val (.int rk45), .val (.int pl46), .val (.int (16 : Int32)), .val (.int sm41), .val (.int ps43)] [(.int (16 : Int32)), (.int pl46), (.ref b1)])) _
    refine XS.iadd X49.here hx rfl (hb hby d4_64) rfl ?_
    refine own_ldI X49 hx hZ e49 A1 (j := (pl46 + (16 : Int32))) (x := (g ((pl46 + (16 : Int32))).toNatClampNeg)) (own_idx P p1.toInt 16 (512) 513 (16 : Int32) pl46 rk45 rfl (by decide) (by decide) (by decide) I48) rfl (g := (mkF m 65 #[.val (.ref a1), .val (.int rk45), .val (.int pl46), .val (.int (16 : Int32)), .val (.int sm41), .val (.int ps43)] [(.int (pl46 + (16 : Int32))), (.ref b1)])) rfl rfl (hb hby d4_65) _ ?_
    refine XS.istore X49.here hx rfl (hb hby d4_66) rfl (l' := #[.val (.ref a1), .val (.int rk45), .val (.int pl46), .val (.int (16 : Int32)), .val (.int (g ((pl46 + (16 : Int32))).toNatClampNeg)), .val (.int ps43)]) rfl ?_
    exact kt
  obtain ⟨ps52, hps52⟩ : ∃ z, z = (((sm50 - rk45) - (1 : Int32)) >>> ((31 : Int32) &&& 31)) := ⟨_, rfl⟩
  have c53 : ∀ t, Steps p.tables e below (T49.setTop (mkF m 79 #[.val (.ref a1), .val (.int rk45), .val (.int pl46), .val (.int (16 : Int32)), .val (.int sm50), .val (.int ps52)] [])) t → Steps p.tables e below (T49.setTop (mkF m 68 #[.val (.ref a1), .val (.int rk45), .val (.int pl46), .val (.int (16 : Int32)), .val (.int sm50), .val (.int ps43)] [])) t := by
    intro t kt
    subst hps52
    show Steps p.tables e below (T49.setTop (mkF m 68 #[.val (.ref a1), .val (.int rk45), .val (.int pl46), .val (.int (16 : Int32)), .val (.int sm50), .val (.int ps43)] [])) _
    refine XS.iload X49.here hx rfl (hb hby d4_68) rfl ?_
    refine XS.iloadN X49.here hx rfl (hb hby d4_70) rfl ?_
    refine XS.isub X49.here hx rfl (hb hby d4_71) rfl ?_
    show Steps p.tables e below (T49.setTop (mkF m 72 #[.val (.ref a1), .val (.int rk45), .val (.int pl46), .val (.int (16 : Int32)), .val (.int sm50), .val (.int ps43)] [(.int (sm50 - rk45))])) _
    refine XS.iconst X49.here hx rfl (hb hby d4_72) ?_
    refine XS.isub X49.here hx rfl (hb hby d4_73) rfl ?_
    refine XS.bipush X49.here hx rfl (hb hby d4_74) ?_
    show Steps p.tables e below (T49.setTop (mkF m 76 #[.val (.ref a1), .val (.int rk45), .val (.int pl46), .val (.int (16 : Int32)), .val (.int sm50), .val (.int ps43)] [(.int (31 : Int32)), (.int ((sm50 - rk45) - (1 : Int32)))])) _
    refine XS.ishr X49.here hx rfl (hb hby d4_76) rfl ?_
    refine XS.istore X49.here hx rfl (hb hby d4_77) rfl (l' := #[.val (.ref a1), .val (.int rk45), .val (.int pl46), .val (.int (16 : Int32)), .val (.int sm50), .val (.int (((sm50 - rk45) - (1 : Int32)) >>> ((31 : Int32) &&& 31)))]) rfl ?_
    exact kt
  obtain ⟨rk54, hrk54⟩ : ∃ z, z = (rk45 - (sm50 &&& ps52)) := ⟨_, rfl⟩
  obtain ⟨pl55, hpl55⟩ : ∃ z, z = (pl46 + ((16 : Int32) &&& ps52)) := ⟨_, rfl⟩
  have c56 : ∀ t, Steps p.tables e below (T49.setTop (mkF m 54 #[.val (.ref a1), .val (.int rk54), .val (.int pl55), .val (.int (8 : Int32)), .val (.int sm50), .val (.int ps52)] [])) t → Steps p.tables e below (T49.setTop (mkF m 79 #[.val (.ref a1), .val (.int rk45), .val (.int pl46), .val (.int (16 : Int32)), .val (.int sm50), .val (.int ps52)] [])) t := by
    intro t kt
    subst hrk54
    subst hpl55
    show Steps p.tables e below (T49.setTop (mkF m 79 #[.val (.ref a1), .val (.int rk45), .val (.int pl46), .val (.int (16 : Int32)), .val (.int sm50), .val (.int ps52)] [])) _
    refine XS.iloadN X49.here hx rfl (hb hby d4_79) rfl ?_
    refine XS.iloadN X49.here hx rfl (hb hby d4_80) rfl ?_
    refine XS.iload X49.here hx rfl (hb hby d4_81) rfl ?_
    show Steps p.tables e below (T49.setTop (mkF m 83 #[.val (.ref a1), .val (.int rk45), .val (.int pl46), .val (.int (16 : Int32)), .val (.int sm50), .val (.int ps52)] [(.int ps52), (.int (16 : Int32)), (.int pl46)])) _
    refine XS.iand X49.here hx rfl (hb hby d4_83) rfl ?_
    refine XS.iadd X49.here hx rfl (hb hby d4_84) rfl ?_
    refine XS.istoreN X49.here hx rfl (hb hby d4_85) rfl (l' := #[.val (.ref a1), .val (.int rk45), .val (.int (pl46 + ((16 : Int32) &&& ps52))), .val (.int (16 : Int32)), .val (.int sm50), .val (.int ps52)]) rfl ?_
    show Steps p.tables e below (T49.setTop (mkF m 86 #[.val (.ref a1), .val (.int rk45), .val (.int (pl46 + ((16 : Int32) &&& ps52))), .val (.int (16 : Int32)), .val (.int sm50), .val (.int ps52)] [])) _
    refine XS.iloadN X49.here hx rfl (hb hby d4_86) rfl ?_
    refine XS.iload X49.here hx rfl (hb hby d4_87) rfl ?_
    refine XS.iload X49.here hx rfl (hb hby d4_89) rfl ?_
    show Steps p.tables e below (T49.setTop (mkF m 91 #[.val (.ref a1), .val (.int rk45), .val (.int (pl46 + ((16 : Int32) &&& ps52))), .val (.int (16 : Int32)), .val (.int sm50), .val (.int ps52)] [(.int ps52), (.int sm50), (.int rk45)])) _
    refine XS.iand X49.here hx rfl (hb hby d4_91) rfl ?_
    refine XS.isub X49.here hx rfl (hb hby d4_92) rfl ?_
    refine XS.istoreN X49.here hx rfl (hb hby d4_93) rfl (l' := #[.val (.ref a1), .val (.int (rk45 - (sm50 &&& ps52))), .val (.int (pl46 + ((16 : Int32) &&& ps52))), .val (.int (16 : Int32)), .val (.int sm50), .val (.int ps52)]) rfl ?_
    show Steps p.tables e below (T49.setTop (mkF m 94 #[.val (.ref a1), .val (.int (rk45 - (sm50 &&& ps52))), .val (.int (pl46 + ((16 : Int32) &&& ps52))), .val (.int (16 : Int32)), .val (.int sm50), .val (.int ps52)] [])) _
    refine XS.iloadN X49.here hx rfl (hb hby d4_94) rfl ?_
    refine XS.iconst X49.here hx rfl (hb hby d4_95) ?_
    refine XS.ishr X49.here hx rfl (hb hby d4_96) rfl ?_
    show Steps p.tables e below (T49.setTop (mkF m 97 #[.val (.ref a1), .val (.int (rk45 - (sm50 &&& ps52))), .val (.int (pl46 + ((16 : Int32) &&& ps52))), .val (.int (16 : Int32)), .val (.int sm50), .val (.int ps52)] [(.int (8 : Int32))])) _
    refine XS.istoreN X49.here hx rfl (hb hby d4_97) rfl (l' := #[.val (.ref a1), .val (.int (rk45 - (sm50 &&& ps52))), .val (.int (pl46 + ((16 : Int32) &&& ps52))), .val (.int (8 : Int32)), .val (.int sm50), .val (.int ps52)]) rfl ?_
    refine XS.goto X49.here hx rfl (pc0 := 98) (pc' := 54) rfl (hb hby d4_98) (by decide) (by decide) ?_
    exact kt
  have I57 : own_inv P p1.toInt 16 512 pl55 rk54 := by
    rw [hpl55, hrk54]
    exact own_step P p1.toInt 16 (512) (16 : Int32) pl46 rk45 g rfl (by decide) (by decide) (fun q u w => hG 4 (by decide) q u (by omega)) hm hlo hhi hr4 I48 sm50 ps52 hsm50 hps52
  obtain ⟨T58, X58, e58, st58⟩ := getF X49 hx hZ hown (host := "") (Or.inl (hw _ (List.mem_of_getElem? (i := 13) rfl))) Via.refl e49 F1 (g := (mkF m 59 #[.val (.ref a1), .val (.int rk54), .val (.int pl55), .val (.int (8 : Int32)), .val (.int sm50), .val (.int ps52)] [(.ref a1)])) rfl rfl (hb hby d4_59)
  obtain ⟨sm59, hsm59⟩ : ∃ z, z = (g ((pl55 + (8 : Int32))).toNatClampNeg) := ⟨_, rfl⟩
  have c60 : ∀ t, Steps p.tables e below (T58.setTop (mkF m 68 #[.val (.ref a1), .val (.int rk54), .val (.int pl55), .val (.int (8 : Int32)), .val (.int sm59), .val (.int ps52)] [])) t → Steps p.tables e below (T49.setTop (mkF m 54 #[.val (.ref a1), .val (.int rk54), .val (.int pl55), .val (.int (8 : Int32)), .val (.int sm50), .val (.int ps52)] [])) t := by
    intro t kt
    subst hsm59
    show Steps p.tables e below (T49.setTop (mkF m 54 #[.val (.ref a1), .val (.int rk54), .val (.int pl55), .val (.int (8 : Int32)), .val (.int sm50), .val (.int ps52)] [])) _
    refine XS.iloadN X49.here hx rfl (hb hby d4_54) rfl ?_
    refine XS.ifNo X49.here hx rfl (hb hby d4_55) rfl ((if0 _ _).trans (tlt (by decide : (0 : Int32) < (8 : Int32))).2.2.2) ?_
    refine XS.aloadN X49.here hx rfl (hb hby d4_58) rfl rfl ?_
    show Steps p.tables e below (T49.setTop (mkF m 59 #[.val (.ref a1), .val (.int rk54), .val (.int pl55), .val (.int (8 : Int32)), .val (.int sm50), .val (.int ps52)] [(.ref a1)])) _
    refine st58 _ ?_
    refine XS.iloadN X58.here hx rfl (hb hby d4_62) rfl ?_
    refine XS.iloadN X58.here hx rfl (hb hby d4_63) rfl ?_
    show Steps p.tables e below (T58.setTop (mkF m 64 #[.val (.ref a1), .val (.int rk54), .val (.int pl55), .val (.int (8 : Int32)), .val (.int sm50), .val (.int ps52)] [(.int (8 : Int32)), (.int pl55), (.ref b1)])) _
    refine XS.iadd X58.here hx rfl (hb hby d4_64) rfl ?_
    refine own_ldI X58 hx hZ e58 A1 (j := (pl55 + (8 : Int32))) (x := (g ((pl55 + (8 : Int32))).toNatClampNeg)) (own_idx P p1.toInt 8 (512) 513 (8 : Int32) pl55 rk54 rfl (by decide) (by decide) (by decide) I57) rfl (g := (mkF m 65 #[.val (.ref a1), .val (.int rk54), .val (.int pl55), .val (.int (8 : Int32)), .val (.int sm50), .val (.int ps52)] [(.int (pl55 + (8 : Int32))), (.ref b1)])) rfl rfl (hb hby d4_65) _ ?_
    refine XS.istore X58.here hx rfl (hb hby d4_66) rfl (l' := #[.val (.ref a1), .val (.int rk54), .val (.int pl55), .val (.int (8 : Int32)), .val (.int (g ((pl55 + (8 : Int32))).toNatClampNeg)), .val (.int ps52)]) rfl ?_
    exact kt
  obtain ⟨ps61, hps61⟩ : ∃ z, z = (((sm59 - rk54) - (1 : Int32)) >>> ((31 : Int32) &&& 31)) := ⟨_, rfl⟩
  have c62 : ∀ t, Steps p.tables e below (T58.setTop (mkF m 79 #[.val (.ref a1), .val (.int rk54), .val (.int pl55), .val (.int (8 : Int32)), .val (.int sm59), .val (.int ps61)] [])) t → Steps p.tables e below (T58.setTop (mkF m 68 #[.val (.ref a1), .val (.int rk54), .val (.int pl55), .val (.int (8 : Int32)), .val (.int sm59), .val (.int ps52)] [])) t := by
    intro t kt
    subst hps61
    show Steps p.tables e below (T58.setTop (mkF m 68 #[.val (.ref a1), .val (.int rk54), .val (.int pl55), .val (.int (8 : Int32)), .val (.int sm59), .val (.int ps52)] [])) _
    refine XS.iload X58.here hx rfl (hb hby d4_68) rfl ?_
    refine XS.iloadN X58.here hx rfl (hb hby d4_70) rfl ?_
    refine XS.isub X58.here hx rfl (hb hby d4_71) rfl ?_
    show Steps p.tables e below (T58.setTop (mkF m 72 #[.val (.ref a1), .val (.int rk54), .val (.int pl55), .val (.int (8 : Int32)), .val (.int sm59), .val (.int ps52)] [(.int (sm59 - rk54))])) _
    refine XS.iconst X58.here hx rfl (hb hby d4_72) ?_
    refine XS.isub X58.here hx rfl (hb hby d4_73) rfl ?_
    refine XS.bipush X58.here hx rfl (hb hby d4_74) ?_
    show Steps p.tables e below (T58.setTop (mkF m 76 #[.val (.ref a1), .val (.int rk54), .val (.int pl55), .val (.int (8 : Int32)), .val (.int sm59), .val (.int ps52)] [(.int (31 : Int32)), (.int ((sm59 - rk54) - (1 : Int32)))])) _
    refine XS.ishr X58.here hx rfl (hb hby d4_76) rfl ?_
    refine XS.istore X58.here hx rfl (hb hby d4_77) rfl (l' := #[.val (.ref a1), .val (.int rk54), .val (.int pl55), .val (.int (8 : Int32)), .val (.int sm59), .val (.int (((sm59 - rk54) - (1 : Int32)) >>> ((31 : Int32) &&& 31)))]) rfl ?_
    exact kt
  obtain ⟨rk63, hrk63⟩ : ∃ z, z = (rk54 - (sm59 &&& ps61)) := ⟨_, rfl⟩
  obtain ⟨pl64, hpl64⟩ : ∃ z, z = (pl55 + ((8 : Int32) &&& ps61)) := ⟨_, rfl⟩
  have c65 : ∀ t, Steps p.tables e below (T58.setTop (mkF m 54 #[.val (.ref a1), .val (.int rk63), .val (.int pl64), .val (.int (4 : Int32)), .val (.int sm59), .val (.int ps61)] [])) t → Steps p.tables e below (T58.setTop (mkF m 79 #[.val (.ref a1), .val (.int rk54), .val (.int pl55), .val (.int (8 : Int32)), .val (.int sm59), .val (.int ps61)] [])) t := by
    intro t kt
    subst hrk63
    subst hpl64
    show Steps p.tables e below (T58.setTop (mkF m 79 #[.val (.ref a1), .val (.int rk54), .val (.int pl55), .val (.int (8 : Int32)), .val (.int sm59), .val (.int ps61)] [])) _
    refine XS.iloadN X58.here hx rfl (hb hby d4_79) rfl ?_
    refine XS.iloadN X58.here hx rfl (hb hby d4_80) rfl ?_
    refine XS.iload X58.here hx rfl (hb hby d4_81) rfl ?_
    show Steps p.tables e below (T58.setTop (mkF m 83 #[.val (.ref a1), .val (.int rk54), .val (.int pl55), .val (.int (8 : Int32)), .val (.int sm59), .val (.int ps61)] [(.int ps61), (.int (8 : Int32)), (.int pl55)])) _
    refine XS.iand X58.here hx rfl (hb hby d4_83) rfl ?_
    refine XS.iadd X58.here hx rfl (hb hby d4_84) rfl ?_
    refine XS.istoreN X58.here hx rfl (hb hby d4_85) rfl (l' := #[.val (.ref a1), .val (.int rk54), .val (.int (pl55 + ((8 : Int32) &&& ps61))), .val (.int (8 : Int32)), .val (.int sm59), .val (.int ps61)]) rfl ?_
    show Steps p.tables e below (T58.setTop (mkF m 86 #[.val (.ref a1), .val (.int rk54), .val (.int (pl55 + ((8 : Int32) &&& ps61))), .val (.int (8 : Int32)), .val (.int sm59), .val (.int ps61)] [])) _
    refine XS.iloadN X58.here hx rfl (hb hby d4_86) rfl ?_
    refine XS.iload X58.here hx rfl (hb hby d4_87) rfl ?_
    refine XS.iload X58.here hx rfl (hb hby d4_89) rfl ?_
    show Steps p.tables e below (T58.setTop (mkF m 91 #[.val (.ref a1), .val (.int rk54), .val (.int (pl55 + ((8 : Int32) &&& ps61))), .val (.int (8 : Int32)), .val (.int sm59), .val (.int ps61)] [(.int ps61), (.int sm59), (.int rk54)])) _
    refine XS.iand X58.here hx rfl (hb hby d4_91) rfl ?_
    refine XS.isub X58.here hx rfl (hb hby d4_92) rfl ?_
    refine XS.istoreN X58.here hx rfl (hb hby d4_93) rfl (l' := #[.val (.ref a1), .val (.int (rk54 - (sm59 &&& ps61))), .val (.int (pl55 + ((8 : Int32) &&& ps61))), .val (.int (8 : Int32)), .val (.int sm59), .val (.int ps61)]) rfl ?_
    show Steps p.tables e below (T58.setTop (mkF m 94 #[.val (.ref a1), .val (.int (rk54 - (sm59 &&& ps61))), .val (.int (pl55 + ((8 : Int32) &&& ps61))), .val (.int (8 : Int32)), .val (.int sm59), .val (.int ps61)] [])) _
    refine XS.iloadN X58.here hx rfl (hb hby d4_94) rfl ?_
    refine XS.iconst X58.here hx rfl (hb hby d4_95) ?_
    refine XS.ishr X58.here hx rfl (hb hby d4_96) rfl ?_
    show Steps p.tables e below (T58.setTop (mkF m 97 #[.val (.ref a1), .val (.int (rk54 - (sm59 &&& ps61))), .val (.int (pl55 + ((8 : Int32) &&& ps61))), .val (.int (8 : Int32)), .val (.int sm59), .val (.int ps61)] [(.int (4 : Int32))])) _
    refine XS.istoreN X58.here hx rfl (hb hby d4_97) rfl (l' := #[.val (.ref a1), .val (.int (rk54 - (sm59 &&& ps61))), .val (.int (pl55 + ((8 : Int32) &&& ps61))), .val (.int (4 : Int32)), .val (.int sm59), .val (.int ps61)]) rfl ?_
    refine XS.goto X58.here hx rfl (pc0 := 98) (pc' := 54) rfl (hb hby d4_98) (by decide) (by decide) ?_
    exact kt
  have I66 : own_inv P p1.toInt 8 512 pl64 rk63 := by
    rw [hpl64, hrk63]
    exact own_step P p1.toInt 8 (512) (8 : Int32) pl55 rk54 g rfl (by decide) (by decide) (fun q u w => hG 3 (by decide) q u (by omega)) hm hlo hhi hr4 I57 sm59 ps61 hsm59 hps61
  obtain ⟨T67, X67, e67, st67⟩ := getF X58 hx hZ hown (host := "") (Or.inl (hw _ (List.mem_of_getElem? (i := 13) rfl))) Via.refl e58 F1 (g := (mkF m 59 #[.val (.ref a1), .val (.int rk63), .val (.int pl64), .val (.int (4 : Int32)), .val (.int sm59), .val (.int ps61)] [(.ref a1)])) rfl rfl (hb hby d4_59)
  obtain ⟨sm68, hsm68⟩ : ∃ z, z = (g ((pl64 + (4 : Int32))).toNatClampNeg) := ⟨_, rfl⟩
  have c69 : ∀ t, Steps p.tables e below (T67.setTop (mkF m 68 #[.val (.ref a1), .val (.int rk63), .val (.int pl64), .val (.int (4 : Int32)), .val (.int sm68), .val (.int ps61)] [])) t → Steps p.tables e below (T58.setTop (mkF m 54 #[.val (.ref a1), .val (.int rk63), .val (.int pl64), .val (.int (4 : Int32)), .val (.int sm59), .val (.int ps61)] [])) t := by
    intro t kt
    subst hsm68
    show Steps p.tables e below (T58.setTop (mkF m 54 #[.val (.ref a1), .val (.int rk63), .val (.int pl64), .val (.int (4 : Int32)), .val (.int sm59), .val (.int ps61)] [])) _
    refine XS.iloadN X58.here hx rfl (hb hby d4_54) rfl ?_
    refine XS.ifNo X58.here hx rfl (hb hby d4_55) rfl ((if0 _ _).trans (tlt (by decide : (0 : Int32) < (4 : Int32))).2.2.2) ?_
    refine XS.aloadN X58.here hx rfl (hb hby d4_58) rfl rfl ?_
    show Steps p.tables e below (T58.setTop (mkF m 59 #[.val (.ref a1), .val (.int rk63), .val (.int pl64), .val (.int (4 : Int32)), .val (.int sm59), .val (.int ps61)] [(.ref a1)])) _
    refine st67 _ ?_
    refine XS.iloadN X67.here hx rfl (hb hby d4_62) rfl ?_
    refine XS.iloadN X67.here hx rfl (hb hby d4_63) rfl ?_
    show Steps p.tables e below (T67.setTop (mkF m 64 #[.val (.ref a1), .val (.int rk63), .val (.int pl64), .val (.int (4 : Int32)), .val (.int sm59), .val (.int ps61)] [(.int (4 : Int32)), (.int pl64), (.ref b1)])) _
    refine XS.iadd X67.here hx rfl (hb hby d4_64) rfl ?_
    refine own_ldI X67 hx hZ e67 A1 (j := (pl64 + (4 : Int32))) (x := (g ((pl64 + (4 : Int32))).toNatClampNeg)) (own_idx P p1.toInt 4 (512) 513 (4 : Int32) pl64 rk63 rfl (by decide) (by decide) (by decide) I66) rfl (g := (mkF m 65 #[.val (.ref a1), .val (.int rk63), .val (.int pl64), .val (.int (4 : Int32)), .val (.int sm59), .val (.int ps61)] [(.int (pl64 + (4 : Int32))), (.ref b1)])) rfl rfl (hb hby d4_65) _ ?_
    refine XS.istore X67.here hx rfl (hb hby d4_66) rfl (l' := #[.val (.ref a1), .val (.int rk63), .val (.int pl64), .val (.int (4 : Int32)), .val (.int (g ((pl64 + (4 : Int32))).toNatClampNeg)), .val (.int ps61)]) rfl ?_
    exact kt
  obtain ⟨ps70, hps70⟩ : ∃ z, z = (((sm68 - rk63) - (1 : Int32)) >>> ((31 : Int32) &&& 31)) := ⟨_, rfl⟩
  have c71 : ∀ t, Steps p.tables e below (T67.setTop (mkF m 79 #[.val (.ref a1), .val (.int rk63), .val (.int pl64), .val (.int (4 : Int32)), .val (.int sm68), .val (.int ps70)] [])) t → Steps p.tables e below (T67.setTop (mkF m 68 #[.val (.ref a1), .val (.int rk63), .val (.int pl64), .val (.int (4 : Int32)), .val (.int sm68), .val (.int ps61)] [])) t := by
    intro t kt
    subst hps70
    show Steps p.tables e below (T67.setTop (mkF m 68 #[.val (.ref a1), .val (.int rk63), .val (.int pl64), .val (.int (4 : Int32)), .val (.int sm68), .val (.int ps61)] [])) _
    refine XS.iload X67.here hx rfl (hb hby d4_68) rfl ?_
    refine XS.iloadN X67.here hx rfl (hb hby d4_70) rfl ?_
    refine XS.isub X67.here hx rfl (hb hby d4_71) rfl ?_
    show Steps p.tables e below (T67.setTop (mkF m 72 #[.val (.ref a1), .val (.int rk63), .val (.int pl64), .val (.int (4 : Int32)), .val (.int sm68), .val (.int ps61)] [(.int (sm68 - rk63))])) _
    refine XS.iconst X67.here hx rfl (hb hby d4_72) ?_
    refine XS.isub X67.here hx rfl (hb hby d4_73) rfl ?_
    refine XS.bipush X67.here hx rfl (hb hby d4_74) ?_
    show Steps p.tables e below (T67.setTop (mkF m 76 #[.val (.ref a1), .val (.int rk63), .val (.int pl64), .val (.int (4 : Int32)), .val (.int sm68), .val (.int ps61)] [(.int (31 : Int32)), (.int ((sm68 - rk63) - (1 : Int32)))])) _
    refine XS.ishr X67.here hx rfl (hb hby d4_76) rfl ?_
    refine XS.istore X67.here hx rfl (hb hby d4_77) rfl (l' := #[.val (.ref a1), .val (.int rk63), .val (.int pl64), .val (.int (4 : Int32)), .val (.int sm68), .val (.int (((sm68 - rk63) - (1 : Int32)) >>> ((31 : Int32) &&& 31)))]) rfl ?_
    exact kt
  obtain ⟨rk72, hrk72⟩ : ∃ z, z = (rk63 - (sm68 &&& ps70)) := ⟨_, rfl⟩
  obtain ⟨pl73, hpl73⟩ : ∃ z, z = (pl64 + ((4 : Int32) &&& ps70)) := ⟨_, rfl⟩
  have c74 : ∀ t, Steps p.tables e below (T67.setTop (mkF m 54 #[.val (.ref a1), .val (.int rk72), .val (.int pl73), .val (.int (2 : Int32)), .val (.int sm68), .val (.int ps70)] [])) t → Steps p.tables e below (T67.setTop (mkF m 79 #[.val (.ref a1), .val (.int rk63), .val (.int pl64), .val (.int (4 : Int32)), .val (.int sm68), .val (.int ps70)] [])) t := by
    intro t kt
    subst hrk72
    subst hpl73
    show Steps p.tables e below (T67.setTop (mkF m 79 #[.val (.ref a1), .val (.int rk63), .val (.int pl64), .val (.int (4 : Int32)), .val (.int sm68), .val (.int ps70)] [])) _
    refine XS.iloadN X67.here hx rfl (hb hby d4_79) rfl ?_
    refine XS.iloadN X67.here hx rfl (hb hby d4_80) rfl ?_
    refine XS.iload X67.here hx rfl (hb hby d4_81) rfl ?_
    show Steps p.tables e below (T67.setTop (mkF m 83 #[.val (.ref a1), .val (.int rk63), .val (.int pl64), .val (.int (4 : Int32)), .val (.int sm68), .val (.int ps70)] [(.int ps70), (.int (4 : Int32)), (.int pl64)])) _
    refine XS.iand X67.here hx rfl (hb hby d4_83) rfl ?_
    refine XS.iadd X67.here hx rfl (hb hby d4_84) rfl ?_
    refine XS.istoreN X67.here hx rfl (hb hby d4_85) rfl (l' := #[.val (.ref a1), .val (.int rk63), .val (.int (pl64 + ((4 : Int32) &&& ps70))), .val (.int (4 : Int32)), .val (.int sm68), .val (.int ps70)]) rfl ?_
    show Steps p.tables e below (T67.setTop (mkF m 86 #[.val (.ref a1), .val (.int rk63), .val (.int (pl64 + ((4 : Int32) &&& ps70))), .val (.int (4 : Int32)), .val (.int sm68), .val (.int ps70)] [])) _
    refine XS.iloadN X67.here hx rfl (hb hby d4_86) rfl ?_
    refine XS.iload X67.here hx rfl (hb hby d4_87) rfl ?_
    refine XS.iload X67.here hx rfl (hb hby d4_89) rfl ?_
    show Steps p.tables e below (T67.setTop (mkF m 91 #[.val (.ref a1), .val (.int rk63), .val (.int (pl64 + ((4 : Int32) &&& ps70))), .val (.int (4 : Int32)), .val (.int sm68), .val (.int ps70)] [(.int ps70), (.int sm68), (.int rk63)])) _
    refine XS.iand X67.here hx rfl (hb hby d4_91) rfl ?_
    refine XS.isub X67.here hx rfl (hb hby d4_92) rfl ?_
    refine XS.istoreN X67.here hx rfl (hb hby d4_93) rfl (l' := #[.val (.ref a1), .val (.int (rk63 - (sm68 &&& ps70))), .val (.int (pl64 + ((4 : Int32) &&& ps70))), .val (.int (4 : Int32)), .val (.int sm68), .val (.int ps70)]) rfl ?_
    show Steps p.tables e below (T67.setTop (mkF m 94 #[.val (.ref a1), .val (.int (rk63 - (sm68 &&& ps70))), .val (.int (pl64 + ((4 : Int32) &&& ps70))), .val (.int (4 : Int32)), .val (.int sm68), .val (.int ps70)] [])) _
    refine XS.iloadN X67.here hx rfl (hb hby d4_94) rfl ?_
    refine XS.iconst X67.here hx rfl (hb hby d4_95) ?_
    refine XS.ishr X67.here hx rfl (hb hby d4_96) rfl ?_
    show Steps p.tables e below (T67.setTop (mkF m 97 #[.val (.ref a1), .val (.int (rk63 - (sm68 &&& ps70))), .val (.int (pl64 + ((4 : Int32) &&& ps70))), .val (.int (4 : Int32)), .val (.int sm68), .val (.int ps70)] [(.int (2 : Int32))])) _
    refine XS.istoreN X67.here hx rfl (hb hby d4_97) rfl (l' := #[.val (.ref a1), .val (.int (rk63 - (sm68 &&& ps70))), .val (.int (pl64 + ((4 : Int32) &&& ps70))), .val (.int (2 : Int32)), .val (.int sm68), .val (.int ps70)]) rfl ?_
    refine XS.goto X67.here hx rfl (pc0 := 98) (pc' := 54) rfl (hb hby d4_98) (by decide) (by decide) ?_
    exact kt
  have I75 : own_inv P p1.toInt 4 512 pl73 rk72 := by
    rw [hpl73, hrk72]
    exact own_step P p1.toInt 4 (512) (4 : Int32) pl64 rk63 g rfl (by decide) (by decide) (fun q u w => hG 2 (by decide) q u (by omega)) hm hlo hhi hr4 I66 sm68 ps70 hsm68 hps70
  obtain ⟨T76, X76, e76, st76⟩ := getF X67 hx hZ hown (host := "") (Or.inl (hw _ (List.mem_of_getElem? (i := 13) rfl))) Via.refl e67 F1 (g := (mkF m 59 #[.val (.ref a1), .val (.int rk72), .val (.int pl73), .val (.int (2 : Int32)), .val (.int sm68), .val (.int ps70)] [(.ref a1)])) rfl rfl (hb hby d4_59)
  obtain ⟨sm77, hsm77⟩ : ∃ z, z = (g ((pl73 + (2 : Int32))).toNatClampNeg) := ⟨_, rfl⟩
  have c78 : ∀ t, Steps p.tables e below (T76.setTop (mkF m 68 #[.val (.ref a1), .val (.int rk72), .val (.int pl73), .val (.int (2 : Int32)), .val (.int sm77), .val (.int ps70)] [])) t → Steps p.tables e below (T67.setTop (mkF m 54 #[.val (.ref a1), .val (.int rk72), .val (.int pl73), .val (.int (2 : Int32)), .val (.int sm68), .val (.int ps70)] [])) t := by
    intro t kt
    subst hsm77
    show Steps p.tables e below (T67.setTop (mkF m 54 #[.val (.ref a1), .val (.int rk72), .val (.int pl73), .val (.int (2 : Int32)), .val (.int sm68), .val (.int ps70)] [])) _
    refine XS.iloadN X67.here hx rfl (hb hby d4_54) rfl ?_
    refine XS.ifNo X67.here hx rfl (hb hby d4_55) rfl ((if0 _ _).trans (tlt (by decide : (0 : Int32) < (2 : Int32))).2.2.2) ?_
    refine XS.aloadN X67.here hx rfl (hb hby d4_58) rfl rfl ?_
    show Steps p.tables e below (T67.setTop (mkF m 59 #[.val (.ref a1), .val (.int rk72), .val (.int pl73), .val (.int (2 : Int32)), .val (.int sm68), .val (.int ps70)] [(.ref a1)])) _
    refine st76 _ ?_
    refine XS.iloadN X76.here hx rfl (hb hby d4_62) rfl ?_
    refine XS.iloadN X76.here hx rfl (hb hby d4_63) rfl ?_
    show Steps p.tables e below (T76.setTop (mkF m 64 #[.val (.ref a1), .val (.int rk72), .val (.int pl73), .val (.int (2 : Int32)), .val (.int sm68), .val (.int ps70)] [(.int (2 : Int32)), (.int pl73), (.ref b1)])) _
    refine XS.iadd X76.here hx rfl (hb hby d4_64) rfl ?_
    refine own_ldI X76 hx hZ e76 A1 (j := (pl73 + (2 : Int32))) (x := (g ((pl73 + (2 : Int32))).toNatClampNeg)) (own_idx P p1.toInt 2 (512) 513 (2 : Int32) pl73 rk72 rfl (by decide) (by decide) (by decide) I75) rfl (g := (mkF m 65 #[.val (.ref a1), .val (.int rk72), .val (.int pl73), .val (.int (2 : Int32)), .val (.int sm68), .val (.int ps70)] [(.int (pl73 + (2 : Int32))), (.ref b1)])) rfl rfl (hb hby d4_65) _ ?_
    refine XS.istore X76.here hx rfl (hb hby d4_66) rfl (l' := #[.val (.ref a1), .val (.int rk72), .val (.int pl73), .val (.int (2 : Int32)), .val (.int (g ((pl73 + (2 : Int32))).toNatClampNeg)), .val (.int ps70)]) rfl ?_
    exact kt
  obtain ⟨ps79, hps79⟩ : ∃ z, z = (((sm77 - rk72) - (1 : Int32)) >>> ((31 : Int32) &&& 31)) := ⟨_, rfl⟩
  have c80 : ∀ t, Steps p.tables e below (T76.setTop (mkF m 79 #[.val (.ref a1), .val (.int rk72), .val (.int pl73), .val (.int (2 : Int32)), .val (.int sm77), .val (.int ps79)] [])) t → Steps p.tables e below (T76.setTop (mkF m 68 #[.val (.ref a1), .val (.int rk72), .val (.int pl73), .val (.int (2 : Int32)), .val (.int sm77), .val (.int ps70)] [])) t := by
    intro t kt
    subst hps79
    show Steps p.tables e below (T76.setTop (mkF m 68 #[.val (.ref a1), .val (.int rk72), .val (.int pl73), .val (.int (2 : Int32)), .val (.int sm77), .val (.int ps70)] [])) _
    refine XS.iload X76.here hx rfl (hb hby d4_68) rfl ?_
    refine XS.iloadN X76.here hx rfl (hb hby d4_70) rfl ?_
    refine XS.isub X76.here hx rfl (hb hby d4_71) rfl ?_
    show Steps p.tables e below (T76.setTop (mkF m 72 #[.val (.ref a1), .val (.int rk72), .val (.int pl73), .val (.int (2 : Int32)), .val (.int sm77), .val (.int ps70)] [(.int (sm77 - rk72))])) _
    refine XS.iconst X76.here hx rfl (hb hby d4_72) ?_
    refine XS.isub X76.here hx rfl (hb hby d4_73) rfl ?_
    refine XS.bipush X76.here hx rfl (hb hby d4_74) ?_
    show Steps p.tables e below (T76.setTop (mkF m 76 #[.val (.ref a1), .val (.int rk72), .val (.int pl73), .val (.int (2 : Int32)), .val (.int sm77), .val (.int ps70)] [(.int (31 : Int32)), (.int ((sm77 - rk72) - (1 : Int32)))])) _
    refine XS.ishr X76.here hx rfl (hb hby d4_76) rfl ?_
    refine XS.istore X76.here hx rfl (hb hby d4_77) rfl (l' := #[.val (.ref a1), .val (.int rk72), .val (.int pl73), .val (.int (2 : Int32)), .val (.int sm77), .val (.int (((sm77 - rk72) - (1 : Int32)) >>> ((31 : Int32) &&& 31)))]) rfl ?_
    exact kt
  obtain ⟨rk81, hrk81⟩ : ∃ z, z = (rk72 - (sm77 &&& ps79)) := ⟨_, rfl⟩
  obtain ⟨pl82, hpl82⟩ : ∃ z, z = (pl73 + ((2 : Int32) &&& ps79)) := ⟨_, rfl⟩
  have c83 : ∀ t, Steps p.tables e below (T76.setTop (mkF m 54 #[.val (.ref a1), .val (.int rk81), .val (.int pl82), .val (.int (1 : Int32)), .val (.int sm77), .val (.int ps79)] [])) t → Steps p.tables e below (T76.setTop (mkF m 79 #[.val (.ref a1), .val (.int rk72), .val (.int pl73), .val (.int (2 : Int32)), .val (.int sm77), .val (.int ps79)] [])) t := by
    intro t kt
    subst hrk81
    subst hpl82
    show Steps p.tables e below (T76.setTop (mkF m 79 #[.val (.ref a1), .val (.int rk72), .val (.int pl73), .val (.int (2 : Int32)), .val (.int sm77), .val (.int ps79)] [])) _
    refine XS.iloadN X76.here hx rfl (hb hby d4_79) rfl ?_
    refine XS.iloadN X76.here hx rfl (hb hby d4_80) rfl ?_
    refine XS.iload X76.here hx rfl (hb hby d4_81) rfl ?_
    show Steps p.tables e below (T76.setTop (mkF m 83 #[.val (.ref a1), .val (.int rk72), .val (.int pl73), .val (.int (2 : Int32)), .val (.int sm77), .val (.int ps79)] [(.int ps79), (.int (2 : Int32)), (.int pl73)])) _
    refine XS.iand X76.here hx rfl (hb hby d4_83) rfl ?_
    refine XS.iadd X76.here hx rfl (hb hby d4_84) rfl ?_
    refine XS.istoreN X76.here hx rfl (hb hby d4_85) rfl (l' := #[.val (.ref a1), .val (.int rk72), .val (.int (pl73 + ((2 : Int32) &&& ps79))), .val (.int (2 : Int32)), .val (.int sm77), .val (.int ps79)]) rfl ?_
    show Steps p.tables e below (T76.setTop (mkF m 86 #[.val (.ref a1), .val (.int rk72), .val (.int (pl73 + ((2 : Int32) &&& ps79))), .val (.int (2 : Int32)), .val (.int sm77), .val (.int ps79)] [])) _
    refine XS.iloadN X76.here hx rfl (hb hby d4_86) rfl ?_
    refine XS.iload X76.here hx rfl (hb hby d4_87) rfl ?_
    refine XS.iload X76.here hx rfl (hb hby d4_89) rfl ?_
    show Steps p.tables e below (T76.setTop (mkF m 91 #[.val (.ref a1), .val (.int rk72), .val (.int (pl73 + ((2 : Int32) &&& ps79))), .val (.int (2 : Int32)), .val (.int sm77), .val (.int ps79)] [(.int ps79), (.int sm77), (.int rk72)])) _
    refine XS.iand X76.here hx rfl (hb hby d4_91) rfl ?_
    refine XS.isub X76.here hx rfl (hb hby d4_92) rfl ?_
    refine XS.istoreN X76.here hx rfl (hb hby d4_93) rfl (l' := #[.val (.ref a1), .val (.int (rk72 - (sm77 &&& ps79))), .val (.int (pl73 + ((2 : Int32) &&& ps79))), .val (.int (2 : Int32)), .val (.int sm77), .val (.int ps79)]) rfl ?_
    show Steps p.tables e below (T76.setTop (mkF m 94 #[.val (.ref a1), .val (.int (rk72 - (sm77 &&& ps79))), .val (.int (pl73 + ((2 : Int32) &&& ps79))), .val (.int (2 : Int32)), .val (.int sm77), .val (.int ps79)] [])) _
    refine XS.iloadN X76.here hx rfl (hb hby d4_94) rfl ?_
    refine XS.iconst X76.here hx rfl (hb hby d4_95) ?_
    refine XS.ishr X76.here hx rfl (hb hby d4_96) rfl ?_
    show Steps p.tables e below (T76.setTop (mkF m 97 #[.val (.ref a1), .val (.int (rk72 - (sm77 &&& ps79))), .val (.int (pl73 + ((2 : Int32) &&& ps79))), .val (.int (2 : Int32)), .val (.int sm77), .val (.int ps79)] [(.int (1 : Int32))])) _
    refine XS.istoreN X76.here hx rfl (hb hby d4_97) rfl (l' := #[.val (.ref a1), .val (.int (rk72 - (sm77 &&& ps79))), .val (.int (pl73 + ((2 : Int32) &&& ps79))), .val (.int (1 : Int32)), .val (.int sm77), .val (.int ps79)]) rfl ?_
    refine XS.goto X76.here hx rfl (pc0 := 98) (pc' := 54) rfl (hb hby d4_98) (by decide) (by decide) ?_
    exact kt
  have I84 : own_inv P p1.toInt 2 512 pl82 rk81 := by
    rw [hpl82, hrk81]
    exact own_step P p1.toInt 2 (512) (2 : Int32) pl73 rk72 g rfl (by decide) (by decide) (fun q u w => hG 1 (by decide) q u (by omega)) hm hlo hhi hr4 I75 sm77 ps79 hsm77 hps79
  obtain ⟨T85, X85, e85, st85⟩ := getF X76 hx hZ hown (host := "") (Or.inl (hw _ (List.mem_of_getElem? (i := 13) rfl))) Via.refl e76 F1 (g := (mkF m 59 #[.val (.ref a1), .val (.int rk81), .val (.int pl82), .val (.int (1 : Int32)), .val (.int sm77), .val (.int ps79)] [(.ref a1)])) rfl rfl (hb hby d4_59)
  obtain ⟨sm86, hsm86⟩ : ∃ z, z = (g ((pl82 + (1 : Int32))).toNatClampNeg) := ⟨_, rfl⟩
  have c87 : ∀ t, Steps p.tables e below (T85.setTop (mkF m 68 #[.val (.ref a1), .val (.int rk81), .val (.int pl82), .val (.int (1 : Int32)), .val (.int sm86), .val (.int ps79)] [])) t → Steps p.tables e below (T76.setTop (mkF m 54 #[.val (.ref a1), .val (.int rk81), .val (.int pl82), .val (.int (1 : Int32)), .val (.int sm77), .val (.int ps79)] [])) t := by
    intro t kt
    subst hsm86
    show Steps p.tables e below (T76.setTop (mkF m 54 #[.val (.ref a1), .val (.int rk81), .val (.int pl82), .val (.int (1 : Int32)), .val (.int sm77), .val (.int ps79)] [])) _
    refine XS.iloadN X76.here hx rfl (hb hby d4_54) rfl ?_
    refine XS.ifNo X76.here hx rfl (hb hby d4_55) rfl ((if0 _ _).trans (tlt (by decide : (0 : Int32) < (1 : Int32))).2.2.2) ?_
    refine XS.aloadN X76.here hx rfl (hb hby d4_58) rfl rfl ?_
    show Steps p.tables e below (T76.setTop (mkF m 59 #[.val (.ref a1), .val (.int rk81), .val (.int pl82), .val (.int (1 : Int32)), .val (.int sm77), .val (.int ps79)] [(.ref a1)])) _
    refine st85 _ ?_
    refine XS.iloadN X85.here hx rfl (hb hby d4_62) rfl ?_
    refine XS.iloadN X85.here hx rfl (hb hby d4_63) rfl ?_
    show Steps p.tables e below (T85.setTop (mkF m 64 #[.val (.ref a1), .val (.int rk81), .val (.int pl82), .val (.int (1 : Int32)), .val (.int sm77), .val (.int ps79)] [(.int (1 : Int32)), (.int pl82), (.ref b1)])) _
    refine XS.iadd X85.here hx rfl (hb hby d4_64) rfl ?_
    refine own_ldI X85 hx hZ e85 A1 (j := (pl82 + (1 : Int32))) (x := (g ((pl82 + (1 : Int32))).toNatClampNeg)) (own_idx P p1.toInt 1 (512) 513 (1 : Int32) pl82 rk81 rfl (by decide) (by decide) (by decide) I84) rfl (g := (mkF m 65 #[.val (.ref a1), .val (.int rk81), .val (.int pl82), .val (.int (1 : Int32)), .val (.int sm77), .val (.int ps79)] [(.int (pl82 + (1 : Int32))), (.ref b1)])) rfl rfl (hb hby d4_65) _ ?_
    refine XS.istore X85.here hx rfl (hb hby d4_66) rfl (l' := #[.val (.ref a1), .val (.int rk81), .val (.int pl82), .val (.int (1 : Int32)), .val (.int (g ((pl82 + (1 : Int32))).toNatClampNeg)), .val (.int ps79)]) rfl ?_
    exact kt
  obtain ⟨ps88, hps88⟩ : ∃ z, z = (((sm86 - rk81) - (1 : Int32)) >>> ((31 : Int32) &&& 31)) := ⟨_, rfl⟩
  have c89 : ∀ t, Steps p.tables e below (T85.setTop (mkF m 79 #[.val (.ref a1), .val (.int rk81), .val (.int pl82), .val (.int (1 : Int32)), .val (.int sm86), .val (.int ps88)] [])) t → Steps p.tables e below (T85.setTop (mkF m 68 #[.val (.ref a1), .val (.int rk81), .val (.int pl82), .val (.int (1 : Int32)), .val (.int sm86), .val (.int ps79)] [])) t := by
    intro t kt
    subst hps88
    show Steps p.tables e below (T85.setTop (mkF m 68 #[.val (.ref a1), .val (.int rk81), .val (.int pl82), .val (.int (1 : Int32)), .val (.int sm86), .val (.int ps79)] [])) _
    refine XS.iload X85.here hx rfl (hb hby d4_68) rfl ?_
    refine XS.iloadN X85.here hx rfl (hb hby d4_70) rfl ?_
    refine XS.isub X85.here hx rfl (hb hby d4_71) rfl ?_
    show Steps p.tables e below (T85.setTop (mkF m 72 #[.val (.ref a1), .val (.int rk81), .val (.int pl82), .val (.int (1 : Int32)), .val (.int sm86), .val (.int ps79)] [(.int (sm86 - rk81))])) _
    refine XS.iconst X85.here hx rfl (hb hby d4_72) ?_
    refine XS.isub X85.here hx rfl (hb hby d4_73) rfl ?_
    refine XS.bipush X85.here hx rfl (hb hby d4_74) ?_
    show Steps p.tables e below (T85.setTop (mkF m 76 #[.val (.ref a1), .val (.int rk81), .val (.int pl82), .val (.int (1 : Int32)), .val (.int sm86), .val (.int ps79)] [(.int (31 : Int32)), (.int ((sm86 - rk81) - (1 : Int32)))])) _
    refine XS.ishr X85.here hx rfl (hb hby d4_76) rfl ?_
    refine XS.istore X85.here hx rfl (hb hby d4_77) rfl (l' := #[.val (.ref a1), .val (.int rk81), .val (.int pl82), .val (.int (1 : Int32)), .val (.int sm86), .val (.int (((sm86 - rk81) - (1 : Int32)) >>> ((31 : Int32) &&& 31)))]) rfl ?_
    exact kt
  obtain ⟨rk90, hrk90⟩ : ∃ z, z = (rk81 - (sm86 &&& ps88)) := ⟨_, rfl⟩
  obtain ⟨pl91, hpl91⟩ : ∃ z, z = (pl82 + ((1 : Int32) &&& ps88)) := ⟨_, rfl⟩
  have c92 : ∀ t, Steps p.tables e below (T85.setTop (mkF m 54 #[.val (.ref a1), .val (.int rk90), .val (.int pl91), .val (.int (0 : Int32)), .val (.int sm86), .val (.int ps88)] [])) t → Steps p.tables e below (T85.setTop (mkF m 79 #[.val (.ref a1), .val (.int rk81), .val (.int pl82), .val (.int (1 : Int32)), .val (.int sm86), .val (.int ps88)] [])) t := by
    intro t kt
    subst hrk90
    subst hpl91
    show Steps p.tables e below (T85.setTop (mkF m 79 #[.val (.ref a1), .val (.int rk81), .val (.int pl82), .val (.int (1 : Int32)), .val (.int sm86), .val (.int ps88)] [])) _
    refine XS.iloadN X85.here hx rfl (hb hby d4_79) rfl ?_
    refine XS.iloadN X85.here hx rfl (hb hby d4_80) rfl ?_
    refine XS.iload X85.here hx rfl (hb hby d4_81) rfl ?_
    show Steps p.tables e below (T85.setTop (mkF m 83 #[.val (.ref a1), .val (.int rk81), .val (.int pl82), .val (.int (1 : Int32)), .val (.int sm86), .val (.int ps88)] [(.int ps88), (.int (1 : Int32)), (.int pl82)])) _
    refine XS.iand X85.here hx rfl (hb hby d4_83) rfl ?_
    refine XS.iadd X85.here hx rfl (hb hby d4_84) rfl ?_
    refine XS.istoreN X85.here hx rfl (hb hby d4_85) rfl (l' := #[.val (.ref a1), .val (.int rk81), .val (.int (pl82 + ((1 : Int32) &&& ps88))), .val (.int (1 : Int32)), .val (.int sm86), .val (.int ps88)]) rfl ?_
    show Steps p.tables e below (T85.setTop (mkF m 86 #[.val (.ref a1), .val (.int rk81), .val (.int (pl82 + ((1 : Int32) &&& ps88))), .val (.int (1 : Int32)), .val (.int sm86), .val (.int ps88)] [])) _
    refine XS.iloadN X85.here hx rfl (hb hby d4_86) rfl ?_
    refine XS.iload X85.here hx rfl (hb hby d4_87) rfl ?_
    refine XS.iload X85.here hx rfl (hb hby d4_89) rfl ?_
    show Steps p.tables e below (T85.setTop (mkF m 91 #[.val (.ref a1), .val (.int rk81), .val (.int (pl82 + ((1 : Int32) &&& ps88))), .val (.int (1 : Int32)), .val (.int sm86), .val (.int ps88)] [(.int ps88), (.int sm86), (.int rk81)])) _
    refine XS.iand X85.here hx rfl (hb hby d4_91) rfl ?_
    refine XS.isub X85.here hx rfl (hb hby d4_92) rfl ?_
    refine XS.istoreN X85.here hx rfl (hb hby d4_93) rfl (l' := #[.val (.ref a1), .val (.int (rk81 - (sm86 &&& ps88))), .val (.int (pl82 + ((1 : Int32) &&& ps88))), .val (.int (1 : Int32)), .val (.int sm86), .val (.int ps88)]) rfl ?_
    show Steps p.tables e below (T85.setTop (mkF m 94 #[.val (.ref a1), .val (.int (rk81 - (sm86 &&& ps88))), .val (.int (pl82 + ((1 : Int32) &&& ps88))), .val (.int (1 : Int32)), .val (.int sm86), .val (.int ps88)] [])) _
    refine XS.iloadN X85.here hx rfl (hb hby d4_94) rfl ?_
    refine XS.iconst X85.here hx rfl (hb hby d4_95) ?_
    refine XS.ishr X85.here hx rfl (hb hby d4_96) rfl ?_
    show Steps p.tables e below (T85.setTop (mkF m 97 #[.val (.ref a1), .val (.int (rk81 - (sm86 &&& ps88))), .val (.int (pl82 + ((1 : Int32) &&& ps88))), .val (.int (1 : Int32)), .val (.int sm86), .val (.int ps88)] [(.int (0 : Int32))])) _
    refine XS.istoreN X85.here hx rfl (hb hby d4_97) rfl (l' := #[.val (.ref a1), .val (.int (rk81 - (sm86 &&& ps88))), .val (.int (pl82 + ((1 : Int32) &&& ps88))), .val (.int (0 : Int32)), .val (.int sm86), .val (.int ps88)]) rfl ?_
    refine XS.goto X85.here hx rfl (pc0 := 98) (pc' := 54) rfl (hb hby d4_98) (by decide) (by decide) ?_
    exact kt
  have I93 : own_inv P p1.toInt 1 512 pl91 rk90 := by
    rw [hpl91, hrk90]
    exact own_step P p1.toInt 1 (512) (1 : Int32) pl82 rk81 g rfl (by decide) (by decide) (fun q u w => hG 0 (by decide) q u (by omega)) hm hlo hhi hr4 I84 sm86 ps88 hsm86 hps88
  obtain ⟨zr, hzr⟩ : ∃ z : Int64, z = (((pl91.toInt64) <<< ((32 : Int32) &&& 0x3f).toInt64) ||| (rk90.toInt64)) := ⟨_, rfl⟩
  obtain ⟨fs, hr, hrun, hended, hW, hsame⟩ := X85.leave (v := some (.long zr)) (fun h => by rw [Bd.returns] at h; cases h)
  refine ⟨_, _, pre0 _ (c5 _ (c7 _ (c10 _ (c15 _ (c17 _ (c20 _ (c24 _ (c26 _ (c29 _ (c33 _ (c35 _ (c38 _ (c42 _ (c44 _ (c47 _ (c51 _ (c53 _ (c56 _ (c60 _ (c62 _ (c65 _ (c69 _ (c71 _ (c74 _ (c78 _ (c80 _ (c83 _ (c87 _ (c89 _ (c92 _ (?_))))))))))))))))))))))))))))))), hrun, hended, _, _, rfl, ?_, ⟨_, rfl⟩, hW, hsame.mono (by decide) (by decide)⟩
  · show Steps p.tables e below (T85.setTop (mkF m 54 #[.val (.ref a1), .val (.int rk90), .val (.int pl91), .val (.int (0 : Int32)), .val (.int sm86), .val (.int ps88)] [])) _
    refine XS.iloadN X85.here hx rfl (hb hby d4_54) rfl ?_
    refine XS.ifYes X85.here hx rfl (pc0 := 55) (pc' := 101) rfl (hb hby d4_55) rfl ((if0 _ _).trans (flt (by decide : ¬ ((0 : Int32) < (0 : Int32)))).2.2.2) (by decide) (by decide) ?_
    refine XS.iloadN X85.here hx rfl (hb hby d4_101) rfl ?_
    show Steps p.tables e below (T85.setTop (mkF m 102 #[.val (.ref a1), .val (.int rk90), .val (.int pl91), .val (.int (0 : Int32)), .val (.int sm86), .val (.int ps88)] [(.int pl91)])) _
    refine XS.i2l X85.here hx rfl (hb hby d4_102) rfl ?_
    refine XS.bipush X85.here hx rfl (hb hby d4_103) ?_
    refine XS.lshl X85.here hx rfl (hb hby d4_105) rfl ?_
    show Steps p.tables e below (T85.setTop (mkF m 106 #[.val (.ref a1), .val (.int rk90), .val (.int pl91), .val (.int (0 : Int32)), .val (.int sm86), .val (.int ps88)] [(.long ((pl91.toInt64) <<< ((32 : Int32) &&& 0x3f).toInt64))])) _
    refine XS.iloadN X85.here hx rfl (hb hby d4_106) rfl ?_
    refine XS.i2l X85.here hx rfl (hb hby d4_107) rfl ?_
    refine XS.lor X85.here hx rfl (hb hby d4_108) rfl ?_
    show Steps p.tables e below (T85.setTop (mkF m 109 #[.val (.ref a1), .val (.int rk90), .val (.int pl91), .val (.int (0 : Int32)), .val (.int sm86), .val (.int ps88)] [(.long (((pl91.toInt64) <<< ((32 : Int32) &&& 0x3f).toInt64) ||| (rk90.toInt64)))])) _
    rw [← hzr]
    jvm_step X85.here [X85.here.top, hx, (hb hby d4_109), X85.method', Bd.returns, narrow]
    first | (intro acts; rw [hr _ acts rfl rfl rfl]) | rw [hr _ _ rfl rfl rfl]
    exact Steps.refl _
  · show QrmL_512 Z a1 b1 p1 g P h0 n0 _ T85.heap _
    rw [e85]; subst hzr
    exact ⟨_, _, _, rfl, N0, rfl, I93⟩
theorem ef_rmL_1024 (m : MethodId) (x0 : Addr) (x1 : Int32) : entryFrame m #[(.ref x0), (.int x1)] 6 = mkF m 0 #[.val (.ref x0), .val (.int x1), .unset, .unset, .unset, .unset] [] := by first | (simp [entryFrame, mkF, argsToLocals, Value.category]; done) | rfl
def QrmL_1024 (Z : State) (a1 b1 : Addr) (p1 : Int32) (g : Nat → Int32) (P : Int → Int) (h0 : Heap) (n0 : Nat) (v : Option Value) (h : Heap) (L : List Loc) : Prop := ∃ (pl rk : Int32) (M : Nat), v = some (.long (((pl.toInt64) <<< ((32 : Int32) &&& 0x3f).toInt64) ||| (rk.toInt64))) ∧ Fr n0 L ∧ h = h0 ∧ own_inv P p1.toInt 1 M pl rk
set_option maxRecDepth 65536 in
set_option maxHeartbeats 40000000 in
theorem rmL_1024 (l : Launch) (Z : State) (a0 : Array Value) (hw : ∀ d ∈ tables_1, d.before a0 Z = true) (ws : List Jvm.Cond) (a1 b1 : Addr) (p1 : Int32) (g : Nat → Int32) (P : Int → Int) (h0 : Heap) (n0 : Nat) (Z0 : n0 ≤ h0.size) (F1 : Fld Z h0 a1 "com/example/ebbtide/ebbtide/cluster/PlaceCounts" "sums" "[I" (.ref b1)) (F2 : Fld Z h0 a1 "com/example/ebbtide/ebbtide/cluster/PlaceCounts" "top" "I" (.int (1024 : Int32))) (A1 : AR Z h0 b1 .int 1025 (fun j => (.int (g j)))) (hm : ∀ x y, x ≤ y → P x ≤ P y) (hlo : ∀ x, 0 ≤ P x) (hhi : ∀ x, P x ≤ 4000) (hz : P 0 = 0) (hr0 : 0 ≤ p1.toInt) (hr4 : p1.toInt ≤ 4000) (hr : p1.toInt < P 1024) (hG : ∀ k : Nat, k < 11 → ∀ q : Nat, q % (2 * 2 ^ k) = 0 → q + 2 ^ k < 1025 → (g (q + 2 ^ k)).toInt = P ((q + 2 ^ k : Nat) : Int) - P q) :
    MetFree l (⟨"com/example/ebbtide/ebbtide/cluster/PlaceCounts", "locate", "(I)J"⟩ : MethodName) (head1 (Jvm.Cond.code (⟨"com/example/ebbtide/ebbtide/cluster/PlaceCounts", "locate", "(I)J"⟩ : MethodName) prog_77_method_5_code 6 (some .long) :: ws) ({ frames := 0, cells := 0, slots := 0, locals := 0 } : Room)) (fun a U => a = #[(.ref a1), (.int p1)] ∧ Z.Warmed39 U.vm ∧ U.heap = h0) (fun _ _ _ _ _ => True) (fun _ U o U' => ∃ v L, o = .returned v ∧ QrmL_1024 Z a1 b1 p1 g P h0 n0 v U'.heap L ∧ FrameEnd U o U' L ({ frames := 0, cells := 0, slots := 0, locals := 0 } : Room).cells ({ frames := 0, cells := 0, slots := 0, locals := 0 } : Room).slots) := by
  refine MetFree.of_bodySF (plainFor_of_name pn_com_example_ebbtide_ebbtide_cluster_PlaceCounts) hisR ?_
  intro p e s m args below meth c s₁ Bd hml0 hP hK
  obtain ⟨rfl, hZ, hh⟩ := hP
  have hx := Bd.exec
  have hby := Bd.bytes
  have hml : c.maxLocals = 6 := hml0
  have hown : s.vm.findClass "com/example/ebbtide/ebbtide/cluster/PlaceCounts" = some m.cls := findClass_of_methodNamed Bd.named
  have hnm := (name_of_methodNamed Bd.named Bd.method).1
  have X0 : Stand p l e ({ frames := 0, cells := 0, slots := 0, locals := 0 } : Room) s m #[(.ref a1), (.int p1)] below meth c s₁ [] 0 0 := Stand.of_body Bd
  have e0 : s₁.heap = h0 := by rw [← hh, Bd.state]; rfl
  have N0 := Fr.nil n0
  have pre0 : ∀ t, Steps p.tables e below (s₁.setTop (mkF m 0 #[.val (.ref a1), .val (.int p1), .unset, .unset, .unset, .unset] [])) t → Steps p.tables e below (s₁.setTop (entryFrame m #[(.ref a1), (.int p1)] 6)) t := fun t k => castTop (ef_rmL_1024 m a1 p1) k
  obtain ⟨T1, X1, e1, st1⟩ := getF X0 hx hZ hown (host := "") (Or.inl (hw _ (List.mem_of_getElem? (i := 10) rfl))) Via.refl e0 F2 (g := (mkF m 1 #[.val (.ref a1), .val (.int p1), .unset, .unset, .unset, .unset] [(.ref a1)])) rfl rfl (hb hby d4_1)
  obtain ⟨T2, X2, e2, st2⟩ := getF X1 hx hZ hown (host := "") (Or.inl (hw _ (List.mem_of_getElem? (i := 10) rfl))) Via.refl e1 F2 (g := (mkF m 50 #[.val (.ref a1), .val (.int p1), .val (.int (0 : Int32)), .unset, .unset, .unset] [(.ref a1)])) rfl rfl (hb hby d4_50)
  have I0 : own_inv P p1.toInt (2 * 1024) (2 * 1024) (0 : Int32) p1 := own_init P p1.toInt (2 * 1024) p1 hz hr0 (Int.lt_of_lt_of_le hr (hm _ _ (by decide))) rfl
  obtain ⟨T3, X3, e3, st3⟩ := getF X2 hx hZ hown (host := "") (Or.inl (hw _ (List.mem_of_getElem? (i := 13) rfl))) Via.refl e2 F1 (g := (mkF m 59 #[.val (.ref a1), .val (.int p1), .val (.int (0 : Int32)), .val (.int (1024 : Int32)), .unset, .unset] [(.ref a1)])) rfl rfl (hb hby d4_59)
  obtain ⟨sm4, hsm4⟩ : ∃ z, z = (g ((1024 : Int32)).toNatClampNeg) := ⟨_, rfl⟩
  have c5 : ∀ t, Steps p.tables e below (T3.setTop (mkF m 68 #[.val (.ref a1), .val (.int p1), .val (.int (0 : Int32)), .val (.int (1024 : Int32)), .val (.int sm4), .unset] [])) t → Steps p.tables e below (s₁.setTop (mkF m 0 #[.val (.ref a1), .val (.int p1), .unset, .unset, .unset, .unset] [])) t := by
    intro t kt
    subst hsm4
    show Steps p.tables e below (s₁.setTop (mkF m 0 #[.val (.ref a1), .val (.int p1), .unset, .unset, .unset, .unset] [])) _
    refine XS.aloadN X0.here hx rfl (hb hby d4_0) rfl rfl ?_
    show Steps p.tables e below (s₁.setTop (mkF m 1 #[.val (.ref a1), .val (.int p1), .unset, .unset, .unset, .unset] [(.ref a1)])) _
    refine st1 _ ?_
    refine XS.ifYes X1.here hx rfl (pc0 := 4) (pc' := 47) rfl (hb hby d4_4) rfl ((if0 _ _).trans (feq (by decide : ¬ ((1024 : Int32) = (0 : Int32)))).2) (by decide) (by decide) ?_
    refine XS.iconst X1.here hx rfl (hb hby d4_47) ?_
    show Steps p.tables e below (T1.setTop (mkF m 48 #[.val (.ref a1), .val (.int p1), .unset, .unset, .unset, .unset] [(.int (0 : Int32))])) _
    refine XS.istoreN X1.here hx rfl (hb hby d4_48) rfl (l' := #[.val (.ref a1), .val (.int p1), .val (.int (0 : Int32)), .unset, .unset, .unset]) rfl ?_
    refine XS.aloadN X1.here hx rfl (hb hby d4_49) rfl rfl ?_
    show Steps p.tables e below (T1.setTop (mkF m 50 #[.val (.ref a1), .val (.int p1), .val (.int (0 : Int32)), .unset, .unset, .unset] [(.ref a1)])) _
    refine st2 _ ?_
    refine XS.istoreN X2.here hx rfl (hb hby d4_53) rfl (l' := #[.val (.ref a1), .val (.int p1), .val (.int (0 : Int32)), .val (.int (1024 : Int32)), .unset, .unset]) rfl ?_
    refine XS.iloadN X2.here hx rfl (hb hby d4_54) rfl ?_
    show Steps p.tables e below (T2.setTop (mkF m 55 #[.val (.ref a1), .val (.int p1), .val (.int (0 : Int32)), .val (.int (1024 : Int32)), .unset, .unset] [(.int (1024 : Int32))])) _
    refine XS.ifNo X2.here hx rfl (hb hby d4_55) rfl ((if0 _ _).trans (tlt (by decide : (0 : Int32) < (1024 : Int32))).2.2.2) ?_
    refine XS.aloadN X2.here hx rfl (hb hby d4_58) rfl rfl ?_
    show Steps p.tables e below (T2.setTop (mkF m 59 #[.val (.ref a1), .val (.int p1), .val (.int (0 : Int32)), .val (.int (1024 : Int32)), .unset, .unset] [(.ref a1)])) _
    refine st3 _ ?_
    refine XS.iloadN X3.here hx rfl (hb hby d4_62) rfl ?_
    refine XS.iloadN X3.here hx rfl (hb hby d4_63) rfl ?_
    show Steps p.tables e below (T3.setTop (mkF m 64 #[.val (.ref a1), .val (.int p1), .val (.int (0 : Int32)), .val (.int (1024 : Int32)), .unset, .unset] [(.int (1024 : Int32)), (.int (0 : Int32)), (.ref b1)])) _
    refine XS.iadd X3.here hx rfl (hb hby d4_64) rfl ?_
    refine own_ldI X3 hx hZ e3 A1 (j := (1024 : Int32)) (x := (g ((1024 : Int32)).toNatClampNeg)) (own_idx P p1.toInt 1024 (2 * 1024) 1025 (1024 : Int32) (0 : Int32) p1 rfl (by decide) (by decide) (by decide) I0) rfl (g := (mkF m 65 #[.val (.ref a1), .val (.int p1), .val (.int (0 : Int32)), .val (.int (1024 : Int32)), .unset, .unset] [(.int (1024 : Int32)), (.ref b1)])) rfl rfl (hb hby d4_65) _ ?_
    refine XS.istore X3.here hx rfl (hb hby d4_66) rfl (l' := #[.val (.ref a1), .val (.int p1), .val (.int (0 : Int32)), .val (.int (1024 : Int32)), .val (.int (g ((1024 : Int32)).toNatClampNeg)), .unset]) rfl ?_
    exact kt
  obtain ⟨ps6, hps6⟩ : ∃ z, z = (((sm4 - p1) - (1 : Int32)) >>> ((31 : Int32) &&& 31)) := ⟨_, rfl⟩
  have c7 : ∀ t, Steps p.tables e below (T3.setTop (mkF m 79 #[.val (.ref a1), .val (.int p1), .val (.int (0 : Int32)), .val (.int (1024 : Int32)), .val (.int sm4), .val (.int ps6)] [])) t → Steps p.tables e below (T3.setTop (mkF m 68 #[.val (.ref a1), .val (.int p1), .val (.int (0 : Int32)), .val (.int (1024 : Int32)), .val (.int sm4), .unset] [])) t := by
    intro t kt
    subst hps6
    show Steps p.tables e below (T3.setTop (mkF m 68 #[.val (.ref a1), .val (.int p1), .val (.int (0 : Int32)), .val (.int (1024 : Int32)), .val (.int sm4), .unset] [])) _
    refine XS.iload X3.here hx rfl (hb hby d4_68) rfl ?_
    refine XS.iloadN X3.here hx rfl (hb hby d4_70) rfl ?_
    refine XS.isub X3.here hx rfl (hb hby d4_71) rfl ?_
    show Steps p.tables e below (T3.setTop (mkF m 72 #[.val (.ref a1), .val (.int p1), .val (.int (0 : Int32)), .val (.int (1024 : Int32)), .val (.int sm4), .unset] [(.int (sm4 - p1))])) _
    refine XS.iconst X3.here hx rfl (hb hby d4_72) ?_
    refine XS.isub X3.here hx rfl (hb hby d4_73) rfl ?_
    refine XS.bipush X3.here hx rfl (hb hby d4_74) ?_
    show Steps p.tables e below (T3.setTop (mkF m 76 #[.val (.ref a1), .val (.int p1), .val (.int (0 : Int32)), .val (.int (1024 : Int32)), .val (.int sm4), .unset] [(.int (31 : Int32)), (.int ((sm4 - p1) - (1 : Int32)))])) _
    refine XS.ishr X3.here hx rfl (hb hby d4_76) rfl ?_
    refine XS.istore X3.here hx rfl (hb hby d4_77) rfl (l' := #[.val (.ref a1), .val (.int p1), .val (.int (0 : Int32)), .val (.int (1024 : Int32)), .val (.int sm4), .val (.int (((sm4 - p1) - (1 : Int32)) >>> ((31 : Int32) &&& 31)))]) rfl ?_
    exact kt
  obtain ⟨rk8, hrk8⟩ : ∃ z, z = (p1 - (sm4 &&& ps6)) := ⟨_, rfl⟩
  obtain ⟨pl9, hpl9⟩ : ∃ z, z = ((0 : Int32) + ((1024 : Int32) &&& ps6)) := ⟨_, rfl⟩
  have c10 : ∀ t, Steps p.tables e below (T3.setTop (mkF m 54 #[.val (.ref a1), .val (.int rk8), .val (.int pl9), .val (.int (512 : Int32)), .val (.int sm4), .val (.int ps6)] [])) t → Steps p.tables e below (T3.setTop (mkF m 79 #[.val (.ref a1), .val (.int p1), .val (.int (0 : Int32)), .val (.int (1024 : Int32)), .val (.int sm4), .val (.int ps6)] [])) t := by
    intro t kt
    subst hrk8
    subst hpl9
    show Steps p.tables e below (T3.setTop (mkF m 79 #[.val (.ref a1), .val (.int p1), .val (.int (0 : Int32)), .val (.int (1024 : Int32)), .val (.int sm4), .val (.int ps6)] [])) _
    refine XS.iloadN X3.here hx rfl (hb hby d4_79) rfl ?_
    refine XS.iloadN X3.here hx rfl (hb hby d4_80) rfl ?_
    refine XS.iload X3.here hx rfl (hb hby d4_81) rfl ?_
    show Steps p.tables e below (T3.setTop (mkF m 83 #[.val (.ref a1), .val (.int p1), .val (.int (0 : Int32)), .val (.int (1024 : Int32)), .val (.int sm4), .val (.int ps6)] [(.int ps6), (.int (1024 : Int32)), (.int (0 : Int32))])) _
    refine XS.iand X3.here hx rfl (hb hby d4_83) rfl ?_
    refine XS.iadd X3.here hx rfl (hb hby d4_84) rfl ?_
    refine XS.istoreN X3.here hx rfl (hb hby d4_85) rfl (l' := #[.val (.ref a1), .val (.int p1), .val (.int ((0 : Int32) + ((1024 : Int32) &&& ps6))), .val (.int (1024 : Int32)), .val (.int sm4), .val (.int ps6)]) rfl ?_
    show Steps p.tables e below (T3.setTop (mkF m 86 #[.val (.ref a1), .val (.int p1), .val (.int ((0 : Int32) + ((1024 : Int32) &&& ps6))), .val (.int (1024 : Int32)), .val (.int sm4), .val (.int ps6)] [])) _
    refine XS.iloadN X3.here hx rfl (hb hby d4_86) rfl ?_
    refine XS.iload X3.here hx rfl (hb hby d4_87) rfl ?_
    refine XS.iload X3.here hx rfl (hb hby d4_89) rfl ?_
    show Steps p.tables e below (T3.setTop (mkF m 91 #[.val (.ref a1), .val (.int p1), .val (.int ((0 : Int32) + ((1024 : Int32) &&& ps6))), .val (.int (1024 : Int32)), .val (.int sm4), .val (.int ps6)] [(.int ps6), (.int sm4), (.int p1)])) _
    refine XS.iand X3.here hx rfl (hb hby d4_91) rfl ?_
    refine XS.isub X3.here hx rfl (hb hby d4_92) rfl ?_
    refine XS.istoreN X3.here hx rfl (hb hby d4_93) rfl (l' := #[.val (.ref a1), .val (.int (p1 - (sm4 &&& ps6))), .val (.int ((0 : Int32) + ((1024 : Int32) &&& ps6))), .val (.int (1024 : Int32)), .val (.int sm4), .val (.int ps6)]) rfl ?_
    show Steps p.tables e below (T3.setTop (mkF m 94 #[.val (.ref a1), .val (.int (p1 - (sm4 &&& ps6))), .val (.int ((0 : Int32) + ((1024 : Int32) &&& ps6))), .val (.int (1024 : Int32)), .val (.int sm4), .val (.int ps6)] [])) _
    refine XS.iloadN X3.here hx rfl (hb hby d4_94) rfl ?_
    refine XS.iconst X3.here hx rfl (hb hby d4_95) ?_
    refine XS.ishr X3.here hx rfl (hb hby d4_96) rfl ?_
    show Steps p.tables e below (T3.setTop (mkF m 97 #[.val (.ref a1), .val (.int (p1 - (sm4 &&& ps6))), .val (.int ((0 : Int32) + ((1024 : Int32) &&& ps6))), .val (.int (1024 : Int32)), .val (.int sm4), .val (.int ps6)] [(.int (512 : Int32))])) _
    refine XS.istoreN X3.here hx rfl (hb hby d4_97) rfl (l' := #[.val (.ref a1), .val (.int (p1 - (sm4 &&& ps6))), .val (.int ((0 : Int32) + ((1024 : Int32) &&& ps6))), .val (.int (512 : Int32)), .val (.int sm4), .val (.int ps6)]) rfl ?_
    refine XS.goto X3.here hx rfl (pc0 := 98) (pc' := 54) rfl (hb hby d4_98) (by decide) (by decide) ?_
    exact kt
  have I11 : own_inv P p1.toInt 1024 (2 * 1024) pl9 rk8 := by
    rw [hpl9, hrk8]
    exact own_step P p1.toInt 1024 (2 * 1024) (1024 : Int32) (0 : Int32) p1 g rfl (by decide) (by decide) (fun q u w => hG 10 (by decide) q u (by omega)) hm hlo hhi hr4 I0 sm4 ps6 hsm4 hps6
  have I12 : own_inv P p1.toInt 1024 1024 pl9 rk8 := own_narrow P p1.toInt 1024 _ _ (by decide) hr I11
  obtain ⟨T13, X13, e13, st13⟩ := getF X3 hx hZ hown (host := "") (Or.inl (hw _ (List.mem_of_getElem? (i := 13) rfl))) Via.refl e3 F1 (g := (mkF m 59 #[.val (.ref a1), .val (.int rk8), .val (.int pl9), .val (.int (512 : Int32)), .val (.int sm4), .val (.int ps6)] [(.ref a1)])) rfl rfl (hb hby d4_59)
  obtain ⟨sm14, hsm14⟩ : ∃ z, z = (g ((pl9 + (512 : Int32))).toNatClampNeg) := ⟨_, rfl⟩
  have c15 : ∀ t, Steps p.tables e below (T13.setTop (mkF m 68 #[.val (.ref a1), .val (.int rk8), .val (.int pl9), .val (.int (512 : Int32)), .val (.int sm14), .val (.int ps6)] [])) t → Steps p.tables e below (T3.setTop (mkF m 54 #[.val (.ref a1), .val (.int rk8), .val (.int pl9), .val (.int (512 : Int32)), .val (.int sm4), .val (.int ps6)] [])) t := by
    intro t kt
    subst hsm14
    show Steps p.tables e below (T3.setTop (mkF m 54 #[.val (.ref a1), .val (.int rk8), .val (.int pl9), .val (.int (512 : Int32)), .val (.int sm4), .val (.int ps6)] [])) _
    refine XS.iloadN X3.here hx rfl (hb hby d4_54) rfl ?_
    refine XS.ifNo X3.here hx rfl (hb hby d4_55) rfl ((if0 _ _).trans (tlt (by decide : (0 : Int32) < (512 : Int32))).2.2.2) ?_
    refine XS.aloadN X3.here hx rfl (hb hby d4_58) rfl rfl ?_
    show Steps p.tables e below (T3.setTop (mkF m 59 #[.val (.ref a1), .val (.int rk8), .val (.int pl9), .val (.int (512 : Int32)), .val (.int sm4), .val (.int ps6)] [(.ref a1)])) _
    refine st13 _ ?_
    refine XS.iloadN X13.here hx rfl (hb hby d4_62) rfl ?_
    refine XS.iloadN X13.here hx rfl (hb hby d4_63) rfl ?_
    show Steps p.tables e below (T13.setTop (mkF m 64 #[.val (.ref a1), .val (.int rk8), .val (.int pl9), .val (.int (512 : Int32)), .val (.int sm4), .val (.int ps6)] [(.int (512 : Int32)), (.int pl9), (.ref b1)])) _
    refine XS.iadd X13.here hx rfl (hb hby d4_64) rfl ?_
    refine own_ldI X13 hx hZ e13 A1 (j := (pl9 + (512 : Int32))) (x := (g ((pl9 + (512 : Int32))).toNatClampNeg)) (own_idx P p1.toInt 512 (1024) 1025 (512 : Int32) pl9 rk8 rfl (by decide) (by decide) (by decide) I12) rfl (g := (mkF m 65 #[.val (.ref a1), .val (.int rk8), .val (.int pl9), .val (.int (512 : Int32)), .val (.int sm4), .val (.int ps6)] [(.int (pl9 + (512 : Int32))), (.ref b1)])) rfl rfl (hb hby d4_65) _ ?_
    refine XS.istore X13.here hx rfl (hb hby d4_66) rfl (l' := #[.val (.ref a1), .val (.int rk8), .val (.int pl9), .val (.int (512 : Int32)), .val (.int (g ((pl9 + (512 : Int32))).toNatClampNeg)), .val (.int ps6)]) rfl ?_
    exact kt
  obtain ⟨ps16, hps16⟩ : ∃ z, z = (((sm14 - rk8) - (1 : Int32)) >>> ((31 : Int32) &&& 31)) := ⟨_, rfl⟩
  have c17 : ∀ t, Steps p.tables e below (T13.setTop (mkF m 79 #[.val (.ref a1), .val (.int rk8), .val (.int pl9), .val (.int (512 : Int32)), .val (.int sm14), .val (.int ps16)] [])) t → Steps p.tables e below (T13.setTop (mkF m 68 #[.val (.ref a1), .val (.int rk8), .val (.int pl9), .val (.int (512 : Int32)), .val (.int sm14), .val (.int ps6)] [])) t := by
    intro t kt
    subst hps16
    show Steps p.tables e below (T13.setTop (mkF m 68 #[.val (.ref a1), .val (.int rk8), .val (.int pl9), .val (.int (512 : Int32)), .val (.int sm14), .val (.int ps6)] [])) _
    refine XS.iload X13.here hx rfl (hb hby d4_68) rfl ?_
    refine XS.iloadN X13.here hx rfl (hb hby d4_70) rfl ?_
    refine XS.isub X13.here hx rfl (hb hby d4_71) rfl ?_
    show Steps p.tables e below (T13.setTop (mkF m 72 #[.val (.ref a1), .val (.int rk8), .val (.int pl9), .val (.int (512 : Int32)), .val (.int sm14), .val (.int ps6)] [(.int (sm14 - rk8))])) _
    refine XS.iconst X13.here hx rfl (hb hby d4_72) ?_
    refine XS.isub X13.here hx rfl (hb hby d4_73) rfl ?_
    refine XS.bipush X13.here hx rfl (hb hby d4_74) ?_
    show Steps p.tables e below (T13.setTop (mkF m 76 #[.val (.ref a1), .val (.int rk8), .val (.int pl9), .val (.int (512 : Int32)), .val (.int sm14), .val (.int ps6)] [(.int (31 : Int32)), (.int ((sm14 - rk8) - (1 : Int32)))])) _
    refine XS.ishr X13.here hx rfl (hb hby d4_76) rfl ?_
    refine XS.istore X13.here hx rfl (hb hby d4_77) rfl (l' := #[.val (.ref a1), .val (.int rk8), .val (.int pl9), .val (.int (512 : Int32)), .val (.int sm14), .val (.int (((sm14 - rk8) - (1 : Int32)) >>> ((31 : Int32) &&& 31)))]) rfl ?_
    exact kt
  obtain ⟨rk18, hrk18⟩ : ∃ z, z = (rk8 - (sm14 &&& ps16)) := ⟨_, rfl⟩
  obtain ⟨pl19, hpl19⟩ : ∃ z, z = (pl9 + ((512 : Int32) &&& ps16)) := ⟨_, rfl⟩
  have c20 : ∀ t, Steps p.tables e below (T13.setTop (mkF m 54 #[.val (.ref a1), .val (.int rk18), .val (.int pl19), .val (.int (256 : Int32)), .val (.int sm14), .val (.int ps16)] [])) t → Steps p.tables e below (T13.setTop (mkF m 79 #[.val (.ref a1), .val (.int rk8), .val (.int pl9), .val (.int (512 : Int32)), .val (.int sm14), .val (.int ps16)] [])) t := by
    intro t kt
    subst hrk18
    subst hpl19
    show Steps p.tables e below (T13.setTop (mkF m 79 #[.val (.ref a1), .val (.int rk8), .val (.int pl9), .val (.int (512 : Int32)), .val (.int sm14), .val (.int ps16)] [])) _
    refine XS.iloadN X13.here hx rfl (hb hby d4_79) rfl ?_
    refine XS.iloadN X13.here hx rfl (hb hby d4_80) rfl ?_
    refine XS.iload X13.here hx rfl (hb hby d4_81) rfl ?_
    show Steps p.tables e below (T13.setTop (mkF m 83 #[.val (.ref a1), .val (.int rk8), .val (.int pl9), .val (.int (512 : Int32)), .val (.int sm14), .val (.int ps16)] [(.int ps16), (.int (512 : Int32)), (.int pl9)])) _
    refine XS.iand X13.here hx rfl (hb hby d4_83) rfl ?_
    refine XS.iadd X13.here hx rfl (hb hby d4_84) rfl ?_
    refine XS.istoreN X13.here hx rfl (hb hby d4_85) rfl (l' := #[.val (.ref a1), .val (.int rk8), .val (.int (pl9 + ((512 : Int32) &&& ps16))), .val (.int (512 : Int32)), .val (.int sm14), .val (.int ps16)]) rfl ?_
    show Steps p.tables e below (T13.setTop (mkF m 86 #[.val (.ref a1), .val (.int rk8), .val (.int (pl9 + ((512 : Int32) &&& ps16))), .val (.int (512 : Int32)), .val (.int sm14), .val (.int ps16)] [])) _
    refine XS.iloadN X13.here hx rfl (hb hby d4_86) rfl ?_
    refine XS.iload X13.here hx rfl (hb hby d4_87) rfl ?_
    refine XS.iload X13.here hx rfl (hb hby d4_89) rfl ?_
    show Steps p.tables e below (T13.setTop (mkF m 91 #[.val (.ref a1), .val (.int rk8), .val (.int (pl9 + ((512 : Int32) &&& ps16))), .val (.int (512 : Int32)), .val (.int sm14), .val (.int ps16)] [(.int ps16), (.int sm14), (.int rk8)])) _
    refine XS.iand X13.here hx rfl (hb hby d4_91) rfl ?_
    refine XS.isub X13.here hx rfl (hb hby d4_92) rfl ?_
    refine XS.istoreN X13.here hx rfl (hb hby d4_93) rfl (l' := #[.val (.ref a1), .val (.int (rk8 - (sm14 &&& ps16))), .val (.int (pl9 + ((512 : Int32) &&& ps16))), .val (.int (512 : Int32)), .val (.int sm14), .val (.int ps16)]) rfl ?_
    show Steps p.tables e below (T13.setTop (mkF m 94 #[.val (.ref a1), .val (.int (rk8 - (sm14 &&& ps16))), .val (.int (pl9 + ((512 : Int32) &&& ps16))), .val (.int (512 : Int32)), .val (.int sm14), .val (.int ps16)] [])) _
    refine XS.iloadN X13.here hx rfl (hb hby d4_94) rfl ?_
    refine XS.iconst X13.here hx rfl (hb hby d4_95) ?_
    refine XS.ishr X13.here hx rfl (hb hby d4_96) rfl ?_
    show Steps p.tables e below (T13.setTop (mkF m 97 #[.val (.ref a1), .val (.int (rk8 - (sm14 &&& ps16))), .val (.int (pl9 + ((512 : Int32) &&& ps16))), .val (.int (512 : Int32)), .val (.int sm14), .val (.int ps16)] [(.int (256 : Int32))])) _
    refine XS.istoreN X13.here hx rfl (hb hby d4_97) rfl (l' := #[.val (.ref a1), .val (.int (rk8 - (sm14 &&& ps16))), .val (.int (pl9 + ((512 : Int32) &&& ps16))), .val (.int (256 : Int32)), .val (.int sm14), .val (.int ps16)]) rfl ?_
    refine XS.goto X13.here hx rfl (pc0 := 98) (pc' := 54) rfl (hb hby d4_98) (by decide) (by decide) ?_
    exact kt
  have I21 : own_inv P p1.toInt 512 1024 pl19 rk18 := by
    rw [hpl19, hrk18]
    exact own_step P p1.toInt 512 (1024) (512 : Int32) pl9 rk8 g rfl (by decide) (by decide) (fun q u w => hG 9 (by decide) q u (by omega)) hm hlo hhi hr4 I12 sm14 ps16 hsm14 hps16
  obtain ⟨T22, X22, e22, st22⟩ := getF X13 hx hZ hown (host := "") (Or.inl (hw _ (List.mem_of_getElem? (i := 13) rfl))) Via.refl e13 F1 (g := (mkF m 59 #[.val (.ref a1), .val (.int rk18), .val (.int pl19), .val (.int (256 : Int32)), .val (.int sm14), .val (.int ps16)] [(.ref a1)])) rfl rfl (hb hby d4_59)
  obtain ⟨sm23, hsm23⟩ : ∃ z, z = (g ((pl19 + (256 : Int32))).toNatClampNeg) := ⟨_, rfl⟩
  have c24 : ∀ t, Steps p.tables e below (T22.setTop (mkF m 68 #[.val (.ref a1), .val (.int rk18), .val (.int pl19), .val (.int (256 : Int32)), .val (.int sm23), .val (.int ps16)] [])) t → Steps p.tables e below (T13.setTop (mkF m 54 #[.val (.ref a1), .val (.int rk18), .val (.int pl19), .val (.int (256 : Int32)), .val (.int sm14), .val (.int ps16)] [])) t := by
    intro t kt
    subst hsm23
    show Steps p.tables e below (T13.setTop (mkF m 54 #[.val (.ref a1), .val (.int rk18), .val (.int pl19), .val (.int (256 : Int32)), .val (.int sm14), .val (.int ps16)] [])) _
    refine XS.iloadN X13.here hx rfl (hb hby d4_54) rfl ?_
    refine XS.ifNo X13.here hx rfl (hb hby d4_55) rfl ((if0 _ _).trans (tlt (by decide : (0 : Int32) < (256 : Int32))).2.2.2) ?_
    refine XS.aloadN X13.here hx rfl (hb hby d4_58) rfl rfl ?_
    show Steps p.tables e below (T13.setTop (mkF m 59 #[.val (.ref a1), .val (.int rk18), .val (.int pl19), .val (.int (256 : Int32)), .val (.int sm14), .val (.int ps16)] [(.ref a1)])) _
    refine st22 _ ?_
    refine XS.iloadN X22.here hx rfl (hb hby d4_62) rfl ?_
    refine XS.iloadN X22.here hx rfl (hb hby d4_63) rfl ?_
    show Steps p.tables e below (T22.setTop (mkF m 64 #[.val (.ref a1), .val (.int rk18), .val (.int pl19), .val (.int (256 : Int32)), .val (.int sm14), .val (.int ps16)] [(.int (256 : Int32)), (.int pl19), (.ref b1)])) _
    refine XS.iadd X22.here hx rfl (hb hby d4_64) rfl ?_
    refine own_ldI X22 hx hZ e22 A1 (j := (pl19 + (256 : Int32))) (x := (g ((pl19 + (256 : Int32))).toNatClampNeg)) (own_idx P p1.toInt 256 (1024) 1025 (256 : Int32) pl19 rk18 rfl (by decide) (by decide) (by decide) I21) rfl (g := (mkF m 65 #[.val (.ref a1), .val (.int rk18), .val (.int pl19), .val (.int (256 : Int32)), .val (.int sm14), .val (.int ps16)] [(.int (pl19 + (256 : Int32))), (.ref b1)])) rfl rfl (hb hby d4_65) _ ?_
    refine XS.istore X22.here hx rfl (hb hby d4_66) rfl (l' := #[.val (.ref a1), .val (.int rk18), .val (.int pl19), .val (.int (256 : Int32)), .val (.int (g ((pl19 + (256 : Int32))).toNatClampNeg)), .val (.int ps16)]) rfl ?_
    exact kt
  obtain ⟨ps25, hps25⟩ : ∃ z, z = (((sm23 - rk18) - (1 : Int32)) >>> ((31 : Int32) &&& 31)) := ⟨_, rfl⟩
  have c26 : ∀ t, Steps p.tables e below (T22.setTop (mkF m 79 #[.val (.ref a1), .val (.int rk18), .val (.int pl19), .val (.int (256 : Int32)), .val (.int sm23), .val (.int ps25)] [])) t → Steps p.tables e below (T22.setTop (mkF m 68 #[.val (.ref a1), .val (.int rk18), .val (.int pl19), .val (.int (256 : Int32)), .val (.int sm23), .val (.int ps16)] [])) t := by
    intro t kt
    subst hps25
    show Steps p.tables e below (T22.setTop (mkF m 68 #[.val (.ref a1), .val (.int rk18), .val (.int pl19), .val (.int (256 : Int32)), .val (.int sm23), .val (.int ps16)] [])) _
    refine XS.iload X22.here hx rfl (hb hby d4_68) rfl ?_
    refine XS.iloadN X22.here hx rfl (hb hby d4_70) rfl ?_
    refine XS.isub X22.here hx rfl (hb hby d4_71) rfl ?_
    show Steps p.tables e below (T22.setTop (mkF m 72 #[.val (.ref a1), .val (.int rk18), .val (.int pl19), .val (.int (256 : Int32)), .val (.int sm23), .val (.int ps16)] [(.int (sm23 - rk18))])) _
    refine XS.iconst X22.here hx rfl (hb hby d4_72) ?_
    refine XS.isub X22.here hx rfl (hb hby d4_73) rfl ?_
    refine XS.bipush X22.here hx rfl (hb hby d4_74) ?_
    show Steps p.tables e below (T22.setTop (mkF m 76 #[.val (.ref a1), .val (.int rk18), .val (.int pl19), .val (.int (256 : Int32)), .val (.int sm23), .val (.int ps16)] [(.int (31 : Int32)), (.int ((sm23 - rk18) - (1 : Int32)))])) _
    refine XS.ishr X22.here hx rfl (hb hby d4_76) rfl ?_
    refine XS.istore X22.here hx rfl (hb hby d4_77) rfl (l' := #[.val (.ref a1), .val (.int rk18), .val (.int pl19), .val (.int (256 : Int32)), .val (.int sm23), .val (.int (((sm23 - rk18) - (1 : Int32)) >>> ((31 : Int32) &&& 31)))]) rfl ?_
    exact kt
  obtain ⟨rk27, hrk27⟩ : ∃ z, z = (rk18 - (sm23 &&& ps25)) := ⟨_, rfl⟩
  obtain ⟨pl28, hpl28⟩ : ∃ z, z = (pl19 + ((256 : Int32) &&& ps25)) := ⟨_, rfl⟩
  have c29 : ∀ t, Steps p.tables e below (T22.setTop (mkF m 54 #[.val (.ref a1), .val (.int rk27), .val (.int pl28), .val (.int (128 : Int32)), .val (.int sm23), .val (.int ps25)] [])) t → Steps p.tables e below (T22.setTop (mkF m 79 #[.val (.ref a1), .val (.int rk18), .val (.int pl19), .val (.int (256 : Int32)), .val (.int sm23), .val (.int ps25)] [])) t := by
    intro t kt
    subst hrk27
    subst hpl28
    show Steps p.tables e below (T22.setTop (mkF m 79 #[.val (.ref a1), .val (.int rk18), .val (.int pl19), .val (.int (256 : Int32)), .val (.int sm23), .val (.int ps25)] [])) _
    refine XS.iloadN X22.here hx rfl (hb hby d4_79) rfl ?_
    refine XS.iloadN X22.here hx rfl (hb hby d4_80) rfl ?_
    refine XS.iload X22.here hx rfl (hb hby d4_81) rfl ?_
    show Steps p.tables e below (T22.setTop (mkF m 83 #[.val (.ref a1), .val (.int rk18), .val (.int pl19), .val (.int (256 : Int32)), .val (.int sm23), .val (.int ps25)] [(.int ps25), (.int (256 : Int32)), (.int pl19)])) _
    refine XS.iand X22.here hx rfl (hb hby d4_83) rfl ?_
    refine XS.iadd X22.here hx rfl (hb hby d4_84) rfl ?_
    refine XS.istoreN X22.here hx rfl (hb hby d4_85) rfl (l' := #[.val (.ref a1), .val (.int rk18), .val (.int (pl19 + ((256 : Int32) &&& ps25))), .val (.int (256 : Int32)), .val (.int sm23), .val (.int ps25)]) rfl ?_
    show Steps p.tables e below (T22.setTop (mkF m 86 #[.val (.ref a1), .val (.int rk18), .val (.int (pl19 + ((256 : Int32) &&& ps25))), .val (.int (256 : Int32)), .val (.int sm23), .val (.int ps25)] [])) _
    refine XS.iloadN X22.here hx rfl (hb hby d4_86) rfl ?_
    refine XS.iload X22.here hx rfl (hb hby d4_87) rfl ?_
    refine XS.iload X22.here hx rfl (hb hby d4_89) rfl ?_
    show Steps p.tables e below (T22.setTop (mkF m 91 #[.val (.ref a1), .val (.int rk18), .val (.int (pl19 + ((256 : Int32) &&& ps25))), .val (.int (256 : Int32)), .val (.int sm23), .val (.int ps25)] [(.int ps25), (.int sm23), (.int rk18)])) _
    refine XS.iand X22.here hx rfl (hb hby d4_91) rfl ?_
    refine XS.isub X22.here hx rfl (hb hby d4_92) rfl ?_
    refine XS.istoreN X22.here hx rfl (hb hby d4_93) rfl (l' := #[.val (.ref a1), .val (.int (rk18 - (sm23 &&& ps25))), .val (.int (pl19 + ((256 : Int32) &&& ps25))), .val (.int (256 : Int32)), .val (.int sm23), .val (.int ps25)]) rfl ?_
    show Steps p.tables e below (T22.setTop (mkF m 94 #[.val (.ref a1), .val (.int (rk18 - (sm23 &&& ps25))), .val (.int (pl19 + ((256 : Int32) &&& ps25))), .val (.int (256 : Int32)), .val (.int sm23), .val (.int ps25)] [])) _
    refine XS.iloadN X22.here hx rfl (hb hby d4_94) rfl ?_
    refine XS.iconst X22.here hx rfl (hb hby d4_95) ?_
    refine XS.ishr X22.here hx rfl (hb hby d4_96) rfl ?_
    show Steps p.tables e below (T22.setTop (mkF m 97 #[.val (.ref a1), .val (.int (rk18 - (sm23 &&& ps25))), .val (.int (pl19 + ((256 : Int32) &&& ps25))), .val (.int (256 : Int32)), .val (.int sm23), .val (.int ps25)] [(.int (128 : Int32))])) _
    refine XS.istoreN X22.here hx rfl (hb hby d4_97) rfl (l' := #[.val (.ref a1), .val (.int (rk18 - (sm23 &&& ps25))), .val (.int (pl19 + ((256 : Int32) &&& ps25))), .val (.int (128 : Int32)), .val (.int sm23), .val (.int ps25)]) rfl ?_
    refine XS.goto X22.here hx rfl (pc0 := 98) (pc' := 54) rfl (hb hby d4_98) (by decide) (by decide) ?_
    exact kt
  have I30 : own_inv P p1.toInt 256 1024 pl28 rk27 := by
    rw [hpl28, hrk27]
    exact own_step P p1.toInt 256 (1024) (256 : Int32) pl19 rk18 g rfl (by decide) (by decide) (fun q u w => hG 8 (by decide) q u (by omega)) hm hlo hhi hr4 I21 sm23 ps25 hsm23 hps25
  obtain ⟨T31, X31, e31, st31⟩ := getF X22 hx hZ hown (host := "") (Or.inl (hw _ (List.mem_of_getElem? (i := 13) rfl))) Via.refl e22 F1 (g := (mkF m 59 #[.val (.ref a1), .val (.int rk27), .val (.int pl28), .val (.int (128 : Int32)), .val (.int sm23), .val (.int ps25)] [(.ref a1)])) rfl rfl (hb hby d4_59)
  obtain ⟨sm32, hsm32⟩ : ∃ z, z = (g ((pl28 + (128 : Int32))).toNatClampNeg) := ⟨_, rfl⟩
  have c33 : ∀ t, Steps p.tables e below (T31.setTop (mkF m 68 #[.val (.ref a1), .val (.int rk27), .val (.int pl28), .val (.int (128 : Int32)), .val (.int sm32), .val (.int ps25)] [])) t → Steps p.tables e below (T22.setTop (mkF m 54 #[.val (.ref a1), .val (.int rk27), .val (.int pl28), .val (.int (128 : Int32)), .val (.int sm23), .val (.int ps25)] [])) t := by
    intro t kt
    subst hsm32
    show Steps p.tables e below (T22.setTop (mkF m 54 #[.val (.ref a1), .val (.int rk27), .val (.int pl28), .val (.int (128 : Int32)), .val (.int sm23), .val (.int ps25)] [])) _
    refine XS.iloadN X22.here hx rfl (hb hby d4_54) rfl ?_
    refine XS.ifNo X22.here hx rfl (hb hby d4_55) rfl ((if0 _ _).trans (tlt (by decide : (0 : Int32) < (128 : Int32))).2.2.2) ?_
    refine XS.aloadN X22.here hx rfl (hb hby d4_58) rfl rfl ?_
    show Steps p.tables e below (T22.setTop (mkF m 59 #[.val (.ref a1), .val (.int rk27), .val (.int pl28), .val (.int (128 : Int32)), .val (.int sm23), .val (.int ps25)] [(.ref a1)])) _
    refine st31 _ ?_
    refine XS.iloadN X31.here hx rfl (hb hby d4_62) rfl ?_
    refine XS.iloadN X31.here hx rfl (hb hby d4_63) rfl ?_
    show Steps p.tables e below (T31.setTop (mkF m 64 #[.val (.ref a1), .val (.int rk27), .val (.int pl28), .val (.int (128 : Int32)), .val (.int sm23), .val (.int ps25)] [(.int (128 : Int32)), (.int pl28), (.ref b1)])) _
    refine XS.iadd X31.here hx rfl (hb hby d4_64) rfl ?_
    refine own_ldI X31 hx hZ e31 A1 (j := (pl28 + (128 : Int32))) (x := (g ((pl28 + (128 : Int32))).toNatClampNeg)) (own_idx P p1.toInt 128 (1024) 1025 (128 : Int32) pl28 rk27 rfl (by decide) (by decide) (by decide) I30) rfl (g := (mkF m 65 #[.val (.ref a1), .val (.int rk27), .val (.int pl28), .val (.int (128 : Int32)), .val (.int sm23), .val (.int ps25)] [(.int (pl28 + (128 : Int32))), (.ref b1)])) rfl rfl (hb hby d4_65) _ ?_
    refine XS.istore X31.here hx rfl (hb hby d4_66) rfl (l' := #[.val (.ref a1), .val (.int rk27), .val (.int pl28), .val (.int (128 : Int32)), .val (.int (g ((pl28 + (128 : Int32))).toNatClampNeg)), .val (.int ps25)]) rfl ?_
    exact kt
  obtain ⟨ps34, hps34⟩ : ∃ z, z = (((sm32 - rk27) - (1 : Int32)) >>> ((31 : Int32) &&& 31)) := ⟨_, rfl⟩
  have c35 : ∀ t, Steps p.tables e below (T31.setTop (mkF m 79 #[.val (.ref a1), .val (.int rk27), .val (.int pl28), .val (.int (128 : Int32)), .val (.int sm32), .val (.int ps34)] [])) t → Steps p.tables e below (T31.setTop (mkF m 68 #[.val (.ref a1), .val (.int rk27), .val (.int pl28), .val (.int (128 : Int32)), .val (.int sm32), .val (.int ps25)] [])) t := by
    intro t kt
    subst hps34
    show Steps p.tables e below (T31.setTop (mkF m 68 #[.val (.ref a1), .val (.int rk27), .val (.int pl28), .val (.int (128 : Int32)), .val (.int sm32), .val (.int ps25)] [])) _
    refine XS.iload X31.here hx rfl (hb hby d4_68) rfl ?_
    refine XS.iloadN X31.here hx rfl (hb hby d4_70) rfl ?_
    refine XS.isub X31.here hx rfl (hb hby d4_71) rfl ?_
    show Steps p.tables e below (T31.setTop (mkF m 72 #[.val (.ref a1), .val (.int rk27), .val (.int pl28), .val (.int (128 : Int32)), .val (.int sm32), .val (.int ps25)] [(.int (sm32 - rk27))])) _
    refine XS.iconst X31.here hx rfl (hb hby d4_72) ?_
    refine XS.isub X31.here hx rfl (hb hby d4_73) rfl ?_
    refine XS.bipush X31.here hx rfl (hb hby d4_74) ?_
    show Steps p.tables e below (T31.setTop (mkF m 76 #[.val (.ref a1), .val (.int rk27), .val (.int pl28), .val (.int (128 : Int32)), .val (.int sm32), .val (.int ps25)] [(.int (31 : Int32)), (.int ((sm32 - rk27) - (1 : Int32)))])) _
    refine XS.ishr X31.here hx rfl (hb hby d4_76) rfl ?_
    refine XS.istore X31.here hx rfl (hb hby d4_77) rfl (l' := #[.val (.ref a1), .val (.int rk27), .val (.int pl28), .val (.int (128 : Int32)), .val (.int sm32), .val (.int (((sm32 - rk27) - (1 : Int32)) >>> ((31 : Int32) &&& 31)))]) rfl ?_
    exact kt
  obtain ⟨rk36, hrk36⟩ : ∃ z, z = (rk27 - (sm32 &&& ps34)) := ⟨_, rfl⟩
  obtain ⟨pl37, hpl37⟩ : ∃ z, z = (pl28 + ((128 : Int32) &&& ps34)) := ⟨_, rfl⟩
  have c38 : ∀ t, Steps p.tables e below (T31.setTop (mkF m 54 #[.val (.ref a1), .val (.int rk36), .val (.int pl37), .val (.int (64 : Int32)), .val (.int sm32), .val (.int ps34)] [])) t → Steps p.tables e below (T31.setTop (mkF m 79 #[.val (.ref a1), .val (.int rk27), .val (.int pl28), .val (.int (128 : Int32)), .val (.int sm32), .val (.int ps34)] [])) t := by
    intro t kt
    subst hrk36
    subst hpl37
    show Steps p.tables e below (T31.setTop (mkF m 79 #[.val (.ref a1), .val (.int rk27), .val (.int pl28), .val (.int (128 : Int32)), .val (.int sm32), .val (.int ps34)] [])) _
    refine XS.iloadN X31.here hx rfl (hb hby d4_79) rfl ?_
    refine XS.iloadN X31.here hx rfl (hb hby d4_80) rfl ?_
    refine XS.iload X31.here hx rfl (hb hby d4_81) rfl ?_
    show Steps p.tables e below (T31.setTop (mkF m 83 #[.val (.ref a1), .val (.int rk27), .val (.int pl28), .val (.int (128 : Int32)), .val (.int sm32), .val (.int ps34)] [(.int ps34), (.int (128 : Int32)), (.int pl28)])) _
    refine XS.iand X31.here hx rfl (hb hby d4_83) rfl ?_
    refine XS.iadd X31.here hx rfl (hb hby d4_84) rfl ?_
    refine XS.istoreN X31.here hx rfl (hb hby d4_85) rfl (l' := #[.val (.ref a1), .val (.int rk27), .val (.int (pl28 + ((128 : Int32) &&& ps34))), .val (.int (128 : Int32)), .val (.int sm32), .val (.int ps34)]) rfl ?_
    show Steps p.tables e below (T31.setTop (mkF m 86 #[.val (.ref a1), .val (.int rk27), .val (.int (pl28 + ((128 : Int32) &&& ps34))), .val (.int (128 : Int32)), .val (.int sm32), .val (.int ps34)] [])) _
    refine XS.iloadN X31.here hx rfl (hb hby d4_86) rfl ?_
    refine XS.iload X31.here hx rfl (hb hby d4_87) rfl ?_
    refine XS.iload X31.here hx rfl (hb hby d4_89) rfl ?_
    show Steps p.tables e below (T31.setTop (mkF m 91 #[.val (.ref a1), .val (.int rk27), .val (.int (pl28 + ((128 : Int32) &&& ps34))), .val (.int (128 : Int32)), .val (.int sm32), .val (.int ps34)] [(.int ps34), (.int sm32), (.int rk27)])) _
    refine XS.iand X31.here hx rfl (hb hby d4_91) rfl ?_
    refine XS.isub X31.here hx rfl (hb hby d4_92) rfl ?_
    refine XS.istoreN X31.here hx rfl (hb hby d4_93) rfl (l' := #[.val (.ref a1), .val (.int (rk27 - (sm32 &&& ps34))), .val (.int (pl28 + ((128 : Int32) &&& ps34))), .val (.int (128 : Int32)), .val (.int sm32), .val (.int ps34)]) rfl ?_
    show Steps p.tables e below (T31.setTop (mkF m 94 #[.val (.ref a1), .val (.int (rk27 - (sm32 &&& ps34))), .val (.int (pl28 + ((128 : Int32) &&& ps34))), .val (.int (128 : Int32)), .val (.int sm32), .val (.int ps34)] [])) _
    refine XS.iloadN X31.here hx rfl (hb hby d4_94) rfl ?_
    refine XS.iconst X31.here hx rfl (hb hby d4_95) ?_
    refine XS.ishr X31.here hx rfl (hb hby d4_96) rfl ?_
    show Steps p.tables e below (T31.setTop (mkF m 97 #[.val (.ref a1), .val (.int (rk27 - (sm32 &&& ps34))), .val (.int (pl28 + ((128 : Int32) &&& ps34))), .val (.int (128 : Int32)), .val (.int sm32), .val (.int ps34)] [(.int (64 : Int32))])) _
    refine XS.istoreN X31.here hx rfl (hb hby d4_97) rfl (l' := #[.val (.ref a1), .val (.int (rk27 - (sm32 &&& ps34))), .val (.int (pl28 + ((128 : Int32) &&& ps34))), .val (.int (64 : Int32)), .val (.int sm32), .val (.int ps34)]) rfl ?_
    refine XS.goto X31.here hx rfl (pc0 := 98) (pc' := 54) rfl (hb hby d4_98) (by decide) (by decide) ?_
    exact kt
  have I39 : own_inv P p1.toInt 128 1024 pl37 rk36 := by
    rw [hpl37, hrk36]
    exact own_step P p1.toInt 128 (1024) (128 : Int32) pl28 rk27 g rfl (by decide) (by decide) (fun q u w => hG 7 (by decide) q u (by omega)) hm hlo hhi hr4 I30 sm32 ps34 hsm32 hps34
  obtain ⟨T40, X40, e40, st40⟩ := getF X31 hx hZ hown (host := "") (Or.inl (hw _ (List.mem_of_getElem? (i := 13) rfl))) Via.refl e31 F1 (g := (mkF m 59 #[.val (.ref a1), .val (.int rk36), .val (.int pl37), .val (.int (64 : Int32)), .val (.int sm32), .val (.int ps34)] [(.ref a1)])) rfl rfl (hb hby d4_59)
  obtain ⟨sm41, hsm41⟩ : ∃ z, z = (g ((pl37 + (64 : Int32))).toNatClampNeg) := ⟨_, rfl⟩
  have c42 : ∀ t, Steps p.tables e below (T40.setTop (mkF m 68 #[.val (.ref a1), .val (.int rk36), .val (.int pl37), .val (.int (64 : Int32)), .val (.int sm41), .val (.int ps34)] [])) t → Steps p.tables e below (T31.setTop (mkF m 54 #[.val (.ref a1), .val (.int rk36), .val (.int pl37), .val (.int (64 : Int32)), .val (.int sm32), .val (.int ps34)] [])) t := by
    intro t kt
    subst hsm41
    show Steps p.tables e below (T31.setTop (mkF m 54 #[.val (.ref a1), .val (.int rk36), .val (.int pl37), .val (.int (64 : Int32)), .val (.int sm32), .val (.int ps34)] [])) _
    refine XS.iloadN X31.here hx rfl (hb hby d4_54) rfl ?_
    refine XS.ifNo X31.here hx rfl (hb hby d4_55) rfl ((if0 _ _).trans (tlt (by decide : (0 : Int32) < (64 : Int32))).2.2.2) ?_
    refine XS.aloadN X31.here hx rfl (hb hby d4_58) rfl rfl ?_
    show Steps p.tables e below (T31.setTop (mkF m 59 #[.val (.ref a1), .val (.int rk36), .val (.int pl37), .val (.int (64 : Int32)), .val (.int sm32), .val (.int ps34)] [(.ref a1)])) _
    refine st40 _ ?_
    refine XS.iloadN X40.here hx rfl (hb hby d4_62) rfl ?_
    refine XS.iloadN X40.here hx rfl (hb hby d4_63) rfl ?_
    show Steps p.tables e below (T40.setTop (mkF m 64 #[.val (.ref a1), .val (.int rk36), .val (.int pl37), .val (.int (64 : Int32)), .val (.int sm32), .val (.int ps34)] [(.int (64 : Int32)), (.int pl37), (.ref b1)])) _
    refine XS.iadd X40.here hx rfl (hb hby d4_64) rfl ?_
    refine own_ldI X40 hx hZ e40 A1 (j := (pl37 + (64 : Int32))) (x := (g ((pl37 + (64 : Int32))).toNatClampNeg)) (own_idx P p1.toInt 64 (1024) 1025 (64 : Int32) pl37 rk36 rfl (by decide) (by decide) (by decide) I39) rfl (g := (mkF m 65 #[.val (.ref a1), .val (.int rk36), .val (.int pl37), .val (.int (64 : Int32)), .val (.int sm32), .val (.int ps34)] [(.int (pl37 + (64 : Int32))), (.ref b1)])) rfl rfl (hb hby d4_65) _ ?_
    refine XS.istore X40.here hx rfl (hb hby d4_66) rfl (l' := #[.val (.ref a1), .val (.int rk36), .val (.int pl37), .val (.int (64 : Int32)), .val (.int (g ((pl37 + (64 : Int32))).toNatClampNeg)), .val (.int ps34)]) rfl ?_
    exact kt
  obtain ⟨ps43, hps43⟩ : ∃ z, z = (((sm41 - rk36) - (1 : Int32)) >>> ((31 : Int32) &&& 31)) := ⟨_, rfl⟩
  have c44 : ∀ t, Steps p.tables e below (T40.setTop (mkF m 79 #[.val (.ref a1), .val (.int rk36), .val (.int pl37), .val (.int (64 : Int32)), .val (.int sm41), .val (.int ps43)] [])) t → Steps p.tables e below (T40.setTop (mkF m 68 #[.val (.ref a1), .val (.int rk36), .val (.int pl37), .val (.int (64 : Int32)), .val (.int sm41), .val (.int ps34)] [])) t := by
    intro t kt
    subst hps43
    show Steps p.tables e below (T40.setTop (mkF m 68 #[.val (.ref a1), .val (.int rk36), .val (.int pl37), .val (.int (64 : Int32)), .val (.int sm41), .val (.int ps34)] [])) _
    refine XS.iload X40.here hx rfl (hb hby d4_68) rfl ?_
    refine XS.iloadN X40.here hx rfl (hb hby d4_70) rfl ?_
    refine XS.isub X40.here hx rfl (hb hby d4_71) rfl ?_
    show Steps p.tables e below (T40.setTop (mkF m 72 #[.val (.ref a1), .val (.int rk36), .val (.int pl37), .val (.int (64 : Int32)), .val (.int sm41), .val (.int ps34)] [(.int (sm41 - rk36))])) _
    refine XS.iconst X40.here hx rfl (hb hby d4_72) ?_
    refine XS.isub X40.here hx rfl (hb hby d4_73) rfl ?_
    refine XS.bipush X40.here hx rfl (hb hby d4_74) ?_
    show Steps p.tables e below (T40.setTop (mkF m 76 #[.val (.ref a1), .val (.int rk36), .val (.int pl37), .val (.int (64 : Int32)), .val (.int sm41), .val (.int ps34)] [(.int (31 : Int32)), (.int ((sm41 - rk36) - (1 : Int32)))])) _
    refine XS.ishr X40.here hx rfl (hb hby d4_76) rfl ?_
    refine XS.istore X40.here hx rfl (hb hby d4_77) rfl (l' := #[.val (.ref a1), .val (.int rk36), .val (.int pl37), .val (.int (64 : Int32)), .val (.int sm41), .val (.int (((sm41 - rk36) - (1 : Int32)) >>> ((31 : Int32) &&& 31)))]) rfl ?_
    exact kt
  obtain ⟨rk45, hrk45⟩ : ∃ z, z = (rk36 - (sm41 &&& ps43)) := ⟨_, rfl⟩
  obtain ⟨pl46, hpl46⟩ : ∃ z, z = (pl37 + ((64 : Int32) &&& ps43)) := ⟨_, rfl⟩
  have c47 : ∀ t, Steps p.tables e below (T40.setTop (mkF m 54 #[.val (.ref a1), .val (.int rk45), .val (.int pl46), .val (.int (32 : Int32)), .val (.int sm41), .val (.int ps43)] [])) t → Steps p.tables e below (T40.setTop (mkF m 79 #[.val (.ref a1), .val (.int rk36), .val (.int pl37), .val (.int (64 : Int32)), .val (.int sm41), .val (.int ps43)] [])) t := by
    intro t kt
    subst hrk45
    subst hpl46
    show Steps p.tables e below (T40.setTop (mkF m 79 #[.val (.ref a1), .val (.int rk36), .val (.int pl37), .val (.int (64 : Int32)), .val (.int sm41), .val (.int ps43)] [])) _
    refine XS.iloadN X40.here hx rfl (hb hby d4_79) rfl ?_
    refine XS.iloadN X40.here hx rfl (hb hby d4_80) rfl ?_
    refine XS.iload X40.here hx rfl (hb hby d4_81) rfl ?_
    show Steps p.tables e below (T40.setTop (mkF m 83 #[.val (.ref a1), .val (.int rk36), .val (.int pl37), .val (.int (64 : Int32)), .val (.int sm41), .val (.int ps43)] [(.int ps43), (.int (64 : Int32)), (.int pl37)])) _
    refine XS.iand X40.here hx rfl (hb hby d4_83) rfl ?_
    refine XS.iadd X40.here hx rfl (hb hby d4_84) rfl ?_
    refine XS.istoreN X40.here hx rfl (hb hby d4_85) rfl (l' := #[.val (.ref a1), .val (.int rk36), .val (.int (pl37 + ((64 : Int32) &&& ps43))), .val (.int (64 : Int32)), .val (.int sm41), .val (.int ps43)]) rfl ?_
    show Steps p.tables e below (T40.setTop (mkF m 86 #[.val (.ref a1), .val (.int rk36), .val (.int (pl37 + ((64 : Int32) &&& ps43))), .val (.int (64 : Int32)), .val (.int sm41), .val (.int ps43)] [])) _
    refine XS.iloadN X40.here hx rfl (hb hby d4_86) rfl ?_
    refine XS.iload X40.here hx rfl (hb hby d4_87) rfl ?_
    refine XS.iload X40.here hx rfl (hb hby d4_89) rfl ?_
    show Steps p.tables e below (T40.setTop (mkF m 91 #[.val (.ref a1), .val (.int rk36), .val (.int (pl37 + ((64 : Int32) &&& ps43))), .val (.int (64 : Int32)), .val (.int sm41), .val (.int ps43)] [(.int ps43), (.int sm41), (.int rk36)])) _
    refine XS.iand X40.here hx rfl (hb hby d4_91) rfl ?_
    refine XS.isub X40.here hx rfl (hb hby d4_92) rfl ?_
    refine XS.istoreN X40.here hx rfl (hb hby d4_93) rfl (l' := #[.val (.ref a1), .val (.int (rk36 - (sm41 &&& ps43))), .val (.int (pl37 + ((64 : Int32) &&& ps43))), .val (.int (64 : Int32)), .val (.int sm41), .val (.int ps43)]) rfl ?_
    show Steps p.tables e below (T40.setTop (mkF m 94 #[.val (.ref a1), .val (.int (rk36 - (sm41 &&& ps43))), .val (.int (pl37 + ((64 : Int32) &&& ps43))), .val (.int (64 : Int32)), .val (.int sm41), .val (.int ps43)] [])) _
    refine XS.iloadN X40.here hx rfl (hb hby d4_94) rfl ?_
    refine XS.iconst X40.here hx rfl (hb hby d4_95) ?_
    refine XS.ishr X40.here hx rfl (hb hby d4_96) rfl ?_
    show Steps p.tables e below (T40.setTop (mkF m 97 #[.val (.ref a1), .val (.int (rk36 - (sm41 &&& ps43))), .val (.int (pl37 + ((64 : Int32) &&& ps43))), .val (.int (64 : Int32)), .val (.int sm41), .val (.int ps43)] [(.int (32 : Int32))])) _
    refine XS.istoreN X40.here hx rfl (hb hby d4_97) rfl (l' := #[.val (.ref a1), .val (.int (rk36 - (sm41 &&& ps43))), .val (.int (pl37 + ((64 : Int32) &&& ps43))), .val (.int (32 : Int32)), .val (.int sm41), .val (.int ps43)]) rfl ?_
    refine XS.goto X40.here hx rfl (pc0 := 98) (pc' := 54) rfl (hb hby d4_98) (by decide) (by decide) ?_
    exact kt
  have I48 : own_inv P p1.toInt 64 1024 pl46 rk45 := by
    rw [hpl46, hrk45]
    exact own_step P p1.toInt 64 (1024) (64 : Int32) pl37 rk36 g rfl (by decide) (by decide) (fun q u w => hG 6 (by decide) q u (by omega)) hm hlo hhi hr4 I39 sm41 ps43 hsm41 hps43
  obtain ⟨T49, X49, e49, st49⟩ := getF X40 hx hZ hown (host := "") (Or.inl (hw _ (List.mem_of_getElem? (i := 13) rfl))) Via.refl e40 F1 (g := (mkF m 59 #[.val (.ref a1), .val (.int rk45), .val (.int pl46), .val (.int (32 : Int32)), .val (.int sm41), .val (.int ps43)] [(.ref a1)])) rfl rfl (hb hby d4_59)
  obtain ⟨sm50, hsm50⟩ : ∃ z, z = (g ((pl46 + (32 : Int32))).toNatClampNeg) := ⟨_, rfl⟩
  have c51 : ∀ t, Steps p.tables e below (T49.setTop (mkF m 68 #[.val (.ref a1), .val (.int rk45), .val (.int pl46), .val (.int (32 : Int32)), .val (.int sm50), .val (.int ps43)] [])) t → Steps p.tables e below (T40.setTop (mkF m 54 #[.val (.ref a1), .val (.int rk45), .val (.int pl46), .val (.int (32 : Int32)), .val (.int sm41), .val (.int ps43)] [])) t := by
    intro t kt
    subst hsm50
    show Steps p.tables e below (T40.setTop (mkF m 54 #[.val (.ref a1), .val (.int rk45), .val (.int pl46), .val (.int (32 : Int32)), .val (.int sm41), .val (.int ps43)] [])) _
    refine XS.iloadN X40.here hx rfl (hb hby d4_54) rfl ?_
    refine XS.ifNo X40.here hx rfl (hb hby d4_55) rfl ((if0 _ _).trans (tlt (by decide : (0 : Int32) < (32 : Int32))).2.2.2) ?_
    refine XS.aloadN X40.here hx rfl (hb hby d4_58) rfl rfl ?_
    show Steps p.tables e below (T40.setTop (mkF m 59 #[.val (.ref a1), .val (.int rk45), .val (.int pl46), .val (.int (32 : Int32)), .val (.int sm41), .val (.int ps43)] [(.ref a1)])) _
    refine st49 _ ?_
    refine XS.iloadN X49.here hx rfl (hb hby d4_62) rfl ?_
    refine XS.iloadN X49.here hx rfl (hb hby d4_63) rfl ?_
    show Steps p.tables e below (T49.setTop (mkF m 64 #[.val (.ref a1), .val (.int rk45), .val (.int pl46), .val (.int (32 : Int32)), .val (.int sm41), .val (.int ps43)] [(.int (32 : Int32)), (.int pl46), (.ref b1)])) _
    refine XS.iadd X49.here hx rfl (hb hby d4_64) rfl ?_
    refine own_ldI X49 hx hZ e49 A1 (j := (pl46 + (32 : Int32))) (x := (g ((pl46 + (32 : Int32))).toNatClampNeg)) (own_idx P p1.toInt 32 (1024) 1025 (32 : Int32) pl46 rk45 rfl (by decide) (by decide) (by decide) I48) rfl (g := (mkF m 65 #[.val (.ref a1), .val (.int rk45), .val (.int pl46), .val (.int (32 : Int32)), .val (.int sm41), .val (.int ps43)] [(.int (pl46 + (32 : Int32))), (.ref b1)])) rfl rfl (hb hby d4_65) _ ?_
    refine XS.istore X49.here hx rfl (hb hby d4_66) rfl (l' := #[.val (.ref a1), .val (.int rk45), .val (.int pl46), .val (.int (32 : Int32)), .val (.int (g ((pl46 + (32 : Int32))).toNatClampNeg)), .val (.int ps43)]) rfl ?_
    exact kt
  obtain ⟨ps52, hps52⟩ : ∃ z, z = (((sm50 - rk45) - (1 : Int32)) >>> ((31 : Int32) &&& 31)) := ⟨_, rfl⟩
  have c53 : ∀ t, Steps p.tables e below (T49.setTop (mkF m 79 #[.val (.ref a1), .val (.int rk45), .val (.int pl46), .val (.int (32 : Int32)), .val (.int sm50), .val (.int ps52)] [])) t → Steps p.tables e below (T49.setTop (mkF m 68 #[.val (.ref a1), .val (.int rk45), .val (.int pl46), .val (.int (32 : Int32)), .val (.int sm50), .val (.int ps43)] [])) t := by
    intro t kt
    subst hps52
    show Steps p.tables e below (T49.setTop (mkF m 68 #[.val (.ref a1), .val (.int rk45), .val (.int pl46), .val (.int (32 : Int32)), .val (.int sm50), .val (.int ps43)] [])) _
    refine XS.iload X49.here hx rfl (hb hby d4_68) rfl ?_
    refine XS.iloadN X49.here hx rfl (hb hby d4_70) rfl ?_
    refine XS.isub X49.here hx rfl (hb hby d4_71) rfl ?_
    show Steps p.tables e below (T49.setTop (mkF m 72 #[.val (.ref a1), .val (.int rk45), .val (.int pl46), .val (.int (32 : Int32)), .val (.int sm50), .val (.int ps43)] [(.int (sm50 - rk45))])) _
    refine XS.iconst X49.here hx rfl (hb hby d4_72) ?_
    refine XS.isub X49.here hx rfl (hb hby d4_73) rfl ?_
    refine XS.bipush X49.here hx rfl (hb hby d4_74) ?_
    show Steps p.tables e below (T49.setTop (mkF m 76 #[.val (.ref a1), .val (.int rk45), .val (.int pl46), .val (.int (32 : Int32)), .val (.int sm50), .val (.int ps43)] [(.int (31 : Int32)), (.int ((sm50 - rk45) - (1 : Int32)))])) _
    refine XS.ishr X49.here hx rfl (hb hby d4_76) rfl ?_
    refine XS.istore X49.here hx rfl (hb hby d4_77) rfl (l' := #[.val (.ref a1), .val (.int rk45), .val (.int pl46), .val (.int (32 : Int32)), .val (.int sm50), .val (.int (((sm50 - rk45) - (1 : Int32)) >>> ((31 : Int32) &&& 31)))]) rfl ?_
    exact kt
  obtain ⟨rk54, hrk54⟩ : ∃ z, z = (rk45 - (sm50 &&& ps52)) := ⟨_, rfl⟩
  obtain ⟨pl55, hpl55⟩ : ∃ z, z = (pl46 + ((32 : Int32) &&& ps52)) := ⟨_, rfl⟩
  have c56 : ∀ t, Steps p.tables e below (T49.setTop (mkF m 54 #[.val (.ref a1), .val (.int rk54), .val (.int pl55), .val (.int (16 : Int32)), .val (.int sm50), .val (.int ps52)] [])) t → Steps p.tables e below (T49.setTop (mkF m 79 #[.val (.ref a1), .val (.int rk45), .val (.int pl46), .val (.int (32 : Int32)), .val (.int sm50), .val (.int ps52)] [])) t := by
    intro t kt
    subst hrk54
    subst hpl55
    show Steps p.tables e below (T49.setTop (mkF m 79 #[.val (.ref a1), .val (.int rk45), .val (.int pl46), .val (.int (32 : Int32)), .val (.int sm50), .val (.int ps52)] [])) _
    refine XS.iloadN X49.here hx rfl (hb hby d4_79) rfl ?_
    refine XS.iloadN X49.here hx rfl (hb hby d4_80) rfl ?_
    refine XS.iload X49.here hx rfl (hb hby d4_81) rfl ?_
    show Steps p.tables e below (T49.setTop (mkF m 83 #[.val (.ref a1), .val (.int rk45), .val (.int pl46), .val (.int (32 : Int32)), .val (.int sm50), .val (.int ps52)] [(.int ps52), (.int (32 : Int32)), (.int pl46)])) _
    refine XS.iand X49.here hx rfl (hb hby d4_83) rfl ?_
    refine XS.iadd X49.here hx rfl (hb hby d4_84) rfl ?_
    refine XS.istoreN X49.here hx rfl (hb hby d4_85) rfl (l' := #[.val (.ref a1), .val (.int rk45), .val (.int (pl46 + ((32 : Int32) &&& ps52))), .val (.int (32 : Int32)), .val (.int sm50), .val (.int ps52)]) rfl ?_
    show Steps p.tables e below (T49.setTop (mkF m 86 #[.val (.ref a1), .val (.int rk45), .val (.int (pl46 + ((32 : Int32) &&& ps52))), .val (.int (32 : Int32)), .val (.int sm50), .val (.int ps52)] [])) _
    refine XS.iloadN X49.here hx rfl (hb hby d4_86) rfl ?_
    refine XS.iload X49.here hx rfl (hb hby d4_87) rfl ?_
    refine XS.iload X49.here hx rfl (hb hby d4_89) rfl ?_
    show Steps p.tables e below (T49.setTop (mkF m 91 #[.val (.ref a1), .val (.int rk45), .val (.int (pl46 + ((32 : Int32) &&& ps52))), .val (.int (32 : Int32)), .val (.int sm50), .val (.int ps52)] [(.int ps52), (.int sm50), (.int rk45)])) _
    refine XS.iand X49.here hx rfl (hb hby d4_91) rfl ?_
    refine XS.isub X49.here hx rfl (hb hby d4_92) rfl ?_
    refine XS.istoreN X49.here hx rfl (hb hby d4_93) rfl (l' := #[.val (.ref a1), .val (.int (rk45 - (sm50 &&& ps52))), .val (.int (pl46 + ((32 : Int32) &&& ps52))), .val (.int (32 : Int32)), .val (.int sm50), .val (.int ps52)]) rfl ?_
    show Steps p.tables e below (T49.setTop (mkF m 94 #[.val (.ref a1), .val (.int (rk45 - (sm50 &&& ps52))), .val (.int (pl46 + ((32 : Int32) &&& ps52))), .val (.int (32 : Int32)), .val (.int sm50), .val (.int ps52)] [])) _
    refine XS.iloadN X49.here hx rfl (hb hby d4_94) rfl ?_
    refine XS.iconst X49.here hx rfl (hb hby d4_95) ?_
    refine XS.ishr X49.here hx rfl (hb hby d4_96) rfl ?_
    show Steps p.tables e below (T49.setTop (mkF m 97 #[.val (.ref a1), .val (.int (rk45 - (sm50 &&& ps52))), .val (.int (pl46 + ((32 : Int32) &&& ps52))), .val (.int (32 : Int32)), .val (.int sm50), .val (.int ps52)] [(.int (16 : Int32))])) _
    refine XS.istoreN X49.here hx rfl (hb hby d4_97) rfl (l' := #[.val (.ref a1), .val (.int (rk45 - (sm50 &&& ps52))), .val (.int (pl46 + ((32 : Int32) &&& ps52))), .val (.int (16 : Int32)), .val (.int sm50), .val (.int ps52)]) rfl ?_
    refine XS.goto X49.here hx rfl (pc0 := 98) (pc' := 54) rfl (hb hby d4_98) (by decide) (by decide) ?_
    exact kt
  have I57 : own_inv P p1.toInt 32 1024 pl55 rk54 := by
    rw [hpl55, hrk54]
    exact own_step P p1.toInt 32 (1024) (32 : Int32) pl46 rk45 g rfl (by decide) (by decide) (fun q u w => hG 5 (by decide) q u (by omega)) hm hlo hhi hr4 I48 sm50 ps52 hsm50 hps52
  obtain ⟨T58, X58, e58, st58⟩ := getF X49 hx hZ hown (host := "") (Or.inl (hw _ (List.mem_of_getElem? (i := 13) rfl))) Via.refl e49 F1 (g := (mkF m 59 #[.val (.ref a1), .val (.int rk54), .val (.int pl55), .val (.int (16 : Int32)), .val (.int sm50), .val (.int ps52)] [(.ref a1)])) rfl rfl (hb hby d4_59)
  obtain ⟨sm59, hsm59⟩ : ∃ z, z = (g ((pl55 + (16 : Int32))).toNatClampNeg) := ⟨_, rfl⟩
  have c60 : ∀ t, Steps p.tables e below (T58.setTop (mkF m 68 #[.val (.ref a1), .val (.int rk54), .val (.int pl55), .val (.int (16 : Int32)), .val (.int sm59), .val (.int ps52)] [])) t → Steps p.tables e below (T49.setTop (mkF m 54 #[.val (.ref a1), .val (.int rk54), .val (.int pl55), .val (.int (16 : Int32)), .val (.int sm50), .val (.int ps52)] [])) t := by
    intro t kt
    subst hsm59
    show Steps p.tables e below (T49.setTop (mkF m 54 #[.val (.ref a1), .val (.int rk54), .val (.int pl55), .val (.int (16 : Int32)), .val (.int sm50), .val (.int ps52)] [])) _
    refine XS.iloadN X49.here hx rfl (hb hby d4_54) rfl ?_
    refine XS.ifNo X49.here hx rfl (hb hby d4_55) rfl ((if0 _ _).trans (tlt (by decide : (0 : Int32) < (16 : Int32))).2.2.2) ?_
    refine XS.aloadN X49.here hx rfl (hb hby d4_58) rfl rfl ?_
    show Steps p.tables e below (T49.setTop (mkF m 59 #[.val (.ref a1), .val (.int rk54), .val (.int pl55), .val (.int (16 : Int32)), .val (.int sm50), .val (.int ps52)] [(.ref a1)])) _
    refine st58 _ ?_
    refine XS.iloadN X58.here hx rfl (hb hby d4_62) rfl ?_
    refine XS.iloadN X58.here hx rfl (hb hby d4_63) rfl ?_
    show Steps p.tables e below (T58.setTop (mkF m 64 #[.val (.ref a1), .val (.int rk54), .val (.int pl55), .val (.int (16 : Int32)), .val (.int sm50), .val (.int ps52)] [(.int (16 : Int32)), (.int pl55), (.ref b1)])) _
    refine XS.iadd X58.here hx rfl (hb hby d4_64) rfl ?_
    refine own_ldI X58 hx hZ e58 A1 (j := (pl55 + (16 : Int32))) (x := (g ((pl55 + (16 : Int32))).toNatClampNeg)) (own_idx P p1.toInt 16 (1024) 1025 (16 : Int32) pl55 rk54 rfl (by decide) (by decide) (by decide) I57) rfl (g := (mkF m 65 #[.val (.ref a1), .val (.int rk54), .val (.int pl55), .val (.int (16 : Int32)), .val (.int sm50), .val (.int ps52)] [(.int (pl55 + (16 : Int32))), (.ref b1)])) rfl rfl (hb hby d4_65) _ ?_
    refine XS.istore X58.here hx rfl (hb hby d4_66) rfl (l' := #[.val (.ref a1), .val (.int rk54), .val (.int pl55), .val (.int (16 : Int32)), .val (.int (g ((pl55 + (16 : Int32))).toNatClampNeg)), .val (.int ps52)]) rfl ?_
    exact kt
  obtain ⟨ps61, hps61⟩ : ∃ z, z = (((sm59 - rk54) - (1 : Int32)) >>> ((31 : Int32) &&& 31)) := ⟨_, rfl⟩
  have c62 : ∀ t, Steps p.tables e below (T58.setTop (mkF m 79 #[.val (.ref a1), .val (.int rk54), .val (.int pl55), .val (.int (16 : Int32)), .val (.int sm59), .val (.int ps61)] [])) t → Steps p.tables e below (T58.setTop (mkF m 68 #[.val (.ref a1), .val (.int rk54), .val (.int pl55), .val (.int (16 : Int32)), .val (.int sm59), .val (.int ps52)] [])) t := by
    intro t kt
    subst hps61
    show Steps p.tables e below (T58.setTop (mkF m 68 #[.val (.ref a1), .val (.int rk54), .val (.int pl55), .val (.int (16 : Int32)), .val (.int sm59), .val (.int ps52)] [])) _
    refine XS.iload X58.here hx rfl (hb hby d4_68) rfl ?_
    refine XS.iloadN X58.here hx rfl (hb hby d4_70) rfl ?_
    refine XS.isub X58.here hx rfl (hb hby d4_71) rfl ?_
    show Steps p.tables e below (T58.setTop (mkF m 72 #[.val (.ref a1), .val (.int rk54), .val (.int pl55), .val (.int (16 : Int32)), .val (.int sm59), .val (.int ps52)] [(.int (sm59 - rk54))])) _
    refine XS.iconst X58.here hx rfl (hb hby d4_72) ?_
    refine XS.isub X58.here hx rfl (hb hby d4_73) rfl ?_
    refine XS.bipush X58.here hx rfl (hb hby d4_74) ?_
    show Steps p.tables e below (T58.setTop (mkF m 76 #[.val (.ref a1), .val (.int rk54), .val (.int pl55), .val (.int (16 : Int32)), .val (.int sm59), .val (.int ps52)] [(.int (31 : Int32)), (.int ((sm59 - rk54) - (1 : Int32)))])) _
    refine XS.ishr X58.here hx rfl (hb hby d4_76) rfl ?_
    refine XS.istore X58.here hx rfl (hb hby d4_77) rfl (l' := #[.val (.ref a1), .val (.int rk54), .val (.int pl55), .val (.int (16 : Int32)), .val (.int sm59), .val (.int (((sm59 - rk54) - (1 : Int32)) >>> ((31 : Int32) &&& 31)))]) rfl ?_
    exact kt
  obtain ⟨rk63, hrk63⟩ : ∃ z, z = (rk54 - (sm59 &&& ps61)) := ⟨_, rfl⟩
  obtain ⟨pl64, hpl64⟩ : ∃ z, z = (pl55 + ((16 : Int32) &&& ps61)) := ⟨_, rfl⟩
  have c65 : ∀ t, Steps p.tables e below (T58.setTop (mkF m 54 #[.val (.ref a1), .val (.int rk63), .val (.int pl64), .val (.int (8 : Int32)), .val (.int sm59), .val (.int ps61)] [])) t → Steps p.tables e below (T58.setTop (mkF m 79 #[.val (.ref a1), .val (.int rk54), .val (.int pl55), .val (.int (16 : Int32)), .val (.int sm59), .val (.int ps61)] [])) t := by
    intro t kt
    subst hrk63
    subst hpl64
    show Steps p.tables e below (T58.setTop (mkF m 79 #[.val (.ref a1), .val (.int rk54), .val (.int pl55), .val (.int (16 : Int32)), .val (.int sm59), .val (.int ps61)] [])) _
    refine XS.iloadN X58.here hx rfl (hb hby d4_79) rfl ?_
    refine XS.iloadN X58.here hx rfl (hb hby d4_80) rfl ?_
    refine XS.iload X58.here hx rfl (hb hby d4_81) rfl ?_
    show Steps p.tables e below (T58.setTop (mkF m 83 #[.val (.ref a1), .val (.int rk54), .val (.int pl55), .val (.int (16 : Int32)), .val (.int sm59), .val (.int ps61)] [(.int ps61), (.int (16 : Int32)), (.int pl55)])) _
    refine XS.iand X58.here hx rfl (hb hby d4_83) rfl ?_
    refine XS.iadd X58.here hx rfl (hb hby d4_84) rfl ?_
    refine XS.istoreN X58.here hx rfl (hb hby d4_85) rfl (l' := #[.val (.ref a1), .val (.int rk54), .val (.int (pl55 + ((16 : Int32) &&& ps61))), .val (.int (16 : Int32)), .val (.int sm59), .val (.int ps61)]) rfl ?_
    show Steps p.tables e below (T58.setTop (mkF m 86 #[.val (.ref a1), .val (.int rk54), .val (.int (pl55 + ((16 : Int32) &&& ps61))), .val (.int (16 : Int32)), .val (.int sm59), .val (.int ps61)] [])) _
    refine XS.iloadN X58.here hx rfl (hb hby d4_86) rfl ?_
    refine XS.iload X58.here hx rfl (hb hby d4_87) rfl ?_
    refine XS.iload X58.here hx rfl (hb hby d4_89) rfl ?_
    show Steps p.tables e below (T58.setTop (mkF m 91 #[.val (.ref a1), .val (.int rk54), .val (.int (pl55 + ((16 : Int32) &&& ps61))), .val (.int (16 : Int32)), .val (.int sm59), .val (.int ps61)] [(.int ps61), (.int sm59), (.int rk54)])) _
    refine XS.iand X58.here hx rfl (hb hby d4_91) rfl ?_
    refine XS.isub X58.here hx rfl (hb hby d4_92) rfl ?_
    refine XS.istoreN X58.here hx rfl (hb hby d4_93) rfl (l' := #[.val (.ref a1), .val (.int (rk54 - (sm59 &&& ps61))), .val (.int (pl55 + ((16 : Int32) &&& ps61))), .val (.int (16 : Int32)), .val (.int sm59), .val (.int ps61)]) rfl ?_
    show Steps p.tables e below (T58.setTop (mkF m 94 #[.val (.ref a1), .val (.int (rk54 - (sm59 &&& ps61))), .val (.int (pl55 + ((16 : Int32) &&& ps61))), .val (.int (16 : Int32)), .val (.int sm59), .val (.int ps61)] [])) _
    refine XS.iloadN X58.here hx rfl (hb hby d4_94) rfl ?_
    refine XS.iconst X58.here hx rfl (hb hby d4_95) ?_
    refine XS.ishr X58.here hx rfl (hb hby d4_96) rfl ?_
    show Steps p.tables e below (T58.setTop (mkF m 97 #[.val (.ref a1), .val (.int (rk54 - (sm59 &&& ps61))), .val (.int (pl55 + ((16 : Int32) &&& ps61))), .val (.int (16 : Int32)), .val (.int sm59), .val (.int ps61)] [(.int (8 : Int32))])) _
    refine XS.istoreN X58.here hx rfl (hb hby d4_97) rfl (l' := #[.val (.ref a1), .val (.int (rk54 - (sm59 &&& ps61))), .val (.int (pl55 + ((16 : Int32) &&& ps61))), .val (.int (8 : Int32)), .val (.int sm59), .val (.int ps61)]) rfl ?_
    refine XS.goto X58.here hx rfl (pc0 := 98) (pc' := 54) rfl (hb hby d4_98) (by decide) (by decide) ?_
    exact kt
  have I66 : own_inv P p1.toInt 16 1024 pl64 rk63 := by
    rw [hpl64, hrk63]
    exact own_step P p1.toInt 16 (1024) (16 : Int32) pl55 rk54 g rfl (by decide) (by decide) (fun q u w => hG 4 (by decide) q u (by omega)) hm hlo hhi hr4 I57 sm59 ps61 hsm59 hps61
  obtain ⟨T67, X67, e67, st67⟩ := getF X58 hx hZ hown (host := "") (Or.inl (hw _ (List.mem_of_getElem? (i := 13) rfl))) Via.refl e58 F1 (g := (mkF m 59 #[.val (.ref a1), .val (.int rk63), .val (.int pl64), .val (.int (8 : Int32)), .val (.int sm59), .val (.int ps61)] [(.ref a1)])) rfl rfl (hb hby d4_59)
  obtain ⟨sm68, hsm68⟩ : ∃ z, z = (g ((pl64 + (8 : Int32))).toNatClampNeg) := ⟨_, rfl⟩
  have c69 : ∀ t, Steps p.tables e below (T67.setTop (mkF m 68 #[.val (.ref a1), .val (.int rk63), .val (.int pl64), .val (.int (8 : Int32)), .val (.int sm68), .val (.int ps61)] [])) t → Steps p.tables e below (T58.setTop (mkF m 54 #[.val (.ref a1), .val (.int rk63), .val (.int pl64), .val (.int (8 : Int32)), .val (.int sm59), .val (.int ps61)] [])) t := by
    intro t kt
    subst hsm68
    show Steps p.tables e below (T58.setTop (mkF m 54 #[.val (.ref a1), .val (.int rk63), .val (.int pl64), .val (.int (8 : Int32)), .val (.int sm59), .val (.int ps61)] [])) _
    refine XS.iloadN X58.here hx rfl (hb hby d4_54) rfl ?_
    refine XS.ifNo X58.here hx rfl (hb hby d4_55) rfl ((if0 _ _).trans (tlt (by decide : (0 : Int32) < (8 : Int32))).2.2.2) ?_
    refine XS.aloadN X58.here hx rfl (hb hby d4_58) rfl rfl ?_
    show Steps p.tables e below (T58.setTop (mkF m 59 #[.val (.ref a1), .val (.int rk63), .val (.int pl64), .val (.int (8 : Int32)), .val (.int sm59), .val (.int ps61)] [(.ref a1)])) _
    refine st67 _ ?_
    refine XS.iloadN X67.here hx rfl (hb hby d4_62) rfl ?_
    refine XS.iloadN X67.here hx rfl (hb hby d4_63) rfl ?_
    show Steps p.tables e below (T67.setTop (mkF m 64 #[.val (.ref a1), .val (.int rk63), .val (.int pl64), .val (.int (8 : Int32)), .val (.int sm59), .val (.int ps61)] [(.int (8 : Int32)), (.int pl64), (.ref b1)])) _
    refine XS.iadd X67.here hx rfl (hb hby d4_64) rfl ?_
    refine own_ldI X67 hx hZ e67 A1 (j := (pl64 + (8 : Int32))) (x := (g ((pl64 + (8 : Int32))).toNatClampNeg)) (own_idx P p1.toInt 8 (1024) 1025 (8 : Int32) pl64 rk63 rfl (by decide) (by decide) (by decide) I66) rfl (g := (mkF m 65 #[.val (.ref a1), .val (.int rk63), .val (.int pl64), .val (.int (8 : Int32)), .val (.int sm59), .val (.int ps61)] [(.int (pl64 + (8 : Int32))), (.ref b1)])) rfl rfl (hb hby d4_65) _ ?_
    refine XS.istore X67.here hx rfl (hb hby d4_66) rfl (l' := #[.val (.ref a1), .val (.int rk63), .val (.int pl64), .val (.int (8 : Int32)), .val (.int (g ((pl64 + (8 : Int32))).toNatClampNeg)), .val (.int ps61)]) rfl ?_
    exact kt
  obtain ⟨ps70, hps70⟩ : ∃ z, z = (((sm68 - rk63) - (1 : Int32)) >>> ((31 : Int32) &&& 31)) := ⟨_, rfl⟩
  have c71 : ∀ t, Steps p.tables e below (T67.setTop (mkF m 79 #[.val (.ref a1), .val (.int rk63), .val (.int pl64), .val (.int (8 : Int32)), .val (.int sm68), .val (.int ps70)] [])) t → Steps p.tables e below (T67.setTop (mkF m 68 #[.val (.ref a1), .val (.int rk63), .val (.int pl64), .val (.int (8 : Int32)), .val (.int sm68), .val (.int ps61)] [])) t := by
    intro t kt
    subst hps70
    show Steps p.tables e below (T67.setTop (mkF m 68 #[.val (.ref a1), .val (.int rk63), .val (.int pl64), .val (.int (8 : Int32)), .val (.int sm68), .val (.int ps61)] [])) _
    refine XS.iload X67.here hx rfl (hb hby d4_68) rfl ?_
    refine XS.iloadN X67.here hx rfl (hb hby d4_70) rfl ?_
    refine XS.isub X67.here hx rfl (hb hby d4_71) rfl ?_
    show Steps p.tables e below (T67.setTop (mkF m 72 #[.val (.ref a1), .val (.int rk63), .val (.int pl64), .val (.int (8 : Int32)), .val (.int sm68), .val (.int ps61)] [(.int (sm68 - rk63))])) _
    refine XS.iconst X67.here hx rfl (hb hby d4_72) ?_
    refine XS.isub X67.here hx rfl (hb hby d4_73) rfl ?_
    refine XS.bipush X67.here hx rfl (hb hby d4_74) ?_
    show Steps p.tables e below (T67.setTop (mkF m 76 #[.val (.ref a1), .val (.int rk63), .val (.int pl64), .val (.int (8 : Int32)), .val (.int sm68), .val (.int ps61)] [(.int (31 : Int32)), (.int ((sm68 - rk63) - (1 : Int32)))])) _
    refine XS.ishr X67.here hx rfl (hb hby d4_76) rfl ?_
    refine XS.istore X67.here hx rfl (hb hby d4_77) rfl (l' := #[.val (.ref a1), .val (.int rk63), .val (.int pl64), .val (.int (8 : Int32)), .val (.int sm68), .val (.int (((sm68 - rk63) - (1 : Int32)) >>> ((31 : Int32) &&& 31)))]) rfl ?_
    exact kt
  obtain ⟨rk72, hrk72⟩ : ∃ z, z = (rk63 - (sm68 &&& ps70)) := ⟨_, rfl⟩
  obtain ⟨pl73, hpl73⟩ : ∃ z, z = (pl64 + ((8 : Int32) &&& ps70)) := ⟨_, rfl⟩
  have c74 : ∀ t, Steps p.tables e below (T67.setTop (mkF m 54 #[.val (.ref a1), .val (.int rk72), .val (.int pl73), .val (.int (4 : Int32)), .val (.int sm68), .val (.int ps70)] [])) t → Steps p.tables e below (T67.setTop (mkF m 79 #[.val (.ref a1), .val (.int rk63), .val (.int pl64), .val (.int (8 : Int32)), .val (.int sm68), .val (.int ps70)] [])) t := by
    intro t kt
    subst hrk72
    subst hpl73
    show Steps p.tables e below (T67.setTop (mkF m 79 #[.val (.ref a1), .val (.int rk63), .val (.int pl64), .val (.int (8 : Int32)), .val (.int sm68), .val (.int ps70)] [])) _
    refine XS.iloadN X67.here hx rfl (hb hby d4_79) rfl ?_
    refine XS.iloadN X67.here hx rfl (hb hby d4_80) rfl ?_
    refine XS.iload X67.here hx rfl (hb hby d4_81) rfl ?_
    show Steps p.tables e below (T67.setTop (mkF m 83 #[.val (.ref a1), .val (.int rk63), .val (.int pl64), .val (.int (8 : Int32)), .val (.int sm68), .val (.int ps70)] [(.int ps70), (.int (8 : Int32)), (.int pl64)])) _
    refine XS.iand X67.here hx rfl (hb hby d4_83) rfl ?_
    refine XS.iadd X67.here hx rfl (hb hby d4_84) rfl ?_
    refine XS.istoreN X67.here hx rfl (hb hby d4_85) rfl (l' := #[.val (.ref a1), .val (.int rk63), .val (.int (pl64 + ((8 : Int32) &&& ps70))), .val (.int (8 : Int32)), .val (.int sm68), .val (.int ps70)]) rfl ?_
    show Steps p.tables e below (T67.setTop (mkF m 86 #[.val (.ref a1), .val (.int rk63), .val (.int (pl64 + ((8 : Int32) &&& ps70))), .val (.int (8 : Int32)), .val (.int sm68), .val (.int ps70)] [])) _
    refine XS.iloadN X67.here hx rfl (hb hby d4_86) rfl ?_
    refine XS.iload X67.here hx rfl (hb hby d4_87) rfl ?_
    refine XS.iload X67.here hx rfl (hb hby d4_89) rfl ?_
    show Steps p.tables e below (T67.setTop (mkF m 91 #[.val (.ref a1), .val (.int rk63), .val (.int (pl64 + ((8 : Int32) &&& ps70))), .val (.int (8 : Int32)), .val (.int sm68), .val (.int ps70)] [(.int ps70), (.int sm68), (.int rk63)])) _
    refine XS.iand X67.here hx rfl (hb hby d4_91) rfl ?_
    refine XS.isub X67.here hx rfl (hb hby d4_92) rfl ?_
    refine XS.istoreN X67.here hx rfl (hb hby d4_93) rfl (l' := #[.val (.ref a1), .val (.int (rk63 - (sm68 &&& ps70))), .val (.int (pl64 + ((8 : Int32) &&& ps70))), .val (.int (8 : Int32)), .val (.int sm68), .val (.int ps70)]) rfl ?_
    show Steps p.tables e below (T67.setTop (mkF m 94 #[.val (.ref a1), .val (.int (rk63 - (sm68 &&& ps70))), .val (.int (pl64 + ((8 : Int32) &&& ps70))), .val (.int (8 : Int32)), .val (.int sm68), .val (.int ps70)] [])) _
    refine XS.iloadN X67.here hx rfl (hb hby d4_94) rfl ?_
    refine XS.iconst X67.here hx rfl (hb hby d4_95) ?_
    refine XS.ishr X67.here hx rfl (hb hby d4_96) rfl ?_
    show Steps p.tables e below (T67.setTop (mkF m 97 #[.val (.ref a1), .val (.int (rk63 - (sm68 &&& ps70))), .val (.int (pl64 + ((8 : Int32) &&& ps70))), .val (.int (8 : Int32)), .val (.int sm68), .val (.int ps70)] [(.int (4 : Int32))])) _
    refine XS.istoreN X67.here hx rfl (hb hby d4_97) rfl (l' := #[.val (.ref a1), .val (.int (rk63 - (sm68 &&& ps70))), .val (.int (pl64 + ((8 : Int32) &&& ps70))), .val (.int (4 : Int32)), .val (.int sm68), .val (.int ps70)]) rfl ?_
    refine XS.goto X67.here hx rfl (pc0 := 98) (pc' := 54) rfl (hb hby d4_98) (by decide) (by decide) ?_
    exact kt
  have I75 : own_inv P p1.toInt 8 1024 pl73 rk72 := by
    rw [hpl73, hrk72]
    exact own_step P p1.toInt 8 (1024) (8 : Int32) pl64 rk63 g rfl (by decide) (by decide) (fun q u w => hG 3 (by decide) q u (by omega)) hm hlo hhi hr4 I66 sm68 ps70 hsm68 hps70
  obtain ⟨T76, X76, e76, st76⟩ := getF X67 hx hZ hown (host := "") (Or.inl (hw _ (List.mem_of_getElem? (i := 13) rfl))) Via.refl e67 F1 (g := (mkF m 59 #[.val (.ref a1), .val (.int rk72), .val (.int pl73), .val (.int (4 : Int32)), .val (.int sm68), .val (.int ps70)] [(.ref a1)])) rfl rfl (hb hby d4_59)
  obtain ⟨sm77, hsm77⟩ : ∃ z, z = (g ((pl73 + (4 : Int32))).toNatClampNeg) := ⟨_, rfl⟩
  have c78 : ∀ t, Steps p.tables e below (T76.setTop (mkF m 68 #[.val (.ref a1), .val (.int rk72), .val (.int pl73), .val (.int (4 : Int32)), .val (.int sm77), .val (.int ps70)] [])) t → Steps p.tables e below (T67.setTop (mkF m 54 #[.val (.ref a1), .val (.int rk72), .val (.int pl73), .val (.int (4 : Int32)), .val (.int sm68), .val (.int ps70)] [])) t := by
    intro t kt
    subst hsm77
    show Steps p.tables e below (T67.setTop (mkF m 54 #[.val (.ref a1), .val (.int rk72), .val (.int pl73), .val (.int (4 : Int32)), .val (.int sm68), .val (.int ps70)] [])) _
    refine XS.iloadN X67.here hx rfl (hb hby d4_54) rfl ?_
    refine XS.ifNo X67.here hx rfl (hb hby d4_55) rfl ((if0 _ _).trans (tlt (by decide : (0 : Int32) < (4 : Int32))).2.2.2) ?_
    refine XS.aloadN X67.here hx rfl (hb hby d4_58) rfl rfl ?_
    show Steps p.tables e below (T67.setTop (mkF m 59 #[.val (.ref a1), .val (.int rk72), .val (.int pl73), .val (.int (4 : Int32)), .val (.int sm68), .val (.int ps70)] [(.ref a1)])) _
    refine st76 _ ?_
    refine XS.iloadN X76.here hx rfl (hb hby d4_62) rfl ?_
    refine XS.iloadN X76.here hx rfl (hb hby d4_63) rfl ?_
    show Steps p.tables e below (T76.setTop (mkF m 64 #[.val (.ref a1), .val (.int rk72), .val (.int pl73), .val (.int (4 : Int32)), .val (.int sm68), .val (.int ps70)] [(.int (4 : Int32)), (.int pl73), (.ref b1)])) _
    refine XS.iadd X76.here hx rfl (hb hby d4_64) rfl ?_
    refine own_ldI X76 hx hZ e76 A1 (j := (pl73 + (4 : Int32))) (x := (g ((pl73 + (4 : Int32))).toNatClampNeg)) (own_idx P p1.toInt 4 (1024) 1025 (4 : Int32) pl73 rk72 rfl (by decide) (by decide) (by decide) I75) rfl (g := (mkF m 65 #[.val (.ref a1), .val (.int rk72), .val (.int pl73), .val (.int (4 : Int32)), .val (.int sm68), .val (.int ps70)] [(.int (pl73 + (4 : Int32))), (.ref b1)])) rfl rfl (hb hby d4_65) _ ?_
    refine XS.istore X76.here hx rfl (hb hby d4_66) rfl (l' := #[.val (.ref a1), .val (.int rk72), .val (.int pl73), .val (.int (4 : Int32)), .val (.int (g ((pl73 + (4 : Int32))).toNatClampNeg)), .val (.int ps70)]) rfl ?_
    exact kt
  obtain ⟨ps79, hps79⟩ : ∃ z, z = (((sm77 - rk72) - (1 : Int32)) >>> ((31 : Int32) &&& 31)) := ⟨_, rfl⟩
  have c80 : ∀ t, Steps p.tables e below (T76.setTop (mkF m 79 #[.val (.ref a1), .val (.int rk72), .val (.int pl73), .val (.int (4 : Int32)), .val (.int sm77), .val (.int ps79)] [])) t → Steps p.tables e below (T76.setTop (mkF m 68 #[.val (.ref a1), .val (.int rk72), .val (.int pl73), .val (.int (4 : Int32)), .val (.int sm77), .val (.int ps70)] [])) t := by
    intro t kt
    subst hps79
    show Steps p.tables e below (T76.setTop (mkF m 68 #[.val (.ref a1), .val (.int rk72), .val (.int pl73), .val (.int (4 : Int32)), .val (.int sm77), .val (.int ps70)] [])) _
    refine XS.iload X76.here hx rfl (hb hby d4_68) rfl ?_
    refine XS.iloadN X76.here hx rfl (hb hby d4_70) rfl ?_
    refine XS.isub X76.here hx rfl (hb hby d4_71) rfl ?_
    show Steps p.tables e below (T76.setTop (mkF m 72 #[.val (.ref a1), .val (.int rk72), .val (.int pl73), .val (.int (4 : Int32)), .val (.int sm77), .val (.int ps70)] [(.int (sm77 - rk72))])) _
    refine XS.iconst X76.here hx rfl (hb hby d4_72) ?_
    refine XS.isub X76.here hx rfl (hb hby d4_73) rfl ?_
    refine XS.bipush X76.here hx rfl (hb hby d4_74) ?_
    show Steps p.tables e below (T76.setTop (mkF m 76 #[.val (.ref a1), .val (.int rk72), .val (.int pl73), .val (.int (4 : Int32)), .val (.int sm77), .val (.int ps70)] [(.int (31 : Int32)), (.int ((sm77 - rk72) - (1 : Int32)))])) _
    refine XS.ishr X76.here hx rfl (hb hby d4_76) rfl ?_
    refine XS.istore X76.here hx rfl (hb hby d4_77) rfl (l' := #[.val (.ref a1), .val (.int rk72), .val (.int pl73), .val (.int (4 : Int32)), .val (.int sm77), .val (.int (((sm77 - rk72) - (1 : Int32)) >>> ((31 : Int32) &&& 31)))]) rfl ?_
    exact kt
  obtain ⟨rk81, hrk81⟩ : ∃ z, z = (rk72 - (sm77 &&& ps79)) := ⟨_, rfl⟩
  obtain ⟨pl82, hpl82⟩ : ∃ z, z = (pl73 + ((4 : Int32) &&& ps79)) := ⟨_, rfl⟩
  have c83 : ∀ t, Steps p.tables e below (T76.setTop (mkF m 54 #[.val (.ref a1), .val (.int rk81), .val (.int pl82), .val (.int (2 : Int32)), .val (.int sm77), .val (.int ps79)] [])) t → Steps p.tables e below (T76.setTop (mkF m 79 #[.val (.ref a1), .val (.int rk72), .val (.int pl73), .val (.int (4 : Int32)), .val (.int sm77), .val (.int ps79)] [])) t := by
    intro t kt
    subst hrk81
    subst hpl82
    show Steps p.tables e below (T76.setTop (mkF m 79 #[.val (.ref a1), .val (.int rk72), .val (.int pl73), .val (.int (4 : Int32)), .val (.int sm77), .val (.int ps79)] [])) _
    refine XS.iloadN X76.here hx rfl (hb hby d4_79) rfl ?_
    refine XS.iloadN X76.here hx rfl (hb hby d4_80) rfl ?_
    refine XS.iload X76.here hx rfl (hb hby d4_81) rfl ?_
    show Steps p.tables e below (T76.setTop (mkF m 83 #[.val (.ref a1), .val (.int rk72), .val (.int pl73), .val (.int (4 : Int32)), .val (.int sm77), .val (.int ps79)] [(.int ps79), (.int (4 : Int32)), (.int pl73)])) _
    refine XS.iand X76.here hx rfl (hb hby d4_83) rfl ?_
    refine XS.iadd X76.here hx rfl (hb hby d4_84) rfl ?_
    refine XS.istoreN X76.here hx rfl (hb hby d4_85) rfl (l' := #[.val (.ref a1), .val (.int rk72), .val (.int (pl73 + ((4 : Int32) &&& ps79))), .val (.int (4 : Int32)), .val (.int sm77), .val (.int ps79)]) rfl ?_
    show Steps p.tables e below (T76.setTop (mkF m 86 #[.val (.ref a1), .val (.int rk72), .val (.int (pl73 + ((4 : Int32) &&& ps79))), .val (.int (4 : Int32)), .val (.int sm77), .val (.int ps79)] [])) _
    refine XS.iloadN X76.here hx rfl (hb hby d4_86) rfl ?_
    refine XS.iload X76.here hx rfl (hb hby d4_87) rfl ?_
    refine XS.iload X76.here hx rfl (hb hby d4_89) rfl ?_
    show Steps p.tables e below (T76.setTop (mkF m 91 #[.val (.ref a1), .val (.int rk72), .val (.int (pl73 + ((4 : Int32) &&& ps79))), .val (.int (4 : Int32)), .val (.int sm77), .val (.int ps79)] [(.int ps79), (.int sm77), (.int rk72)])) _
    refine XS.iand X76.here hx rfl (hb hby d4_91) rfl ?_
    refine XS.isub X76.here hx rfl (hb hby d4_92) rfl ?_
    refine XS.istoreN X76.here hx rfl (hb hby d4_93) rfl (l' := #[.val (.ref a1), .val (.int (rk72 - (sm77 &&& ps79))), .val (.int (pl73 + ((4 : Int32) &&& ps79))), .val (.int (4 : Int32)), .val (.int sm77), .val (.int ps79)]) rfl ?_
    show Steps p.tables e below (T76.setTop (mkF m 94 #[.val (.ref a1), .val (.int (rk72 - (sm77 &&& ps79))), .val (.int (pl73 + ((4 : Int32) &&& ps79))), .val (.int (4 : Int32)), .val (.int sm77), .val (.int ps79)] [])) _
    refine XS.iloadN X76.here hx rfl (hb hby d4_94) rfl ?_
    refine XS.iconst X76.here hx rfl (hb hby d4_95) ?_
    refine XS.ishr X76.here hx rfl (hb hby d4_96) rfl ?_
    show Steps p.tables e below (T76.setTop (mkF m 97 #[.val (.ref a1), .val (.int (rk72 - (sm77 &&& ps79))), .val (.int (pl73 + ((4 : Int32) &&& ps79))), .val (.int (4 : Int32)), .val (.int sm77), .val (.int ps79)] [(.int (2 : Int32))])) _
    refine XS.istoreN X76.here hx rfl (hb hby d4_97) rfl (l' := #[.val (.ref a1), .val (.int (rk72 - (sm77 &&& ps79))), .val (.int (pl73 + ((4 : Int32) &&& ps79))), .val (.int (2 : Int32)), .val (.int sm77), .val (.int ps79)]) rfl ?_
    refine XS.goto X76.here hx rfl (pc0 := 98) (pc' := 54) rfl (hb hby d4_98) (by decide) (by decide) ?_
    exact kt
  have I84 : own_inv P p1.toInt 4 1024 pl82 rk81 := by
    rw [hpl82, hrk81]
    exact own_step P p1.toInt 4 (1024) (4 : Int32) pl73 rk72 g rfl (by decide) (by decide) (fun q u w => hG 2 (by decide) q u (by omega)) hm hlo hhi hr4 I75 sm77 ps79 hsm77 hps79
  obtain ⟨T85, X85, e85, st85⟩ := getF X76 hx hZ hown (host := "") (Or.inl (hw _ (List.mem_of_getElem? (i := 13) rfl))) Via.refl e76 F1 (g := (mkF m 59 #[.val (.ref a1), .val (.int rk81), .val (.int pl82), .val (.int (2 : Int32)), .val (.int sm77), .val (.int ps79)] [(.ref a1)])) rfl rfl (hb hby d4_59)
  obtain ⟨sm86, hsm86⟩ : ∃ z, z = (g ((pl82 + (2 : Int32))).toNatClampNeg) := ⟨_, rfl⟩
  have c87 : ∀ t, Steps p.tables e below (T85.setTop (mkF m 68 #[.val (.ref a1), .val (.int rk81), .val (.int pl82), .val (.int (2 : Int32)), .val (.int sm86), .val (.int ps79)] [])) t → Steps p.tables e below (T76.setTop (mkF m 54 #[.val (.ref a1), .val (.int rk81), .val (.int pl82), .val (.int (2 : Int32)), .val (.int sm77), .val (.int ps79)] [])) t := by
    intro t kt
    subst hsm86
    show Steps p.tables e below (T76.setTop (mkF m 54 #[.val (.ref a1), .val (.int rk81), .val (.int pl82), .val (.int (2 : Int32)), .val (.int sm77), .val (.int ps79)] [])) _
    refine XS.iloadN X76.here hx rfl (hb hby d4_54) rfl ?_
    refine XS.ifNo X76.here hx rfl (hb hby d4_55) rfl ((if0 _ _).trans (tlt (by decide : (0 : Int32) < (2 : Int32))).2.2.2) ?_
    refine XS.aloadN X76.here hx rfl (hb hby d4_58) rfl rfl ?_
    show Steps p.tables e below (T76.setTop (mkF m 59 #[.val (.ref a1), .val (.int rk81), .val (.int pl82), .val (.int (2 : Int32)), .val (.int sm77), .val (.int ps79)] [(.ref a1)])) _
    refine st85 _ ?_
    refine XS.iloadN X85.here hx rfl (hb hby d4_62) rfl ?_
    refine XS.iloadN X85.here hx rfl (hb hby d4_63) rfl ?_
    show Steps p.tables e below (T85.setTop (mkF m 64 #[.val (.ref a1), .val (.int rk81), .val (.int pl82), .val (.int (2 : Int32)), .val (.int sm77), .val (.int ps79)] [(.int (2 : Int32)), (.int pl82), (.ref b1)])) _
    refine XS.iadd X85.here hx rfl (hb hby d4_64) rfl ?_
    refine own_ldI X85 hx hZ e85 A1 (j := (pl82 + (2 : Int32))) (x := (g ((pl82 + (2 : Int32))).toNatClampNeg)) (own_idx P p1.toInt 2 (1024) 1025 (2 : Int32) pl82 rk81 rfl (by decide) (by decide) (by decide) I84) rfl (g := (mkF m 65 #[.val (.ref a1), .val (.int rk81), .val (.int pl82), .val (.int (2 : Int32)), .val (.int sm77), .val (.int ps79)] [(.int (pl82 + (2 : Int32))), (.ref b1)])) rfl rfl (hb hby d4_65) _ ?_
    refine XS.istore X85.here hx rfl (hb hby d4_66) rfl (l' := #[.val (.ref a1), .val (.int rk81), .val (.int pl82), .val (.int (2 : Int32)), .val (.int (g ((pl82 + (2 : Int32))).toNatClampNeg)), .val (.int ps79)]) rfl ?_
    exact kt
  obtain ⟨ps88, hps88⟩ : ∃ z, z = (((sm86 - rk81) - (1 : Int32)) >>> ((31 : Int32) &&& 31)) := ⟨_, rfl⟩
  have c89 : ∀ t, Steps p.tables e below (T85.setTop (mkF m 79 #[.val (.ref a1), .val (.int rk81), .val (.int pl82), .val (.int (2 : Int32)), .val (.int sm86), .val (.int ps88)] [])) t → Steps p.tables e below (T85.setTop (mkF m 68 #[.val (.ref a1), .val (.int rk81), .val (.int pl82), .val (.int (2 : Int32)), .val (.int sm86), .val (.int ps79)] [])) t := by
    intro t kt
    subst hps88
    show Steps p.tables e below (T85.setTop (mkF m 68 #[.val (.ref a1), .val (.int rk81), .val (.int pl82), .val (.int (2 : Int32)), .val (.int sm86), .val (.int ps79)] [])) _
    refine XS.iload X85.here hx rfl (hb hby d4_68) rfl ?_
    refine XS.iloadN X85.here hx rfl (hb hby d4_70) rfl ?_
    refine XS.isub X85.here hx rfl (hb hby d4_71) rfl ?_
    show Steps p.tables e below (T85.setTop (mkF m 72 #[.val (.ref a1), .val (.int rk81), .val (.int pl82), .val (.int (2 : Int32)), .val (.int sm86), .val (.int ps79)] [(.int (sm86 - rk81))])) _
    refine XS.iconst X85.here hx rfl (hb hby d4_72) ?_
    refine XS.isub X85.here hx rfl (hb hby d4_73) rfl ?_
    refine XS.bipush X85.here hx rfl (hb hby d4_74) ?_
    show Steps p.tables e below (T85.setTop (mkF m 76 #[.val (.ref a1), .val (.int rk81), .val (.int pl82), .val (.int (2 : Int32)), .val (.int sm86), .val (.int ps79)] [(.int (31 : Int32)), (.int ((sm86 - rk81) - (1 : Int32)))])) _
    refine XS.ishr X85.here hx rfl (hb hby d4_76) rfl ?_
    refine XS.istore X85.here hx rfl (hb hby d4_77) rfl (l' := #[.val (.ref a1), .val (.int rk81), .val (.int pl82), .val (.int (2 : Int32)), .val (.int sm86), .val (.int (((sm86 - rk81) - (1 : Int32)) >>> ((31 : Int32) &&& 31)))]) rfl ?_
    exact kt
  obtain ⟨rk90, hrk90⟩ : ∃ z, z = (rk81 - (sm86 &&& ps88)) := ⟨_, rfl⟩
  obtain ⟨pl91, hpl91⟩ : ∃ z, z = (pl82 + ((2 : Int32) &&& ps88)) := ⟨_, rfl⟩
  have c92 : ∀ t, Steps p.tables e below (T85.setTop (mkF m 54 #[.val (.ref a1), .val (.int rk90), .val (.int pl91), .val (.int (1 : Int32)), .val (.int sm86), .val (.int ps88)] [])) t → Steps p.tables e below (T85.setTop (mkF m 79 #[.val (.ref a1), .val (.int rk81), .val (.int pl82), .val (.int (2 : Int32)), .val (.int sm86), .val (.int ps88)] [])) t := by
    intro t kt
    subst hrk90
    subst hpl91
    show Steps p.tables e below (T85.setTop (mkF m 79 #[.val (.ref a1), .val (.int rk81), .val (.int pl82), .val (.int (2 : Int32)), .val (.int sm86), .val (.int ps88)] [])) _
    refine XS.iloadN X85.here hx rfl (hb hby d4_79) rfl ?_
    refine XS.iloadN X85.here hx rfl (hb hby d4_80) rfl ?_
    refine XS.iload X85.here hx rfl (hb hby d4_81) rfl ?_
    show Steps p.tables e below (T85.setTop (mkF m 83 #[.val (.ref a1), .val (.int rk81), .val (.int pl82), .val (.int (2 : Int32)), .val (.int sm86), .val (.int ps88)] [(.int ps88), (.int (2 : Int32)), (.int pl82)])) _
    refine XS.iand X85.here hx rfl (hb hby d4_83) rfl ?_
    refine XS.iadd X85.here hx rfl (hb hby d4_84) rfl ?_
    refine XS.istoreN X85.here hx rfl (hb hby d4_85) rfl (l' := #[.val (.ref a1), .val (.int rk81), .val (.int (pl82 + ((2 : Int32) &&& ps88))), .val (.int (2 : Int32)), .val (.int sm86), .val (.int ps88)]) rfl ?_
    show Steps p.tables e below (T85.setTop (mkF m 86 #[.val (.ref a1), .val (.int rk81), .val (.int (pl82 + ((2 : Int32) &&& ps88))), .val (.int (2 : Int32)), .val (.int sm86), .val (.int ps88)] [])) _
    refine XS.iloadN X85.here hx rfl (hb hby d4_86) rfl ?_
    refine XS.iload X85.here hx rfl (hb hby d4_87) rfl ?_
    refine XS.iload X85.here hx rfl (hb hby d4_89) rfl ?_
    show Steps p.tables e below (T85.setTop (mkF m 91 #[.val (.ref a1), .val (.int rk81), .val (.int (pl82 + ((2 : Int32) &&& ps88))), .val (.int (2 : Int32)), .val (.int sm86), .val (.int ps88)] [(.int ps88), (.int sm86), (.int rk81)])) _
    refine XS.iand X85.here hx rfl (hb hby d4_91) rfl ?_
    refine XS.isub X85.here hx rfl (hb hby d4_92) rfl ?_
    refine XS.istoreN X85.here hx rfl (hb hby d4_93) rfl (l' := #[.val (.ref a1), .val (.int (rk81 - (sm86 &&& ps88))), .val (.int (pl82 + ((2 : Int32) &&& ps88))), .val (.int (2 : Int32)), .val (.int sm86), .val (.int ps88)]) rfl ?_
    show Steps p.tables e below (T85.setTop (mkF m 94 #[.val (.ref a1), .val (.int (rk81 - (sm86 &&& ps88))), .val (.int (pl82 + ((2 : Int32) &&& ps88))), .val (.int (2 : Int32)), .val (.int sm86), .val (.int ps88)] [])) _
    refine XS.iloadN X85.here hx rfl (hb hby d4_94) rfl ?_
    refine XS.iconst X85.here hx rfl (hb hby d4_95) ?_
    refine XS.ishr X85.here hx rfl (hb hby d4_96) rfl ?_
    show Steps p.tables e below (T85.setTop (mkF m 97 #[.val (.ref a1), .val (.int (rk81 - (sm86 &&& ps88))), .val (.int (pl82 + ((2 : Int32) &&& ps88))), .val (.int (2 : Int32)), .val (.int sm86), .val (.int ps88)] [(.int (1 : Int32))])) _
    refine XS.istoreN X85.here hx rfl (hb hby d4_97) rfl (l' := #[.val (.ref a1), .val (.int (rk81 - (sm86 &&& ps88))), .val (.int (pl82 + ((2 : Int32) &&& ps88))), .val (.int (1 : Int32)), .val (.int sm86), .val (.int ps88)]) rfl ?_
    refine XS.goto X85.here hx rfl (pc0 := 98) (pc' := 54) rfl (hb hby d4_98) (by decide) (by decide) ?_
    exact kt
  have I93 : own_inv P p1.toInt 2 1024 pl91 rk90 := by
    rw [hpl91, hrk90]
    exact own_step P p1.toInt 2 (1024) (2 : Int32) pl82 rk81 g rfl (by decide) (by decide) (fun q u w => hG 1 (by decide) q u (by omega)) hm hlo hhi hr4 I84 sm86 ps88 hsm86 hps88
  obtain ⟨T94, X94, e94, st94⟩ := getF X85 hx hZ hown (host := "") (Or.inl (hw _ (List.mem_of_getElem? (i := 13) rfl))) Via.refl e85 F1 (g := (mkF m 59 #[.val (.ref a1), .val (.int rk90), .val (.int pl91), .val (.int (1 : Int32)), .val (.int sm86), .val (.int ps88)] [(.ref a1)])) rfl rfl (hb hby d4_59)
  obtain ⟨sm95, hsm95⟩ : ∃ z, z = (g ((pl91 + (1 : Int32))).toNatClampNeg) := ⟨_, rfl⟩
  have c96 : ∀ t, Steps p.tables e below (T94.setTop (mkF m 68 #[.val (.ref a1), .val (.int rk90), .val (.int pl91), .val (.int (1 : Int32)), .val (.int sm95), .val (.int ps88)] [])) t → Steps p.tables e below (T85.setTop (mkF m 54 #[.val (.ref a1), .val (.int rk90), .val (.int pl91), .val (.int (1 : Int32)), .val (.int sm86), .val (.int ps88)] [])) t := by
    intro t kt
    subst hsm95
    show Steps p.tables e below (T85.setTop (mkF m 54 #[.val (.ref a1), .val (.int rk90), .val (.int pl91), .val (.int (1 : Int32)), .val (.int sm86), .val (.int ps88)] [])) _
    refine XS.iloadN X85.here hx rfl (hb hby d4_54) rfl ?_
    refine XS.ifNo X85.here hx rfl (hb hby d4_55) rfl ((if0 _ _).trans (tlt (by decide : (0 : Int32) < (1 : Int32))).2.2.2) ?_
    refine XS.aloadN X85.here hx rfl (hb hby d4_58) rfl rfl ?_
    show Steps p.tables e below (T85.setTop (mkF m 59 #[.val (.ref a1), .val (.int rk90), .val (.int pl91), .val (.int (1 : Int32)), .val (.int sm86), .val (.int ps88)] [(.ref a1)])) _
    refine st94 _ ?_
    refine XS.iloadN X94.here hx rfl (hb hby d4_62) rfl ?_
    refine XS.iloadN X94.here hx rfl (hb hby d4_63) rfl ?_
    show Steps p.tables e below (T94.setTop (mkF m 64 #[.val (.ref a1), .val (.int rk90), .val (.int pl91), .val (.int (1 : Int32)), .val (.int sm86), .val (.int ps88)] [(.int (1 : Int32)), (.int pl91), (.ref b1)])) _
    refine XS.iadd X94.here hx rfl (hb hby d4_64) rfl ?_
    refine own_ldI X94 hx hZ e94 A1 (j := (pl91 + (1 : Int32))) (x := (g ((pl91 + (1 : Int32))).toNatClampNeg)) (own_idx P p1.toInt 1 (1024) 1025 (1 : Int32) pl91 rk90 rfl (by decide) (by decide) (by decide) I93) rfl (g := (mkF m 65 #[.val (.ref a1), .val (.int rk90), .val (.int pl91), .val (.int (1 : Int32)), .val (.int sm86), .val (.int ps88)] [(.int (pl91 + (1 : Int32))), (.ref b1)])) rfl rfl (hb hby d4_65) _ ?_
    refine XS.istore X94.here hx rfl (hb hby d4_66) rfl (l' := #[.val (.ref a1), .val (.int rk90), .val (.int pl91), .val (.int (1 : Int32)), .val (.int (g ((pl91 + (1 : Int32))).toNatClampNeg)), .val (.int ps88)]) rfl ?_
    exact kt
  obtain ⟨ps97, hps97⟩ : ∃ z, z = (((sm95 - rk90) - (1 : Int32)) >>> ((31 : Int32) &&& 31)) := ⟨_, rfl⟩
  have c98 : ∀ t, Steps p.tables e below (T94.setTop (mkF m 79 #[.val (.ref a1), .val (.int rk90), .val (.int pl91), .val (.int (1 : Int32)), .val (.int sm95), .val (.int ps97)] [])) t → Steps p.tables e below (T94.setTop (mkF m 68 #[.val (.ref a1), .val (.int rk90), .val (.int pl91), .val (.int (1 : Int32)), .val (.int sm95), .val (.int ps88)] [])) t := by
    intro t kt
    subst hps97
    show Steps p.tables e below (T94.setTop (mkF m 68 #[.val (.ref a1), .val (.int rk90), .val (.int pl91), .val (.int (1 : Int32)), .val (.int sm95), .val (.int ps88)] [])) _
    refine XS.iload X94.here hx rfl (hb hby d4_68) rfl ?_
    refine XS.iloadN X94.here hx rfl (hb hby d4_70) rfl ?_
    refine XS.isub X94.here hx rfl (hb hby d4_71) rfl ?_
    show Steps p.tables e below (T94.setTop (mkF m 72 #[.val (.ref a1), .val (.int rk90), .val (.int pl91), .val (.int (1 : Int32)), .val (.int sm95), .val (.int ps88)] [(.int (sm95 - rk90))])) _
    refine XS.iconst X94.here hx rfl (hb hby d4_72) ?_
    refine XS.isub X94.here hx rfl (hb hby d4_73) rfl ?_
    refine XS.bipush X94.here hx rfl (hb hby d4_74) ?_
    show Steps p.tables e below (T94.setTop (mkF m 76 #[.val (.ref a1), .val (.int rk90), .val (.int pl91), .val (.int (1 : Int32)), .val (.int sm95), .val (.int ps88)] [(.int (31 : Int32)), (.int ((sm95 - rk90) - (1 : Int32)))])) _
    refine XS.ishr X94.here hx rfl (hb hby d4_76) rfl ?_
    refine XS.istore X94.here hx rfl (hb hby d4_77) rfl (l' := #[.val (.ref a1), .val (.int rk90), .val (.int pl91), .val (.int (1 : Int32)), .val (.int sm95), .val (.int (((sm95 - rk90) - (1 : Int32)) >>> ((31 : Int32) &&& 31)))]) rfl ?_
    exact kt
  obtain ⟨rk99, hrk99⟩ : ∃ z, z = (rk90 - (sm95 &&& ps97)) := ⟨_, rfl⟩
  obtain ⟨pl100, hpl100⟩ : ∃ z, z = (pl91 + ((1 : Int32) &&& ps97)) := ⟨_, rfl⟩
  have c101 : ∀ t, Steps p.tables e below (T94.setTop (mkF m 54 #[.val (.ref a1), .val (.int rk99), .val (.int pl100), .val (.int (0 : Int32)), .val (.int sm95), .val (.int ps97)] [])) t → Steps p.tables e below (T94.setTop (mkF m 79 #[.val (.ref a1), .val (.int rk90), .val (.int pl91), .val (.int (1 : Int32)), .val (.int sm95), .val (.int ps97)] [])) t := by
    intro t kt
    subst hrk99
    subst hpl100
    show Steps p.tables e below (T94.setTop (mkF m 79 #[.val (.ref a1), .val (.int rk90), .val (.int pl91), .val (.int (1 : Int32)), .val (.int sm95), .val (.int ps97)] [])) _
    refine XS.iloadN X94.here hx rfl (hb hby d4_79) rfl ?_
    refine XS.iloadN X94.here hx rfl (hb hby d4_80) rfl ?_
    refine XS.iload X94.here hx rfl (hb hby d4_81) rfl ?_
    show Steps p.tables e below (T94.setTop (mkF m 83 #[.val (.ref a1), .val (.int rk90), .val (.int pl91), .val (.int (1 : Int32)), .val (.int sm95), .val (.int ps97)] [(.int ps97), (.int (1 : Int32)), (.int pl91)])) _
    refine XS.iand X94.here hx rfl (hb hby d4_83) rfl ?_
    refine XS.iadd X94.here hx rfl (hb hby d4_84) rfl ?_
    refine XS.istoreN X94.here hx rfl (hb hby d4_85) rfl (l' := #[.val (.ref a1), .val (.int rk90), .val (.int (pl91 + ((1 : Int32) &&& ps97))), .val (.int (1 : Int32)), .val (.int sm95), .val (.int ps97)]) rfl ?_
    show Steps p.tables e below (T94.setTop (mkF m 86 #[.val (.ref a1), .val (.int rk90), .val (.int (pl91 + ((1 : Int32) &&& ps97))), .val (.int (1 : Int32)), .val (.int sm95), .val (.int ps97)] [])) _
    refine XS.iloadN X94.here hx rfl (hb hby d4_86) rfl ?_
    refine XS.iload X94.here hx rfl (hb hby d4_87) rfl ?_
    refine XS.iload X94.here hx rfl (hb hby d4_89) rfl ?_
    show Steps p.tables e below (T94.setTop (mkF m 91 #[.val (.ref a1), .val (.int rk90), .val (.int (pl91 + ((1 : Int32) &&& ps97))), .val (.int (1 : Int32)), .val (.int sm95), .val (.int ps97)] [(.int ps97), (.int sm95), (.int rk90)])) _
    refine XS.iand X94.here hx rfl (hb hby d4_91) rfl ?_
    refine XS.isub X94.here hx rfl (hb hby d4_92) rfl ?_
    refine XS.istoreN X94.here hx rfl (hb hby d4_93) rfl (l' := #[.val (.ref a1), .val (.int (rk90 - (sm95 &&& ps97))), .val (.int (pl91 + ((1 : Int32) &&& ps97))), .val (.int (1 : Int32)), .val (.int sm95), .val (.int ps97)]) rfl ?_
    show Steps p.tables e below (T94.setTop (mkF m 94 #[.val (.ref a1), .val (.int (rk90 - (sm95 &&& ps97))), .val (.int (pl91 + ((1 : Int32) &&& ps97))), .val (.int (1 : Int32)), .val (.int sm95), .val (.int ps97)] [])) _
    refine XS.iloadN X94.here hx rfl (hb hby d4_94) rfl ?_
    refine XS.iconst X94.here hx rfl (hb hby d4_95) ?_
    refine XS.ishr X94.here hx rfl (hb hby d4_96) rfl ?_
    show Steps p.tables e below (T94.setTop (mkF m 97 #[.val (.ref a1), .val (.int (rk90 - (sm95 &&& ps97))), .val (.int (pl91 + ((1 : Int32) &&& ps97))), .val (.int (1 : Int32)), .val (.int sm95), .val (.int ps97)] [(.int (0 : Int32))])) _
    refine XS.istoreN X94.here hx rfl (hb hby d4_97) rfl (l' := #[.val (.ref a1), .val (.int (rk90 - (sm95 &&& ps97))), .val (.int (pl91 + ((1 : Int32) &&& ps97))), .val (.int (0 : Int32)), .val (.int sm95), .val (.int ps97)]) rfl ?_
    refine XS.goto X94.here hx rfl (pc0 := 98) (pc' := 54) rfl (hb hby d4_98) (by decide) (by decide) ?_
    exact kt
  have I102 : own_inv P p1.toInt 1 1024 pl100 rk99 := by
    rw [hpl100, hrk99]
    exact own_step P p1.toInt 1 (1024) (1 : Int32) pl91 rk90 g rfl (by decide) (by decide) (fun q u w => hG 0 (by decide) q u (by omega)) hm hlo hhi hr4 I93 sm95 ps97 hsm95 hps97
  obtain ⟨zr, hzr⟩ : ∃ z : Int64, z = (((pl100.toInt64) <<< ((32 : Int32) &&& 0x3f).toInt64) ||| (rk99.toInt64)) := ⟨_, rfl⟩
  obtain ⟨fs, hr, hrun, hended, hW, hsame⟩ := X94.leave (v := some (.long zr)) (fun h => by rw [Bd.returns] at h; cases h)
  refine ⟨_, _, pre0 _ (c5 _ (c7 _ (c10 _ (c15 _ (c17 _ (c20 _ (c24 _ (c26 _ (c29 _ (c33 _ (c35 _ (c38 _ (c42 _ (c44 _ (c47 _ (c51 _ (c53 _ (c56 _ (c60 _ (c62 _ (c65 _ (c69 _ (c71 _ (c74 _ (c78 _ (c80 _ (c83 _ (c87 _ (c89 _ (c92 _ (c96 _ (c98 _ (c101 _ (?_)))))))))))))))))))))))))))))))))), hrun, hended, _, _, rfl, ?_, ⟨_, rfl⟩, hW, hsame.mono (by decide) (by decide)⟩
  · show Steps p.tables e below (T94.setTop (mkF m 54 #[.val (.ref a1), .val (.int rk99), .val (.int pl100), .val (.int (0 : Int32)), .val (.int sm95), .val (.int ps97)] [])) _
    refine XS.iloadN X94.here hx rfl (hb hby d4_54) rfl ?_
    refine XS.ifYes X94.here hx rfl (pc0 := 55) (pc' := 101) rfl (hb hby d4_55) rfl ((if0 _ _).trans (flt (by decide : ¬ ((0 : Int32) < (0 : Int32)))).2.2.2) (by decide) (by decide) ?_
    refine XS.iloadN X94.here hx rfl (hb hby d4_101) rfl ?_
    show Steps p.tables e below (T94.setTop (mkF m 102 #[.val (.ref a1), .val (.int rk99), .val (.int pl100), .val (.int (0 : Int32)), .val (.int sm95), .val (.int ps97)] [(.int pl100)])) _
    refine XS.i2l X94.here hx rfl (hb hby d4_102) rfl ?_
    refine XS.bipush X94.here hx rfl (hb hby d4_103) ?_
    refine XS.lshl X94.here hx rfl (hb hby d4_105) rfl ?_
    show Steps p.tables e below (T94.setTop (mkF m 106 #[.val (.ref a1), .val (.int rk99), .val (.int pl100), .val (.int (0 : Int32)), .val (.int sm95), .val (.int ps97)] [(.long ((pl100.toInt64) <<< ((32 : Int32) &&& 0x3f).toInt64))])) _
    refine XS.iloadN X94.here hx rfl (hb hby d4_106) rfl ?_
    refine XS.i2l X94.here hx rfl (hb hby d4_107) rfl ?_
    refine XS.lor X94.here hx rfl (hb hby d4_108) rfl ?_
    show Steps p.tables e below (T94.setTop (mkF m 109 #[.val (.ref a1), .val (.int rk99), .val (.int pl100), .val (.int (0 : Int32)), .val (.int sm95), .val (.int ps97)] [(.long (((pl100.toInt64) <<< ((32 : Int32) &&& 0x3f).toInt64) ||| (rk99.toInt64)))])) _
    rw [← hzr]
    jvm_step X94.here [X94.here.top, hx, (hb hby d4_109), X94.method', Bd.returns, narrow]
    first | (intro acts; rw [hr _ acts rfl rfl rfl]) | rw [hr _ _ rfl rfl rfl]
    exact Steps.refl _
  · show QrmL_1024 Z a1 b1 p1 g P h0 n0 _ T94.heap _
    rw [e94]; subst hzr
    exact ⟨_, _, _, rfl, N0, rfl, I102⟩
theorem pn_com_example_ebbtide_ebbtide_cluster_PlaceCountsLocatePinLaw : plainName "com/example/ebbtide/ebbtide/cluster/PlaceCountsLocatePinLaw" = true := by first | (simp [plainName, overriddenIn]; done) | decide +kernel
theorem pd__28I_29V : parseMethodDescriptor "(I)V" = some ⟨[.int], none⟩ := by decide +kernel
theorem pd__28II_29V : parseMethodDescriptor "(II)V" = some ⟨[.int, .int], none⟩ := by decide +kernel
theorem pd__28I_29J : parseMethodDescriptor "(I)J" = some ⟨[.int], some .long⟩ := by decide +kernel
theorem ef_rm0 (m : MethodId) (x0 : Int32) (x1 : Int32) (x2 : Int32) (x3 : Int32) (x4 : Int32) (x5 : Int32) : entryFrame m #[(.int x0), (.int x1), (.int x2), (.int x3), (.int x4), (.int x5)] maxLocals = mkF m 0 #[.val (.int x0), .val (.int x1), .val (.int x2), .val (.int x3), .val (.int x4), .val (.int x5), .unset, .unset, .unset, .unset, .unset, .unset, .unset, .unset, .unset, .unset, .unset, .unset, .unset, .unset, .unset, .unset, .unset] [] := by first | (simp [entryFrame, mkF, argsToLocals, Value.category, maxLocals]; done) | rfl
def Qrm0 (Z : State) (p1 p2 p3 p4 p5 p6 : Int32) (h0 : Heap) (n0 : Nat) (v : Option Value) (h : Heap) (L : List Loc) : Prop := v = some (.int 1) ∧ Fr n0 L
set_option maxRecDepth 65536 in
set_option maxHeartbeats 40000000 in
theorem rm0 (l : Launch) (Z : State) (a0 : Array Value) (hw : ∀ d ∈ tables_1, d.before a0 Z = true) (ws : List Jvm.Cond) (p1 p2 p3 p4 p5 p6 : Int32) (h0 : Heap) (n0 : Nat) (Z0 : n0 ≤ h0.size) (Z1 : h0.size ≤ n0) :
    MetFree l x (head1 (Jvm.Cond.code x code maxLocals ret :: ws) room_1) (fun a U => a = #[(.int p1), (.int p2), (.int p3), (.int p4), (.int p5), (.int p6)] ∧ Z.Warmed39 U.vm ∧ U.heap = h0) (fun _ _ _ _ _ => True) (fun _ U o U' => ∃ v L, o = .returned v ∧ Qrm0 Z p1 p2 p3 p4 p5 p6 h0 n0 v U'.heap L ∧ FrameEnd U o U' L room_1.cells room_1.slots) := by
  refine MetFree.of_bodySF (plainFor_of_name pn_com_example_ebbtide_ebbtide_cluster_PlaceCountsLocatePinLaw) hisR ?_
  intro p e s m args below meth c s₁ Bd hml0 hP hK
  obtain ⟨rfl, hZ, hh⟩ := hP
  have hx := Bd.exec
  have hby := Bd.bytes
  have hml : c.maxLocals = 23 := hml0
  have hown : s.vm.findClass "com/example/ebbtide/ebbtide/cluster/PlaceCountsLocatePinLaw" = some m.cls := findClass_of_methodNamed Bd.named
  have hnm := (name_of_methodNamed Bd.named Bd.method).1
  have X0 : Stand p l e room_1 s m #[(.int p1), (.int p2), (.int p3), (.int p4), (.int p5), (.int p6)] below meth c s₁ [] 0 0 := Stand.of_body Bd
  have e0 : s₁.heap = h0 := by rw [← hh, Bd.state]; rfl
  have N0 := Fr.nil n0
  have pre0 : ∀ t, Steps p.tables e below (s₁.setTop (mkF m 0 #[.val (.int p1), .val (.int p2), .val (.int p3), .val (.int p4), .val (.int p5), .val (.int p6), .unset, .unset, .unset, .unset, .unset, .unset, .unset, .unset, .unset, .unset, .unset, .unset, .unset, .unset, .unset, .unset, .unset] [])) t → Steps p.tables e below (s₁.setTop (entryFrame m #[(.int p1), (.int p2), (.int p3), (.int p4), (.int p5), (.int p6)] maxLocals)) t := fun t k => castTop (ef_rm0 m p1 p2 p3 p4 p5 p6) k
  have Z0' : h0.size ≤ n0 := Z1
  have c1 : ∀ t, Steps p.tables e below (s₁.setTop (mkF m 7 #[.val (.int p1), .val (.int p2), .val (.int p3), .val (.int p4), .val (.int p5), .val (.int p6), .val (.int (p1 &&& (3 : Int32))), .unset, .unset, .unset, .unset, .unset, .unset, .unset, .unset, .unset, .unset, .unset, .unset, .unset, .unset, .unset, .unset] [(.int (p1 &&& (3 : Int32)))])) t → Steps p.tables e below (s₁.setTop (mkF m 0 #[.val (.int p1), .val (.int p2), .val (.int p3), .val (.int p4), .val (.int p5), .val (.int p6), .unset, .unset, .unset, .unset, .unset, .unset, .unset, .unset, .unset, .unset, .unset, .unset, .unset, .unset, .unset, .unset, .unset] [])) t := by
    intro t kt
    show Steps p.tables e below (s₁.setTop (mkF m 0 #[.val (.int p1), .val (.int p2), .val (.int p3), .val (.int p4), .val (.int p5), .val (.int p6), .unset, .unset, .unset, .unset, .unset, .unset, .unset, .unset, .unset, .unset, .unset, .unset, .unset, .unset, .unset, .unset, .unset] [])) _
    refine XS.iloadN X0.here hx rfl (hb hby at_0) rfl ?_
    refine XS.iconst X0.here hx rfl (hb hby at_1) ?_
    refine XS.iand X0.here hx rfl (hb hby at_2) rfl ?_
    show Steps p.tables e below (s₁.setTop (mkF m 3 #[.val (.int p1), .val (.int p2), .val (.int p3), .val (.int p4), .val (.int p5), .val (.int p6), .unset, .unset, .unset, .unset, .unset, .unset, .unset, .unset, .unset, .unset, .unset, .unset, .unset, .unset, .unset, .unset, .unset] [(.int (p1 &&& (3 : Int32)))])) _
    refine XS.istore X0.here hx rfl (hb hby at_3) rfl (l' := #[.val (.int p1), .val (.int p2), .val (.int p3), .val (.int p4), .val (.int p5), .val (.int p6), .val (.int (p1 &&& (3 : Int32))), .unset, .unset, .unset, .unset, .unset, .unset, .unset, .unset, .unset, .unset, .unset, .unset, .unset, .unset, .unset, .unset]) rfl ?_
    refine XS.iload X0.here hx rfl (hb hby at_5) rfl ?_
    exact kt
  by_cases hc7 : (p1 &&& (3 : Int32)) = (0 : Int32)
  · obtain ⟨x2, hx2⟩ : ∃ z, z = ((p2 &&& (2147483647 : Int32)) % (254 : Int32)) := ⟨_, rfl⟩
    have c3 : ∀ t, Steps p.tables e below (s₁.setTop (mkF m 62 #[.val (.int p1), .val (.int p2), .val (.int p3), .val (.int p4), .val (.int p5), .val (.int p6), .val (.int (p1 &&& (3 : Int32))), .val (.int (256 : Int32)), .val (.int x2), .unset, .unset, .unset, .unset, .unset, .unset, .unset, .unset, .unset, .unset, .unset, .unset, .unset, .unset] [])) t → Steps p.tables e below (s₁.setTop (mkF m 7 #[.val (.int p1), .val (.int p2), .val (.int p3), .val (.int p4), .val (.int p5), .val (.int p6), .val (.int (p1 &&& (3 : Int32))), .unset, .unset, .unset, .unset, .unset, .unset, .unset, .unset, .unset, .unset, .unset, .unset, .unset, .unset, .unset, .unset] [(.int (p1 &&& (3 : Int32)))])) t := by
      intro t kt
      subst hx2
      show Steps p.tables e below (s₁.setTop (mkF m 7 #[.val (.int p1), .val (.int p2), .val (.int p3), .val (.int p4), .val (.int p5), .val (.int p6), .val (.int (p1 &&& (3 : Int32))), .unset, .unset, .unset, .unset, .unset, .unset, .unset, .unset, .unset, .unset, .unset, .unset, .unset, .unset, .unset, .unset] [(.int (p1 &&& (3 : Int32)))])) _
      refine XS.ifNo X0.here hx rfl (hb hby at_7) rfl ((if0 _ _).trans (teq hc7).2) ?_
      refine XS.sipush X0.here hx rfl (hb hby at_10) ?_
      refine XS.istore X0.here hx rfl (hb hby at_13) rfl (l' := #[.val (.int p1), .val (.int p2), .val (.int p3), .val (.int p4), .val (.int p5), .val (.int p6), .val (.int (p1 &&& (3 : Int32))), .val (.int (256 : Int32)), .unset, .unset, .unset, .unset, .unset, .unset, .unset, .unset, .unset, .unset, .unset, .unset, .unset, .unset, .unset]) rfl ?_
      show Steps p.tables e below (s₁.setTop (mkF m 15 #[.val (.int p1), .val (.int p2), .val (.int p3), .val (.int p4), .val (.int p5), .val (.int p6), .val (.int (p1 &&& (3 : Int32))), .val (.int (256 : Int32)), .unset, .unset, .unset, .unset, .unset, .unset, .unset, .unset, .unset, .unset, .unset, .unset, .unset, .unset, .unset] [])) _
      refine XS.goto X0.here hx rfl (pc0 := 15) (pc' := 51) rfl (hb hby at_15) (by decide) (by decide) ?_
      refine XS.iloadN X0.here hx rfl (hb hby at_51) rfl ?_
      refine X0.ldcInt hx hown (mvT hZ (hw _ (List.mem_of_getElem? (i := 0) rfl))) (g := (mkF m 52 #[.val (.int p1), .val (.int p2), .val (.int p3), .val (.int p4), .val (.int p5), .val (.int p6), .val (.int (p1 &&& (3 : Int32))), .val (.int (256 : Int32)), .unset, .unset, .unset, .unset, .unset, .unset, .unset, .unset, .unset, .unset, .unset, .unset, .unset, .unset, .unset] [(.int p2)])) rfl (hb hby at_52) _ ?_
      show Steps p.tables e below (s₁.setTop (mkF m 54 #[.val (.int p1), .val (.int p2), .val (.int p3), .val (.int p4), .val (.int p5), .val (.int p6), .val (.int (p1 &&& (3 : Int32))), .val (.int (256 : Int32)), .unset, .unset, .unset, .unset, .unset, .unset, .unset, .unset, .unset, .unset, .unset, .unset, .unset, .unset, .unset] [(.int (2147483647 : Int32)), (.int p2)])) _
      refine XS.iand X0.here hx rfl (hb hby at_54) rfl ?_
      refine XS.iload X0.here hx rfl (hb hby at_55) rfl ?_
      refine XS.iconst X0.here hx rfl (hb hby at_57) ?_
      show Steps p.tables e below (s₁.setTop (mkF m 58 #[.val (.int p1), .val (.int p2), .val (.int p3), .val (.int p4), .val (.int p5), .val (.int p6), .val (.int (p1 &&& (3 : Int32))), .val (.int (256 : Int32)), .unset, .unset, .unset, .unset, .unset, .unset, .unset, .unset, .unset, .unset, .unset, .unset, .unset, .unset, .unset] [(.int (2 : Int32)), (.int (256 : Int32)), (.int (p2 &&& (2147483647 : Int32)))])) _
      refine XS.isub X0.here hx rfl (hb hby at_58) rfl ?_
      refine Jvm.RoadKit.iremM (g := (mkF m 59 #[.val (.int p1), .val (.int p2), .val (.int p3), .val (.int p4), .val (.int p5), .val (.int p6), .val (.int (p1 &&& (3 : Int32))), .val (.int (256 : Int32)), .unset, .unset, .unset, .unset, .unset, .unset, .unset, .unset, .unset, .unset, .unset, .unset, .unset, .unset, .unset] [(.int (254 : Int32)), (.int (p2 &&& (2147483647 : Int32)))])) X0 hx rfl (hb hby at_59) rfl (by decide) ?_
      refine XS.istore X0.here hx rfl (hb hby at_60) rfl (l' := #[.val (.int p1), .val (.int p2), .val (.int p3), .val (.int p4), .val (.int p5), .val (.int p6), .val (.int (p1 &&& (3 : Int32))), .val (.int (256 : Int32)), .val (.int ((p2 &&& (2147483647 : Int32)) % (254 : Int32))), .unset, .unset, .unset, .unset, .unset, .unset, .unset, .unset, .unset, .unset, .unset, .unset, .unset, .unset]) rfl ?_
      exact kt
    have Rx2 : 0 ≤ x2.toInt ∧ x2.toInt < 254 := by rw [hx2]; exact own_mod _ _ (by decide)
    have Sx2 : ((254 : Int32) - x2).toInt = 254 - x2.toInt := Jvm.Kit.i32_sub (by show -2 ^ 31 ≤ (254 : Int) - _; omega) (by show (254 : Int) - _ < 2 ^ 31; omega)
    obtain ⟨y4, hy4⟩ : ∃ z, z = ((x2 + (1 : Int32)) + ((p3 &&& (2147483647 : Int32)) % ((254 : Int32) - x2))) := ⟨_, rfl⟩
    have c5 : ∀ t, Steps p.tables e below (s₁.setTop (mkF m 81 #[.val (.int p1), .val (.int p2), .val (.int p3), .val (.int p4), .val (.int p5), .val (.int p6), .val (.int (p1 &&& (3 : Int32))), .val (.int (256 : Int32)), .val (.int x2), .val (.int y4), .unset, .unset, .unset, .unset, .unset, .unset, .unset, .unset, .unset, .unset, .unset, .unset, .unset] [])) t → Steps p.tables e below (s₁.setTop (mkF m 62 #[.val (.int p1), .val (.int p2), .val (.int p3), .val (.int p4), .val (.int p5), .val (.int p6), .val (.int (p1 &&& (3 : Int32))), .val (.int (256 : Int32)), .val (.int x2), .unset, .unset, .unset, .unset, .unset, .unset, .unset, .unset, .unset, .unset, .unset, .unset, .unset, .unset] [])) t := by
      intro t kt
      subst hy4
      show Steps p.tables e below (s₁.setTop (mkF m 62 #[.val (.int p1), .val (.int p2), .val (.int p3), .val (.int p4), .val (.int p5), .val (.int p6), .val (.int (p1 &&& (3 : Int32))), .val (.int (256 : Int32)), .val (.int x2), .unset, .unset, .unset, .unset, .unset, .unset, .unset, .unset, .unset, .unset, .unset, .unset, .unset, .unset] [])) _
      refine XS.iload X0.here hx rfl (hb hby at_62) rfl ?_
      refine XS.iconst X0.here hx rfl (hb hby at_64) ?_
      refine XS.iadd X0.here hx rfl (hb hby at_65) rfl ?_
      show Steps p.tables e below (s₁.setTop (mkF m 66 #[.val (.int p1), .val (.int p2), .val (.int p3), .val (.int p4), .val (.int p5), .val (.int p6), .val (.int (p1 &&& (3 : Int32))), .val (.int (256 : Int32)), .val (.int x2), .unset, .unset, .unset, .unset, .unset, .unset, .unset, .unset, .unset, .unset, .unset, .unset, .unset, .unset] [(.int (x2 + (1 : Int32)))])) _
      refine XS.iloadN X0.here hx rfl (hb hby at_66) rfl ?_
      refine X0.ldcInt hx hown (mvT hZ (hw _ (List.mem_of_getElem? (i := 0) rfl))) (g := (mkF m 67 #[.val (.int p1), .val (.int p2), .val (.int p3), .val (.int p4), .val (.int p5), .val (.int p6), .val (.int (p1 &&& (3 : Int32))), .val (.int (256 : Int32)), .val (.int x2), .unset, .unset, .unset, .unset, .unset, .unset, .unset, .unset, .unset, .unset, .unset, .unset, .unset, .unset] [(.int p3), (.int (x2 + (1 : Int32)))])) rfl (hb hby at_67) _ ?_
      refine XS.iand X0.here hx rfl (hb hby at_69) rfl ?_
      show Steps p.tables e below (s₁.setTop (mkF m 70 #[.val (.int p1), .val (.int p2), .val (.int p3), .val (.int p4), .val (.int p5), .val (.int p6), .val (.int (p1 &&& (3 : Int32))), .val (.int (256 : Int32)), .val (.int x2), .unset, .unset, .unset, .unset, .unset, .unset, .unset, .unset, .unset, .unset, .unset, .unset, .unset, .unset] [(.int (p3 &&& (2147483647 : Int32))), (.int (x2 + (1 : Int32)))])) _
      refine XS.iload X0.here hx rfl (hb hby at_70) rfl ?_
      refine XS.iconst X0.here hx rfl (hb hby at_72) ?_
      refine XS.isub X0.here hx rfl (hb hby at_73) rfl ?_
      show Steps p.tables e below (s₁.setTop (mkF m 74 #[.val (.int p1), .val (.int p2), .val (.int p3), .val (.int p4), .val (.int p5), .val (.int p6), .val (.int (p1 &&& (3 : Int32))), .val (.int (256 : Int32)), .val (.int x2), .unset, .unset, .unset, .unset, .unset, .unset, .unset, .unset, .unset, .unset, .unset, .unset, .unset, .unset] [(.int (254 : Int32)), (.int (p3 &&& (2147483647 : Int32))), (.int (x2 + (1 : Int32)))])) _
      refine XS.iload X0.here hx rfl (hb hby at_74) rfl ?_
      refine XS.isub X0.here hx rfl (hb hby at_76) rfl ?_
      refine Jvm.RoadKit.iremM (g := (mkF m 77 #[.val (.int p1), .val (.int p2), .val (.int p3), .val (.int p4), .val (.int p5), .val (.int p6), .val (.int (p1 &&& (3 : Int32))), .val (.int (256 : Int32)), .val (.int x2), .unset, .unset, .unset, .unset, .unset, .unset, .unset, .unset, .unset, .unset, .unset, .unset, .unset, .unset] [(.int ((254 : Int32) - x2)), (.int (p3 &&& (2147483647 : Int32))), (.int (x2 + (1 : Int32)))])) X0 hx rfl (hb hby at_77) rfl (own_nz (by omega)) ?_
      show Steps p.tables e below (s₁.setTop (mkF m 78 #[.val (.int p1), .val (.int p2), .val (.int p3), .val (.int p4), .val (.int p5), .val (.int p6), .val (.int (p1 &&& (3 : Int32))), .val (.int (256 : Int32)), .val (.int x2), .unset, .unset, .unset, .unset, .unset, .unset, .unset, .unset, .unset, .unset, .unset, .unset, .unset, .unset] [(.int ((p3 &&& (2147483647 : Int32)) % ((254 : Int32) - x2))), (.int (x2 + (1 : Int32)))])) _
      refine XS.iadd X0.here hx rfl (hb hby at_78) rfl ?_
      refine XS.istore X0.here hx rfl (hb hby at_79) rfl (l' := #[.val (.int p1), .val (.int p2), .val (.int p3), .val (.int p4), .val (.int p5), .val (.int p6), .val (.int (p1 &&& (3 : Int32))), .val (.int (256 : Int32)), .val (.int x2), .val (.int ((x2 + (1 : Int32)) + ((p3 &&& (2147483647 : Int32)) % ((254 : Int32) - x2)))), .unset, .unset, .unset, .unset, .unset, .unset, .unset, .unset, .unset, .unset, .unset, .unset, .unset]) rfl ?_
      exact kt
    have My4 := own_mod p3 ((254 : Int32) - x2) (by omega)
    have Ry4 : x2.toInt < y4.toInt ∧ y4.toInt < 255 := by
      have o1 : (x2 + (1 : Int32)).toInt = x2.toInt + 1 := Jvm.Kit.i32_add (by show -2 ^ 31 ≤ x2.toInt + 1; omega) (by show x2.toInt + 1 < 2 ^ 31; omega)
      rw [hy4, Jvm.Kit.i32_add (by omega) (by omega), o1]; omega
    have Sy4 : ((255 : Int32) - y4).toInt = 255 - y4.toInt := Jvm.Kit.i32_sub (by show -2 ^ 31 ≤ (255 : Int) - _; omega) (by show (255 : Int) - _ < 2 ^ 31; omega)
    obtain ⟨z6, hz6⟩ : ∃ z, z = ((y4 + (1 : Int32)) + ((p4 &&& (2147483647 : Int32)) % ((255 : Int32) - y4))) := ⟨_, rfl⟩
    have c7 : ∀ t, Steps p.tables e below (s₁.setTop (mkF m 100 #[.val (.int p1), .val (.int p2), .val (.int p3), .val (.int p4), .val (.int p5), .val (.int p6), .val (.int (p1 &&& (3 : Int32))), .val (.int (256 : Int32)), .val (.int x2), .val (.int y4), .val (.int z6), .unset, .unset, .unset, .unset, .unset, .unset, .unset, .unset, .unset, .unset, .unset, .unset] [])) t → Steps p.tables e below (s₁.setTop (mkF m 81 #[.val (.int p1), .val (.int p2), .val (.int p3), .val (.int p4), .val (.int p5), .val (.int p6), .val (.int (p1 &&& (3 : Int32))), .val (.int (256 : Int32)), .val (.int x2), .val (.int y4), .unset, .unset, .unset, .unset, .unset, .unset, .unset, .unset, .unset, .unset, .unset, .unset, .unset] [])) t := by
      intro t kt
      subst hz6
      show Steps p.tables e below (s₁.setTop (mkF m 81 #[.val (.int p1), .val (.int p2), .val (.int p3), .val (.int p4), .val (.int p5), .val (.int p6), .val (.int (p1 &&& (3 : Int32))), .val (.int (256 : Int32)), .val (.int x2), .val (.int y4), .unset, .unset, .unset, .unset, .unset, .unset, .unset, .unset, .unset, .unset, .unset, .unset, .unset] [])) _
      refine XS.iload X0.here hx rfl (hb hby at_81) rfl ?_
      refine XS.iconst X0.here hx rfl (hb hby at_83) ?_
      refine XS.iadd X0.here hx rfl (hb hby at_84) rfl ?_
      show Steps p.tables e below (s₁.setTop (mkF m 85 #[.val (.int p1), .val (.int p2), .val (.int p3), .val (.int p4), .val (.int p5), .val (.int p6), .val (.int (p1 &&& (3 : Int32))), .val (.int (256 : Int32)), .val (.int x2), .val (.int y4), .unset, .unset, .unset, .unset, .unset, .unset, .unset, .unset, .unset, .unset, .unset, .unset, .unset] [(.int (y4 + (1 : Int32)))])) _
      refine XS.iloadN X0.here hx rfl (hb hby at_85) rfl ?_
      refine X0.ldcInt hx hown (mvT hZ (hw _ (List.mem_of_getElem? (i := 0) rfl))) (g := (mkF m 86 #[.val (.int p1), .val (.int p2), .val (.int p3), .val (.int p4), .val (.int p5), .val (.int p6), .val (.int (p1 &&& (3 : Int32))), .val (.int (256 : Int32)), .val (.int x2), .val (.int y4), .unset, .unset, .unset, .unset, .unset, .unset, .unset, .unset, .unset, .unset, .unset, .unset, .unset] [(.int p4), (.int (y4 + (1 : Int32)))])) rfl (hb hby at_86) _ ?_
      refine XS.iand X0.here hx rfl (hb hby at_88) rfl ?_
      show Steps p.tables e below (s₁.setTop (mkF m 89 #[.val (.int p1), .val (.int p2), .val (.int p3), .val (.int p4), .val (.int p5), .val (.int p6), .val (.int (p1 &&& (3 : Int32))), .val (.int (256 : Int32)), .val (.int x2), .val (.int y4), .unset, .unset, .unset, .unset, .unset, .unset, .unset, .unset, .unset, .unset, .unset, .unset, .unset] [(.int (p4 &&& (2147483647 : Int32))), (.int (y4 + (1 : Int32)))])) _
      refine XS.iload X0.here hx rfl (hb hby at_89) rfl ?_
      refine XS.iconst X0.here hx rfl (hb hby at_91) ?_
      refine XS.isub X0.here hx rfl (hb hby at_92) rfl ?_
      show Steps p.tables e below (s₁.setTop (mkF m 93 #[.val (.int p1), .val (.int p2), .val (.int p3), .val (.int p4), .val (.int p5), .val (.int p6), .val (.int (p1 &&& (3 : Int32))), .val (.int (256 : Int32)), .val (.int x2), .val (.int y4), .unset, .unset, .unset, .unset, .unset, .unset, .unset, .unset, .unset, .unset, .unset, .unset, .unset] [(.int (255 : Int32)), (.int (p4 &&& (2147483647 : Int32))), (.int (y4 + (1 : Int32)))])) _
      refine XS.iload X0.here hx rfl (hb hby at_93) rfl ?_
      refine XS.isub X0.here hx rfl (hb hby at_95) rfl ?_
      refine Jvm.RoadKit.iremM (g := (mkF m 96 #[.val (.int p1), .val (.int p2), .val (.int p3), .val (.int p4), .val (.int p5), .val (.int p6), .val (.int (p1 &&& (3 : Int32))), .val (.int (256 : Int32)), .val (.int x2), .val (.int y4), .unset, .unset, .unset, .unset, .unset, .unset, .unset, .unset, .unset, .unset, .unset, .unset, .unset] [(.int ((255 : Int32) - y4)), (.int (p4 &&& (2147483647 : Int32))), (.int (y4 + (1 : Int32)))])) X0 hx rfl (hb hby at_96) rfl (own_nz (by omega)) ?_
      show Steps p.tables e below (s₁.setTop (mkF m 97 #[.val (.int p1), .val (.int p2), .val (.int p3), .val (.int p4), .val (.int p5), .val (.int p6), .val (.int (p1 &&& (3 : Int32))), .val (.int (256 : Int32)), .val (.int x2), .val (.int y4), .unset, .unset, .unset, .unset, .unset, .unset, .unset, .unset, .unset, .unset, .unset, .unset, .unset] [(.int ((p4 &&& (2147483647 : Int32)) % ((255 : Int32) - y4))), (.int (y4 + (1 : Int32)))])) _
      refine XS.iadd X0.here hx rfl (hb hby at_97) rfl ?_
      refine XS.istore X0.here hx rfl (hb hby at_98) rfl (l' := #[.val (.int p1), .val (.int p2), .val (.int p3), .val (.int p4), .val (.int p5), .val (.int p6), .val (.int (p1 &&& (3 : Int32))), .val (.int (256 : Int32)), .val (.int x2), .val (.int y4), .val (.int ((y4 + (1 : Int32)) + ((p4 &&& (2147483647 : Int32)) % ((255 : Int32) - y4)))), .unset, .unset, .unset, .unset, .unset, .unset, .unset, .unset, .unset, .unset, .unset, .unset]) rfl ?_
      exact kt
    have Mz6 := own_mod p4 ((255 : Int32) - y4) (by omega)
    have Rz6 : y4.toInt < z6.toInt ∧ z6.toInt < 256 := by
      have o1 : (y4 + (1 : Int32)).toInt = y4.toInt + 1 := Jvm.Kit.i32_add (by show -2 ^ 31 ≤ y4.toInt + 1; omega) (by show y4.toInt + 1 < 2 ^ 31; omega)
      rw [hz6, Jvm.Kit.i32_add (by omega) (by omega), o1]; omega
    obtain ⟨c8, hc8⟩ : ∃ z, z = (p5 &&& (1023 : Int32)) := ⟨_, rfl⟩
    have c9 : ∀ t, Steps p.tables e below (s₁.setTop (mkF m 108 #[.val (.int p1), .val (.int p2), .val (.int p3), .val (.int p4), .val (.int p5), .val (.int p6), .val (.int (p1 &&& (3 : Int32))), .val (.int (256 : Int32)), .val (.int x2), .val (.int y4), .val (.int z6), .val (.int c8), .unset, .unset, .unset, .unset, .unset, .unset, .unset, .unset, .unset, .unset, .unset] [])) t → Steps p.tables e below (s₁.setTop (mkF m 100 #[.val (.int p1), .val (.int p2), .val (.int p3), .val (.int p4), .val (.int p5), .val (.int p6), .val (.int (p1 &&& (3 : Int32))), .val (.int (256 : Int32)), .val (.int x2), .val (.int y4), .val (.int z6), .unset, .unset, .unset, .unset, .unset, .unset, .unset, .unset, .unset, .unset, .unset, .unset] [])) t := by
      intro t kt
      subst hc8
      show Steps p.tables e below (s₁.setTop (mkF m 100 #[.val (.int p1), .val (.int p2), .val (.int p3), .val (.int p4), .val (.int p5), .val (.int p6), .val (.int (p1 &&& (3 : Int32))), .val (.int (256 : Int32)), .val (.int x2), .val (.int y4), .val (.int z6), .unset, .unset, .unset, .unset, .unset, .unset, .unset, .unset, .unset, .unset, .unset, .unset] [])) _
      refine XS.iload X0.here hx rfl (hb hby at_100) rfl ?_
      refine XS.sipush X0.here hx rfl (hb hby at_102) ?_
      refine XS.iand X0.here hx rfl (hb hby at_105) rfl ?_
      show Steps p.tables e below (s₁.setTop (mkF m 106 #[.val (.int p1), .val (.int p2), .val (.int p3), .val (.int p4), .val (.int p5), .val (.int p6), .val (.int (p1 &&& (3 : Int32))), .val (.int (256 : Int32)), .val (.int x2), .val (.int y4), .val (.int z6), .unset, .unset, .unset, .unset, .unset, .unset, .unset, .unset, .unset, .unset, .unset, .unset] [(.int (p5 &&& (1023 : Int32)))])) _
      refine XS.istore X0.here hx rfl (hb hby at_106) rfl (l' := #[.val (.int p1), .val (.int p2), .val (.int p3), .val (.int p4), .val (.int p5), .val (.int p6), .val (.int (p1 &&& (3 : Int32))), .val (.int (256 : Int32)), .val (.int x2), .val (.int y4), .val (.int z6), .val (.int (p5 &&& (1023 : Int32))), .unset, .unset, .unset, .unset, .unset, .unset, .unset, .unset, .unset, .unset, .unset]) rfl ?_
      exact kt
    have Rc8 : 0 ≤ c8.toInt ∧ c8.toInt ≤ 1023 := by rw [hc8]; exact own_1023 _
    obtain ⟨c10, hc10⟩ : ∃ z, z = (((p5.toUInt32 >>> ((10 : Int32) &&& 31).toUInt32).toInt32) &&& (1023 : Int32)) := ⟨_, rfl⟩
    have c11 : ∀ t, Steps p.tables e below (s₁.setTop (mkF m 119 #[.val (.int p1), .val (.int p2), .val (.int p3), .val (.int p4), .val (.int p5), .val (.int p6), .val (.int (p1 &&& (3 : Int32))), .val (.int (256 : Int32)), .val (.int x2), .val (.int y4), .val (.int z6), .val (.int c8), .val (.int c10), .unset, .unset, .unset, .unset, .unset, .unset, .unset, .unset, .unset, .unset] [])) t → Steps p.tables e below (s₁.setTop (mkF m 108 #[.val (.int p1), .val (.int p2), .val (.int p3), .val (.int p4), .val (.int p5), .val (.int p6), .val (.int (p1 &&& (3 : Int32))), .val (.int (256 : Int32)), .val (.int x2), .val (.int y4), .val (.int z6), .val (.int c8), .unset, .unset, .unset, .unset, .unset, .unset, .unset, .unset, .unset, .unset, .unset] [])) t := by
      intro t kt
      subst hc10
      show Steps p.tables e below (s₁.setTop (mkF m 108 #[.val (.int p1), .val (.int p2), .val (.int p3), .val (.int p4), .val (.int p5), .val (.int p6), .val (.int (p1 &&& (3 : Int32))), .val (.int (256 : Int32)), .val (.int x2), .val (.int y4), .val (.int z6), .val (.int c8), .unset, .unset, .unset, .unset, .unset, .unset, .unset, .unset, .unset, .unset, .unset] [])) _
      refine XS.iload X0.here hx rfl (hb hby at_108) rfl ?_
      refine XS.bipush X0.here hx rfl (hb hby at_110) ?_
      refine XS.iushr X0.here hx rfl (hb hby at_112) rfl ?_
      show Steps p.tables e below (s₁.setTop (mkF m 113 #[.val (.int p1), .val (.int p2), .val (.int p3), .val (.int p4), .val (.int p5), .val (.int p6), .val (.int (p1 &&& (3 : Int32))), .val (.int (256 : Int32)), .val (.int x2), .val (.int y4), .val (.int z6), .val (.int c8), .unset, .unset, .unset, .unset, .unset, .unset, .unset, .unset, .unset, .unset, .unset] [(.int ((p5.toUInt32 >>> ((10 : Int32) &&& 31).toUInt32).toInt32))])) _
      refine XS.sipush X0.here hx rfl (hb hby at_113) ?_
      refine XS.iand X0.here hx rfl (hb hby at_116) rfl ?_
      refine XS.istore X0.here hx rfl (hb hby at_117) rfl (l' := #[.val (.int p1), .val (.int p2), .val (.int p3), .val (.int p4), .val (.int p5), .val (.int p6), .val (.int (p1 &&& (3 : Int32))), .val (.int (256 : Int32)), .val (.int x2), .val (.int y4), .val (.int z6), .val (.int c8), .val (.int (((p5.toUInt32 >>> ((10 : Int32) &&& 31).toUInt32).toInt32) &&& (1023 : Int32))), .unset, .unset, .unset, .unset, .unset, .unset, .unset, .unset, .unset, .unset]) rfl ?_
      exact kt
    have Rc10 : 0 ≤ c10.toInt ∧ c10.toInt ≤ 1023 := by rw [hc10]; exact own_1023 _
    obtain ⟨c12, hc12⟩ : ∃ z, z = (((p5.toUInt32 >>> ((20 : Int32) &&& 31).toUInt32).toInt32) &&& (1023 : Int32)) := ⟨_, rfl⟩
    have c13 : ∀ t, Steps p.tables e below (s₁.setTop (mkF m 130 #[.val (.int p1), .val (.int p2), .val (.int p3), .val (.int p4), .val (.int p5), .val (.int p6), .val (.int (p1 &&& (3 : Int32))), .val (.int (256 : Int32)), .val (.int x2), .val (.int y4), .val (.int z6), .val (.int c8), .val (.int c10), .val (.int c12), .unset, .unset, .unset, .unset, .unset, .unset, .unset, .unset, .unset] [])) t → Steps p.tables e below (s₁.setTop (mkF m 119 #[.val (.int p1), .val (.int p2), .val (.int p3), .val (.int p4), .val (.int p5), .val (.int p6), .val (.int (p1 &&& (3 : Int32))), .val (.int (256 : Int32)), .val (.int x2), .val (.int y4), .val (.int z6), .val (.int c8), .val (.int c10), .unset, .unset, .unset, .unset, .unset, .unset, .unset, .unset, .unset, .unset] [])) t := by
      intro t kt
      subst hc12
      show Steps p.tables e below (s₁.setTop (mkF m 119 #[.val (.int p1), .val (.int p2), .val (.int p3), .val (.int p4), .val (.int p5), .val (.int p6), .val (.int (p1 &&& (3 : Int32))), .val (.int (256 : Int32)), .val (.int x2), .val (.int y4), .val (.int z6), .val (.int c8), .val (.int c10), .unset, .unset, .unset, .unset, .unset, .unset, .unset, .unset, .unset, .unset] [])) _
      refine XS.iload X0.here hx rfl (hb hby at_119) rfl ?_
      refine XS.bipush X0.here hx rfl (hb hby at_121) ?_
      refine XS.iushr X0.here hx rfl (hb hby at_123) rfl ?_
      show Steps p.tables e below (s₁.setTop (mkF m 124 #[.val (.int p1), .val (.int p2), .val (.int p3), .val (.int p4), .val (.int p5), .val (.int p6), .val (.int (p1 &&& (3 : Int32))), .val (.int (256 : Int32)), .val (.int x2), .val (.int y4), .val (.int z6), .val (.int c8), .val (.int c10), .unset, .unset, .unset, .unset, .unset, .unset, .unset, .unset, .unset, .unset] [(.int ((p5.toUInt32 >>> ((20 : Int32) &&& 31).toUInt32).toInt32))])) _
      refine XS.sipush X0.here hx rfl (hb hby at_124) ?_
      refine XS.iand X0.here hx rfl (hb hby at_127) rfl ?_
      refine XS.istore X0.here hx rfl (hb hby at_128) rfl (l' := #[.val (.int p1), .val (.int p2), .val (.int p3), .val (.int p4), .val (.int p5), .val (.int p6), .val (.int (p1 &&& (3 : Int32))), .val (.int (256 : Int32)), .val (.int x2), .val (.int y4), .val (.int z6), .val (.int c8), .val (.int c10), .val (.int (((p5.toUInt32 >>> ((20 : Int32) &&& 31).toUInt32).toInt32) &&& (1023 : Int32))), .unset, .unset, .unset, .unset, .unset, .unset, .unset, .unset, .unset]) rfl ?_
      exact kt
    have Rc12 : 0 ≤ c12.toInt ∧ c12.toInt ≤ 1023 := by rw [hc12]; exact own_1023 _
    obtain ⟨t14, ht14⟩ : ∃ z, z = ((c8 + c10) + c12) := ⟨_, rfl⟩
    have c15 : ∀ t, Steps p.tables e below (s₁.setTop (mkF m 140 #[.val (.int p1), .val (.int p2), .val (.int p3), .val (.int p4), .val (.int p5), .val (.int p6), .val (.int (p1 &&& (3 : Int32))), .val (.int (256 : Int32)), .val (.int x2), .val (.int y4), .val (.int z6), .val (.int c8), .val (.int c10), .val (.int c12), .val (.int t14), .unset, .unset, .unset, .unset, .unset, .unset, .unset, .unset] [])) t → Steps p.tables e below (s₁.setTop (mkF m 130 #[.val (.int p1), .val (.int p2), .val (.int p3), .val (.int p4), .val (.int p5), .val (.int p6), .val (.int (p1 &&& (3 : Int32))), .val (.int (256 : Int32)), .val (.int x2), .val (.int y4), .val (.int z6), .val (.int c8), .val (.int c10), .val (.int c12), .unset, .unset, .unset, .unset, .unset, .unset, .unset, .unset, .unset] [])) t := by
      intro t kt
      subst ht14
      show Steps p.tables e below (s₁.setTop (mkF m 130 #[.val (.int p1), .val (.int p2), .val (.int p3), .val (.int p4), .val (.int p5), .val (.int p6), .val (.int (p1 &&& (3 : Int32))), .val (.int (256 : Int32)), .val (.int x2), .val (.int y4), .val (.int z6), .val (.int c8), .val (.int c10), .val (.int c12), .unset, .unset, .unset, .unset, .unset, .unset, .unset, .unset, .unset] [])) _
      refine XS.iload X0.here hx rfl (hb hby at_130) rfl ?_
      refine XS.iload X0.here hx rfl (hb hby at_132) rfl ?_
      refine XS.iadd X0.here hx rfl (hb hby at_134) rfl ?_
      show Steps p.tables e below (s₁.setTop (mkF m 135 #[.val (.int p1), .val (.int p2), .val (.int p3), .val (.int p4), .val (.int p5), .val (.int p6), .val (.int (p1 &&& (3 : Int32))), .val (.int (256 : Int32)), .val (.int x2), .val (.int y4), .val (.int z6), .val (.int c8), .val (.int c10), .val (.int c12), .unset, .unset, .unset, .unset, .unset, .unset, .unset, .unset, .unset] [(.int (c8 + c10))])) _
      refine XS.iload X0.here hx rfl (hb hby at_135) rfl ?_
      refine XS.iadd X0.here hx rfl (hb hby at_137) rfl ?_
      refine XS.istore X0.here hx rfl (hb hby at_138) rfl (l' := #[.val (.int p1), .val (.int p2), .val (.int p3), .val (.int p4), .val (.int p5), .val (.int p6), .val (.int (p1 &&& (3 : Int32))), .val (.int (256 : Int32)), .val (.int x2), .val (.int y4), .val (.int z6), .val (.int c8), .val (.int c10), .val (.int c12), .val (.int ((c8 + c10) + c12)), .unset, .unset, .unset, .unset, .unset, .unset, .unset, .unset]) rfl ?_
      exact kt
    have Rt14 : t14.toInt = c8.toInt + c10.toInt + c12.toInt := by
      have o1 : (c8 + c10).toInt = c8.toInt + c10.toInt := Jvm.Kit.i32_add (by omega) (by omega)
      rw [ht14, Jvm.Kit.i32_add (by omega) (by omega), o1]
    have c16 : ∀ t, Steps p.tables e below (s₁.setTop (mkF m 142 #[.val (.int p1), .val (.int p2), .val (.int p3), .val (.int p4), .val (.int p5), .val (.int p6), .val (.int (p1 &&& (3 : Int32))), .val (.int (256 : Int32)), .val (.int x2), .val (.int y4), .val (.int z6), .val (.int c8), .val (.int c10), .val (.int c12), .val (.int t14), .unset, .unset, .unset, .unset, .unset, .unset, .unset, .unset] [(.int t14)])) t → Steps p.tables e below (s₁.setTop (mkF m 140 #[.val (.int p1), .val (.int p2), .val (.int p3), .val (.int p4), .val (.int p5), .val (.int p6), .val (.int (p1 &&& (3 : Int32))), .val (.int (256 : Int32)), .val (.int x2), .val (.int y4), .val (.int z6), .val (.int c8), .val (.int c10), .val (.int c12), .val (.int t14), .unset, .unset, .unset, .unset, .unset, .unset, .unset, .unset] [])) t := by
      intro t kt
      show Steps p.tables e below (s₁.setTop (mkF m 140 #[.val (.int p1), .val (.int p2), .val (.int p3), .val (.int p4), .val (.int p5), .val (.int p6), .val (.int (p1 &&& (3 : Int32))), .val (.int (256 : Int32)), .val (.int x2), .val (.int y4), .val (.int z6), .val (.int c8), .val (.int c10), .val (.int c12), .val (.int t14), .unset, .unset, .unset, .unset, .unset, .unset, .unset, .unset] [])) _
      refine XS.iload X0.here hx rfl (hb hby at_140) rfl ?_
      exact kt
    by_cases hc142 : t14 = (0 : Int32)
    · obtain ⟨fs, hr, hrun, hended, hW, hsame⟩ := X0.leave (v := some (.int (1 : Int32))) (fun h => by rw [Bd.returns] at h; cases h)
      refine ⟨_, _, pre0 _ (c1 _ (c3 _ (c5 _ (c7 _ (c9 _ (c11 _ (c13 _ (c15 _ (c16 _ (?_)))))))))), hrun, hended, _, _, rfl, ?_, ⟨_, rfl⟩, hW, hsame.mono (by decide) (by decide)⟩
      · show Steps p.tables e below (s₁.setTop (mkF m 142 #[.val (.int p1), .val (.int p2), .val (.int p3), .val (.int p4), .val (.int p5), .val (.int p6), .val (.int (p1 &&& (3 : Int32))), .val (.int (256 : Int32)), .val (.int x2), .val (.int y4), .val (.int z6), .val (.int c8), .val (.int c10), .val (.int c12), .val (.int t14), .unset, .unset, .unset, .unset, .unset, .unset, .unset, .unset] [(.int t14)])) _
        refine XS.ifNo X0.here hx rfl (hb hby at_142) rfl ((if0 _ _).trans (teq hc142).2) ?_
        refine XS.iconst X0.here hx rfl (hb hby at_145) ?_
        show Steps p.tables e below (s₁.setTop (mkF m 146 #[.val (.int p1), .val (.int p2), .val (.int p3), .val (.int p4), .val (.int p5), .val (.int p6), .val (.int (p1 &&& (3 : Int32))), .val (.int (256 : Int32)), .val (.int x2), .val (.int y4), .val (.int z6), .val (.int c8), .val (.int c10), .val (.int c12), .val (.int t14), .unset, .unset, .unset, .unset, .unset, .unset, .unset, .unset] [(.int (1 : Int32))])) _
        exact retN X0 hx (t := .boolean) Bd.returns (by simp) (hb hby at_146) hr
      · show Qrm0 Z p1 p2 p3 p4 p5 p6 h0 n0 _ s₁.heap _
        rw [e0]
        exact ⟨rfl, N0⟩
    · have Pt14 : 0 < t14.toInt := by
        have nz : ¬ (t14.toInt = 0) := fun q => hc142 (Int32.toInt_inj.mp q)
        omega
      obtain ⟨r17, hr17⟩ : ∃ z, z = ((p6 &&& (2147483647 : Int32)) % t14) := ⟨_, rfl⟩
      have c18 : ∀ t, Steps p.tables e below (s₁.setTop (mkF m 157 #[.val (.int p1), .val (.int p2), .val (.int p3), .val (.int p4), .val (.int p5), .val (.int p6), .val (.int (p1 &&& (3 : Int32))), .val (.int (256 : Int32)), .val (.int x2), .val (.int y4), .val (.int z6), .val (.int c8), .val (.int c10), .val (.int c12), .val (.int t14), .val (.int r17), .unset, .unset, .unset, .unset, .unset, .unset, .unset] [])) t → Steps p.tables e below (s₁.setTop (mkF m 142 #[.val (.int p1), .val (.int p2), .val (.int p3), .val (.int p4), .val (.int p5), .val (.int p6), .val (.int (p1 &&& (3 : Int32))), .val (.int (256 : Int32)), .val (.int x2), .val (.int y4), .val (.int z6), .val (.int c8), .val (.int c10), .val (.int c12), .val (.int t14), .unset, .unset, .unset, .unset, .unset, .unset, .unset, .unset] [(.int t14)])) t := by
        intro t kt
        subst hr17
        show Steps p.tables e below (s₁.setTop (mkF m 142 #[.val (.int p1), .val (.int p2), .val (.int p3), .val (.int p4), .val (.int p5), .val (.int p6), .val (.int (p1 &&& (3 : Int32))), .val (.int (256 : Int32)), .val (.int x2), .val (.int y4), .val (.int z6), .val (.int c8), .val (.int c10), .val (.int c12), .val (.int t14), .unset, .unset, .unset, .unset, .unset, .unset, .unset, .unset] [(.int t14)])) _
        refine XS.ifYes X0.here hx rfl (pc0 := 142) (pc' := 147) rfl (hb hby at_142) rfl ((if0 _ _).trans (feq hc142).2) (by decide) (by decide) ?_
        refine XS.iload X0.here hx rfl (hb hby at_147) rfl ?_
        refine X0.ldcInt hx hown (mvT hZ (hw _ (List.mem_of_getElem? (i := 0) rfl))) (g := (mkF m 149 #[.val (.int p1), .val (.int p2), .val (.int p3), .val (.int p4), .val (.int p5), .val (.int p6), .val (.int (p1 &&& (3 : Int32))), .val (.int (256 : Int32)), .val (.int x2), .val (.int y4), .val (.int z6), .val (.int c8), .val (.int c10), .val (.int c12), .val (.int t14), .unset, .unset, .unset, .unset, .unset, .unset, .unset, .unset] [(.int p6)])) rfl (hb hby at_149) _ ?_
        show Steps p.tables e below (s₁.setTop (mkF m 151 #[.val (.int p1), .val (.int p2), .val (.int p3), .val (.int p4), .val (.int p5), .val (.int p6), .val (.int (p1 &&& (3 : Int32))), .val (.int (256 : Int32)), .val (.int x2), .val (.int y4), .val (.int z6), .val (.int c8), .val (.int c10), .val (.int c12), .val (.int t14), .unset, .unset, .unset, .unset, .unset, .unset, .unset, .unset] [(.int (2147483647 : Int32)), (.int p6)])) _
        refine XS.iand X0.here hx rfl (hb hby at_151) rfl ?_
        refine XS.iload X0.here hx rfl (hb hby at_152) rfl ?_
        refine Jvm.RoadKit.iremM (g := (mkF m 154 #[.val (.int p1), .val (.int p2), .val (.int p3), .val (.int p4), .val (.int p5), .val (.int p6), .val (.int (p1 &&& (3 : Int32))), .val (.int (256 : Int32)), .val (.int x2), .val (.int y4), .val (.int z6), .val (.int c8), .val (.int c10), .val (.int c12), .val (.int t14), .unset, .unset, .unset, .unset, .unset, .unset, .unset, .unset] [(.int t14), (.int (p6 &&& (2147483647 : Int32)))])) X0 hx rfl (hb hby at_154) rfl (own_nz Pt14) ?_
        show Steps p.tables e below (s₁.setTop (mkF m 155 #[.val (.int p1), .val (.int p2), .val (.int p3), .val (.int p4), .val (.int p5), .val (.int p6), .val (.int (p1 &&& (3 : Int32))), .val (.int (256 : Int32)), .val (.int x2), .val (.int y4), .val (.int z6), .val (.int c8), .val (.int c10), .val (.int c12), .val (.int t14), .unset, .unset, .unset, .unset, .unset, .unset, .unset, .unset] [(.int ((p6 &&& (2147483647 : Int32)) % t14))])) _
        refine XS.istore X0.here hx rfl (hb hby at_155) rfl (l' := #[.val (.int p1), .val (.int p2), .val (.int p3), .val (.int p4), .val (.int p5), .val (.int p6), .val (.int (p1 &&& (3 : Int32))), .val (.int (256 : Int32)), .val (.int x2), .val (.int y4), .val (.int z6), .val (.int c8), .val (.int c10), .val (.int c12), .val (.int t14), .val (.int ((p6 &&& (2147483647 : Int32)) % t14)), .unset, .unset, .unset, .unset, .unset, .unset, .unset]) rfl ?_
        exact kt
      have Rr17 : 0 ≤ r17.toInt ∧ r17.toInt < t14.toInt := by rw [hr17]; exact own_mod _ _ Pt14
      obtain ⟨T19, h19, X19, e19, E19, A19, D19, -, st19⟩ := newO X0 hx hZ hown (hw _ (List.mem_of_getElem? (i := 1) rfl)) (hw _ (List.mem_of_getElem? (i := 2) rfl)) (hw _ (List.mem_of_getElem? (i := 3) rfl)) e0 (g := (mkF m 157 #[.val (.int p1), .val (.int p2), .val (.int p3), .val (.int p4), .val (.int p5), .val (.int p6), .val (.int (p1 &&& (3 : Int32))), .val (.int (256 : Int32)), .val (.int x2), .val (.int y4), .val (.int z6), .val (.int c8), .val (.int c10), .val (.int c12), .val (.int t14), .val (.int r17), .unset, .unset, .unset, .unset, .unset, .unset, .unset] [])) rfl (hb hby at_157) (by decide) (by decide)
      obtain ⟨b19, g19⟩ : ∃ z, z = h0.size := ⟨_, rfl⟩
      rw [← g19] at A19 D19 st19
      have g_b19 : n0 ≤ b19 := Nat.le_trans Z0 (Nat.le_of_eq g19.symm)
      have sz_b19 : h0.size ≤ b19 := (Nat.le_trans (Keep.refl h0 []).1 (Nat.le_of_eq g19.symm))
      have F_top_b19 : Fld Z h19 b19 "com/example/ebbtide/ebbtide/cluster/PlaceCounts" "top" "I" (.int (0 : Int32)) := (D19 (Or.inr (hw _ (List.mem_of_getElem? (i := 11) rfl))) (ty := .int) (by decide))
      have F_sums_b19 : Fld Z h19 b19 "com/example/ebbtide/ebbtide/cluster/PlaceCounts" "sums" "[I" .null := (D19 (Or.inr (hw _ (List.mem_of_getElem? (i := 14) rfl))) (ty := (.array .int)) (by decide))
      have F_total_b19 : Fld Z h19 b19 "com/example/ebbtide/ebbtide/cluster/PlaceCounts" "total" "I" (.int (0 : Int32)) := (D19 (Or.inl (hw _ (List.mem_of_getElem? (i := 21) rfl))) (ty := .int) (by decide))
      have K19 : Keep h0 h19 [] := (Keep.refl h0 []).ext E19
      have Z19 : n0 ≤ h19.size := Nat.le_trans Z0 E19.1
      obtain ⟨_, _, ⟨T20, L20, k20, n20⟩, -, X20, ⟨Lc20, hQ20, l20, y20, z20⟩, st20⟩ := X19.specialBack hx (y := (⟨"com/example/ebbtide/ebbtide/cluster/PlaceCounts", "<init>", "(I)V"⟩ : MethodName)) rfl hown (mvT hZ (hw _ (List.mem_of_getElem? (i := 4) rfl))) (mvT hZ (hw _ (List.mem_of_getElem? (i := 5) rfl))) (mvT hZ (hw _ (List.mem_of_getElem? (i := 6) rfl))) (by decide) (backOf (W := 1) (rmI_256 l Z a0 hw [] b19 h19 n0 Z19 A19 F_sums_b19 F_top_b19 F_total_b19 g_b19) hZ (hw _ (List.mem_of_getElem? (i := 6) rfl)) (hw _ (List.mem_of_getElem? (i := 3) rfl)) (by decide) (by decide)) (g := (mkF m 163 #[.val (.int p1), .val (.int p2), .val (.int p3), .val (.int p4), .val (.int p5), .val (.int p6), .val (.int (p1 &&& (3 : Int32))), .val (.int (256 : Int32)), .val (.int x2), .val (.int y4), .val (.int z6), .val (.int c8), .val (.int c10), .val (.int c12), .val (.int t14), .val (.int r17), .unset, .unset, .unset, .unset, .unset, .unset, .unset] [(.int (256 : Int32)), (.ref b19), (.ref b19)])) rfl (by rw [hml]; rfl) (Steps.refl _) (a := b19) (argsL := [(.int (256 : Int32))]) (rest := [(.ref b19)]) (lenOf pd__28I_29V rfl) rfl (by show 2 * 0 + _ ≤ _; exact Nat.le_of_eq rfl) (hb hby at_163) (fun _ _ => ⟨rfl, e19, (by decide : 1 + 1 ≤ _), (by decide : 3 + 257 ≤ _)⟩)
      dsimp only [Pt.U, Pt.locs, Pt.cells, Pt.slots] at X20 l20 y20 z20 st20 hQ20
      subst l20 y20 z20
      obtain ⟨h20, e20⟩ : ∃ h', T20.heap = h' := ⟨_, rfl⟩
      rw [e20] at hQ20
      obtain ⟨rfl, N20q, K20q, Eq20, ⟨bs20, gb20, ne20, Fs20, Ab20⟩, Ft20, Fn20⟩ := hQ20
      have K20 : Keep h0 h20 [] := K19.trans K20q (allS (Or.inr sz_b19) all0)
      have Z20 : n0 ≤ h20.size := Nat.le_trans Z19 K20q.1
      have N20 := Fr.app N0 N20q
      have sz_bs20 : h0.size ≤ bs20 := Nat.le_trans Z0' gb20
      have g_bs20 := gb20
      have e1_22 : (x2 + (1 : Int32)).toInt = x2.toInt + 1 := Jvm.Kit.i32_add (by show -2 ^ 31 ≤ x2.toInt + 1; omega) (by show x2.toInt + 1 < 2 ^ 31; omega)
      obtain ⟨cq21, kq21, q21a, q21b, q21c⟩ := isOf hZ e20 Eq20
      obtain ⟨_, _, ⟨T21, L21, k21, n21⟩, -, X21, ⟨Lc21, hQ21, l21, y21, z21⟩, st21⟩ := X20.virtualBack hx (y := (⟨"com/example/ebbtide/ebbtide/cluster/PlaceCounts", "add", "(II)V"⟩ : MethodName)) (z := (⟨"com/example/ebbtide/ebbtide/cluster/PlaceCounts", "add", "(II)V"⟩ : MethodName)) hown (mvT hZ (hw _ (List.mem_of_getElem? (i := 15) rfl))) (mvT hZ (hw _ (List.mem_of_getElem? (i := 16) rfl))) (notFace_of_selects (args := #[]) (mvT hZ (hw _ (List.mem_of_getElem? (i := 18) rfl)))) (mvT hZ (hw _ (List.mem_of_getElem? (i := 18) rfl))) (mvT hZ (hw _ (List.mem_of_getElem? (i := 17) rfl))) (by decide) (backOf (W := 0) (rmA_0 l Z a0 hw [] b19 bs20 x2 c8 (0 : Int32) (fun _ => (0 : Int32)) h20 n0 Z20 Eq20 Fs20 Ft20 Fn20 Ab20 g_b19 g_bs20 ne20 (by have q := own_nat (x2 + (1 : Int32)) (x2.toNatClampNeg + 1) (by have := (own_ofNat x2 (by omega)).2; omega); have := (own_ofNat x2 (by omega)).2; exact ⟨q.1, by omega⟩)) hZ (hw _ (List.mem_of_getElem? (i := 19) rfl)) (hw _ (List.mem_of_getElem? (i := 3) rfl)) (by decide) (by decide)) q21a q21c (g := (mkF m 174 #[.val (.int p1), .val (.int p2), .val (.int p3), .val (.int p4), .val (.int p5), .val (.int p6), .val (.int (p1 &&& (3 : Int32))), .val (.int (256 : Int32)), .val (.int x2), .val (.int y4), .val (.int z6), .val (.int c8), .val (.int c10), .val (.int c12), .val (.int t14), .val (.int r17), .val (.ref b19), .unset, .unset, .unset, .unset, .unset, .unset] [(.int c8), (.int x2), (.ref b19)])) rfl (by rw [hml]; rfl) (Steps.refl _) (argsL := [(.int x2), (.int c8)]) (rest := []) (lenOf pd__28II_29V rfl) rfl (by show 2 * 0 + _ ≤ _; exact Nat.le_of_eq rfl) (hb hby at_174) (fun _ _ => ⟨rfl, e20, (by decide : 2 + 0 ≤ _), (by decide : 260 + 0 ≤ _)⟩)
      dsimp only [Pt.U, Pt.locs, Pt.cells, Pt.slots] at X21 l21 y21 z21 st21 hQ21
      subst l21 y21 z21
      obtain ⟨h21, e21⟩ : ∃ h', T21.heap = h' := ⟨_, rfl⟩
      rw [e21] at hQ21
      obtain ⟨rfl, N21q, K21q, Eq21, Fs21, Ft21, Fn21, Ab21⟩ := hQ21
      have K21 : Keep h0 h21 [] := K20.trans K21q (allS (Or.inr sz_b19) (allS (Or.inr sz_bs20) all0))
      have Z21 : n0 ≤ h21.size := Nat.le_trans Z20 K21q.1
      have N21 := Fr.app N20 N21q
      have e1_24 : (y4 + (1 : Int32)).toInt = y4.toInt + 1 := Jvm.Kit.i32_add (by show -2 ^ 31 ≤ y4.toInt + 1; omega) (by show y4.toInt + 1 < 2 ^ 31; omega)
      obtain ⟨cq23, kq23, q23a, q23b, q23c⟩ := isOf hZ e21 Eq21
      obtain ⟨_, _, ⟨T23, L23, k23, n23⟩, -, X23, ⟨Lc23, hQ23, l23, y23, z23⟩, st23⟩ := X21.virtualBack hx (y := (⟨"com/example/ebbtide/ebbtide/cluster/PlaceCounts", "add", "(II)V"⟩ : MethodName)) (z := (⟨"com/example/ebbtide/ebbtide/cluster/PlaceCounts", "add", "(II)V"⟩ : MethodName)) hown (mvT hZ (hw _ (List.mem_of_getElem? (i := 15) rfl))) (mvT hZ (hw _ (List.mem_of_getElem? (i := 16) rfl))) (notFace_of_selects (args := #[]) (mvT hZ (hw _ (List.mem_of_getElem? (i := 18) rfl)))) (mvT hZ (hw _ (List.mem_of_getElem? (i := 18) rfl))) (mvT hZ (hw _ (List.mem_of_getElem? (i := 17) rfl))) (by decide) (backOf (W := 0) (rmA_0 l Z a0 hw [] b19 bs20 y4 c10 ((0 : Int32) + c8) (own_pt (fun _ => (0 : Int32)) (x2 + (1 : Int32)).toNatClampNeg c8) h21 n0 Z21 Eq21 Fs21 Ft21 Fn21 Ab21 g_b19 g_bs20 ne20 (by have q := own_nat (y4 + (1 : Int32)) (y4.toNatClampNeg + 1) (by have := (own_ofNat y4 (by omega)).2; omega); have := (own_ofNat y4 (by omega)).2; exact ⟨q.1, by omega⟩)) hZ (hw _ (List.mem_of_getElem? (i := 19) rfl)) (hw _ (List.mem_of_getElem? (i := 3) rfl)) (by decide) (by decide)) q23a q23c (g := (mkF m 183 #[.val (.int p1), .val (.int p2), .val (.int p3), .val (.int p4), .val (.int p5), .val (.int p6), .val (.int (p1 &&& (3 : Int32))), .val (.int (256 : Int32)), .val (.int x2), .val (.int y4), .val (.int z6), .val (.int c8), .val (.int c10), .val (.int c12), .val (.int t14), .val (.int r17), .val (.ref b19), .unset, .unset, .unset, .unset, .unset, .unset] [(.int c10), (.int y4), (.ref b19)])) rfl (by rw [hml]; rfl) (Steps.refl _) (argsL := [(.int y4), (.int c10)]) (rest := []) (lenOf pd__28II_29V rfl) rfl (by show 2 * 0 + _ ≤ _; exact Nat.le_of_eq rfl) (hb hby at_183) (fun _ _ => ⟨rfl, e21, (by decide : 2 + 0 ≤ _), (by decide : 260 + 0 ≤ _)⟩)
      dsimp only [Pt.U, Pt.locs, Pt.cells, Pt.slots] at X23 l23 y23 z23 st23 hQ23
      subst l23 y23 z23
      obtain ⟨h23, e23⟩ : ∃ h', T23.heap = h' := ⟨_, rfl⟩
      rw [e23] at hQ23
      obtain ⟨rfl, N23q, K23q, Eq23, Fs23, Ft23, Fn23, Ab23⟩ := hQ23
      have K23 : Keep h0 h23 [] := K21.trans K23q (allS (Or.inr sz_b19) (allS (Or.inr sz_bs20) all0))
      have Z23 : n0 ≤ h23.size := Nat.le_trans Z21 K23q.1
      have N23 := Fr.app N21 N23q
      have e1_26 : (z6 + (1 : Int32)).toInt = z6.toInt + 1 := Jvm.Kit.i32_add (by show -2 ^ 31 ≤ z6.toInt + 1; omega) (by show z6.toInt + 1 < 2 ^ 31; omega)
      obtain ⟨cq25, kq25, q25a, q25b, q25c⟩ := isOf hZ e23 Eq23
      obtain ⟨_, _, ⟨T25, L25, k25, n25⟩, -, X25, ⟨Lc25, hQ25, l25, y25, z25⟩, st25⟩ := X23.virtualBack hx (y := (⟨"com/example/ebbtide/ebbtide/cluster/PlaceCounts", "add", "(II)V"⟩ : MethodName)) (z := (⟨"com/example/ebbtide/ebbtide/cluster/PlaceCounts", "add", "(II)V"⟩ : MethodName)) hown (mvT hZ (hw _ (List.mem_of_getElem? (i := 15) rfl))) (mvT hZ (hw _ (List.mem_of_getElem? (i := 16) rfl))) (notFace_of_selects (args := #[]) (mvT hZ (hw _ (List.mem_of_getElem? (i := 18) rfl)))) (mvT hZ (hw _ (List.mem_of_getElem? (i := 18) rfl))) (mvT hZ (hw _ (List.mem_of_getElem? (i := 17) rfl))) (by decide) (backOf (W := 0) (rmA_0 l Z a0 hw [] b19 bs20 z6 c12 (((0 : Int32) + c8) + c10) (own_pt (own_pt (fun _ => (0 : Int32)) (x2 + (1 : Int32)).toNatClampNeg c8) (y4 + (1 : Int32)).toNatClampNeg c10) h23 n0 Z23 Eq23 Fs23 Ft23 Fn23 Ab23 g_b19 g_bs20 ne20 (by have q := own_nat (z6 + (1 : Int32)) (z6.toNatClampNeg + 1) (by have := (own_ofNat z6 (by omega)).2; omega); have := (own_ofNat z6 (by omega)).2; exact ⟨q.1, by omega⟩)) hZ (hw _ (List.mem_of_getElem? (i := 19) rfl)) (hw _ (List.mem_of_getElem? (i := 3) rfl)) (by decide) (by decide)) q25a q25c (g := (mkF m 192 #[.val (.int p1), .val (.int p2), .val (.int p3), .val (.int p4), .val (.int p5), .val (.int p6), .val (.int (p1 &&& (3 : Int32))), .val (.int (256 : Int32)), .val (.int x2), .val (.int y4), .val (.int z6), .val (.int c8), .val (.int c10), .val (.int c12), .val (.int t14), .val (.int r17), .val (.ref b19), .unset, .unset, .unset, .unset, .unset, .unset] [(.int c12), (.int z6), (.ref b19)])) rfl (by rw [hml]; rfl) (Steps.refl _) (argsL := [(.int z6), (.int c12)]) (rest := []) (lenOf pd__28II_29V rfl) rfl (by show 2 * 0 + _ ≤ _; exact Nat.le_of_eq rfl) (hb hby at_192) (fun _ _ => ⟨rfl, e23, (by decide : 2 + 0 ≤ _), (by decide : 260 + 0 ≤ _)⟩)
      dsimp only [Pt.U, Pt.locs, Pt.cells, Pt.slots] at X25 l25 y25 z25 st25 hQ25
      subst l25 y25 z25
      obtain ⟨h25, e25⟩ : ∃ h', T25.heap = h' := ⟨_, rfl⟩
      rw [e25] at hQ25
      obtain ⟨rfl, N25q, K25q, Eq25, Fs25, Ft25, Fn25, Ab25⟩ := hQ25
      have K25 : Keep h0 h25 [] := K23.trans K25q (allS (Or.inr sz_b19) (allS (Or.inr sz_bs20) all0))
      have Z25 : n0 ≤ h25.size := Nat.le_trans Z23 K25q.1
      have N25 := Fr.app N23 N25q
      obtain ⟨cq27, kq27, q27a, q27b, q27c⟩ := isOf hZ e25 Eq25
      obtain ⟨_, _, ⟨T27, L27, k27, n27⟩, -, X27, ⟨Lc27, hQ27, l27, y27, z27⟩, st27⟩ := X25.virtualBack hx (y := (⟨"com/example/ebbtide/ebbtide/cluster/PlaceCounts", "locate", "(I)J"⟩ : MethodName)) (z := (⟨"com/example/ebbtide/ebbtide/cluster/PlaceCounts", "locate", "(I)J"⟩ : MethodName)) hown (mvT hZ (hw _ (List.mem_of_getElem? (i := 22) rfl))) (mvT hZ (hw _ (List.mem_of_getElem? (i := 23) rfl))) (notFace_of_selects (args := #[]) (mvT hZ (hw _ (List.mem_of_getElem? (i := 25) rfl)))) (mvT hZ (hw _ (List.mem_of_getElem? (i := 25) rfl))) (mvT hZ (hw _ (List.mem_of_getElem? (i := 24) rfl))) (by decide) (backOf (W := 0) (rmL_0 l Z a0 hw [] b19 bs20 r17 (own_pt (own_pt (own_pt (fun _ => (0 : Int32)) (x2 + (1 : Int32)).toNatClampNeg c8) (y4 + (1 : Int32)).toNatClampNeg c10) (z6 + (1 : Int32)).toNatClampNeg c12) (own_P x2.toInt y4.toInt z6.toInt c8.toInt c10.toInt c12.toInt) h25 n0 Z25 Fs25 Ft25 Ab25 (fun u w q => own_P_mono x2.toInt y4.toInt z6.toInt c8.toInt c10.toInt c12.toInt Rc8.1 Rc10.1 Rc12.1 u w q) (fun u => own_P_lo x2.toInt y4.toInt z6.toInt c8.toInt c10.toInt c12.toInt Rc8.1 Rc10.1 Rc12.1 u) (fun u => Int.le_trans (own_P_hi x2.toInt y4.toInt z6.toInt c8.toInt c10.toInt c12.toInt Rc8.1 Rc10.1 Rc12.1 u) (by omega)) (own_P_zero x2.toInt y4.toInt z6.toInt c8.toInt c10.toInt c12.toInt (by omega) (by omega) (by omega)) Rr17.1 (by omega) (by rw [own_P_all x2.toInt y4.toInt z6.toInt c8.toInt c10.toInt c12.toInt 256 (by omega) (by omega) (by omega)]; omega) (fun q => own_node1I x2 y4 z6 c8 c10 c12 (show 0 ≤ x2.toInt ∧ x2.toInt ≤ 2000 from by omega) (show 0 ≤ y4.toInt ∧ y4.toInt ≤ 2000 from by omega) (show 0 ≤ z6.toInt ∧ z6.toInt ≤ 2000 from by omega) Rc8 Rc10 Rc12 Ry4.1 Rz6.1 q)) hZ (hw _ (List.mem_of_getElem? (i := 26) rfl)) (hw _ (List.mem_of_getElem? (i := 3) rfl)) (by decide) (by decide)) q27a q27c (g := (mkF m 199 #[.val (.int p1), .val (.int p2), .val (.int p3), .val (.int p4), .val (.int p5), .val (.int p6), .val (.int (p1 &&& (3 : Int32))), .val (.int (256 : Int32)), .val (.int x2), .val (.int y4), .val (.int z6), .val (.int c8), .val (.int c10), .val (.int c12), .val (.int t14), .val (.int r17), .val (.ref b19), .unset, .unset, .unset, .unset, .unset, .unset] [(.int r17), (.ref b19)])) rfl (by rw [hml]; rfl) (Steps.refl _) (argsL := [(.int r17)]) (rest := []) (lenOf pd__28I_29J rfl) rfl (by show 2 * 0 + _ ≤ _; exact Nat.le_of_eq rfl) (hb hby at_199) (fun _ _ => ⟨rfl, e25, (by decide : 2 + 0 ≤ _), (by decide : 260 + 0 ≤ _)⟩)
      dsimp only [Pt.U, Pt.locs, Pt.cells, Pt.slots] at X27 l27 y27 z27 st27 hQ27
      subst l27 y27 z27
      obtain ⟨pl27, rk27, M27, rfl, N27q, e27, I27⟩ := hQ27
      have N27 := Fr.app N25 N27q
      have c28 : ∀ t, Steps p.tables e below (T27.setTop (mkF m 208 #[.val (.int p1), .val (.int p2), .val (.int p3), .val (.int p4), .val (.int p5), .val (.int p6), .val (.int (p1 &&& (3 : Int32))), .val (.int (256 : Int32)), .val (.int x2), .val (.int y4), .val (.int z6), .val (.int c8), .val (.int c10), .val (.int c12), .val (.int t14), .val (.int r17), .val (.ref b19), .val (.long (((pl27.toInt64) <<< ((32 : Int32) &&& 0x3f).toInt64) ||| (rk27.toInt64))), .second, .unset, .unset, .unset, .unset] [(.int c8), (.int r17)])) t → Steps p.tables e below (s₁.setTop (mkF m 157 #[.val (.int p1), .val (.int p2), .val (.int p3), .val (.int p4), .val (.int p5), .val (.int p6), .val (.int (p1 &&& (3 : Int32))), .val (.int (256 : Int32)), .val (.int x2), .val (.int y4), .val (.int z6), .val (.int c8), .val (.int c10), .val (.int c12), .val (.int t14), .val (.int r17), .unset, .unset, .unset, .unset, .unset, .unset, .unset] [])) t := by
        intro t kt
        show Steps p.tables e below (s₁.setTop (mkF m 157 #[.val (.int p1), .val (.int p2), .val (.int p3), .val (.int p4), .val (.int p5), .val (.int p6), .val (.int (p1 &&& (3 : Int32))), .val (.int (256 : Int32)), .val (.int x2), .val (.int y4), .val (.int z6), .val (.int c8), .val (.int c10), .val (.int c12), .val (.int t14), .val (.int r17), .unset, .unset, .unset, .unset, .unset, .unset, .unset] [])) _
        refine st19 _ ?_
        refine XS.dup X19.here hx rfl (hb hby at_160) rfl rfl ?_
        refine XS.iload X19.here hx rfl (hb hby at_161) rfl ?_
        show Steps p.tables e below (T19.setTop (mkF m 163 #[.val (.int p1), .val (.int p2), .val (.int p3), .val (.int p4), .val (.int p5), .val (.int p6), .val (.int (p1 &&& (3 : Int32))), .val (.int (256 : Int32)), .val (.int x2), .val (.int y4), .val (.int z6), .val (.int c8), .val (.int c10), .val (.int c12), .val (.int t14), .val (.int r17), .unset, .unset, .unset, .unset, .unset, .unset, .unset] [(.int (256 : Int32)), (.ref b19), (.ref b19)])) _
        refine st20.trans ?_
        refine XS.astore X20.here hx rfl (hb hby at_166) rfl rfl (l' := #[.val (.int p1), .val (.int p2), .val (.int p3), .val (.int p4), .val (.int p5), .val (.int p6), .val (.int (p1 &&& (3 : Int32))), .val (.int (256 : Int32)), .val (.int x2), .val (.int y4), .val (.int z6), .val (.int c8), .val (.int c10), .val (.int c12), .val (.int t14), .val (.int r17), .val (.ref b19), .unset, .unset, .unset, .unset, .unset, .unset]) rfl ?_
        refine XS.aload X20.here hx rfl (hb hby at_168) rfl rfl ?_
        show Steps p.tables e below (T20.setTop (mkF m 170 #[.val (.int p1), .val (.int p2), .val (.int p3), .val (.int p4), .val (.int p5), .val (.int p6), .val (.int (p1 &&& (3 : Int32))), .val (.int (256 : Int32)), .val (.int x2), .val (.int y4), .val (.int z6), .val (.int c8), .val (.int c10), .val (.int c12), .val (.int t14), .val (.int r17), .val (.ref b19), .unset, .unset, .unset, .unset, .unset, .unset] [(.ref b19)])) _
        refine XS.iload X20.here hx rfl (hb hby at_170) rfl ?_
        refine XS.iload X20.here hx rfl (hb hby at_172) rfl ?_
        show Steps p.tables e below (T20.setTop (mkF m 174 #[.val (.int p1), .val (.int p2), .val (.int p3), .val (.int p4), .val (.int p5), .val (.int p6), .val (.int (p1 &&& (3 : Int32))), .val (.int (256 : Int32)), .val (.int x2), .val (.int y4), .val (.int z6), .val (.int c8), .val (.int c10), .val (.int c12), .val (.int t14), .val (.int r17), .val (.ref b19), .unset, .unset, .unset, .unset, .unset, .unset] [(.int c8), (.int x2), (.ref b19)])) _
        refine st21.trans ?_
        refine XS.aload X21.here hx rfl (hb hby at_177) rfl rfl ?_
        refine XS.iload X21.here hx rfl (hb hby at_179) rfl ?_
        show Steps p.tables e below (T21.setTop (mkF m 181 #[.val (.int p1), .val (.int p2), .val (.int p3), .val (.int p4), .val (.int p5), .val (.int p6), .val (.int (p1 &&& (3 : Int32))), .val (.int (256 : Int32)), .val (.int x2), .val (.int y4), .val (.int z6), .val (.int c8), .val (.int c10), .val (.int c12), .val (.int t14), .val (.int r17), .val (.ref b19), .unset, .unset, .unset, .unset, .unset, .unset] [(.int y4), (.ref b19)])) _
        refine XS.iload X21.here hx rfl (hb hby at_181) rfl ?_
        show Steps p.tables e below (T21.setTop (mkF m 183 #[.val (.int p1), .val (.int p2), .val (.int p3), .val (.int p4), .val (.int p5), .val (.int p6), .val (.int (p1 &&& (3 : Int32))), .val (.int (256 : Int32)), .val (.int x2), .val (.int y4), .val (.int z6), .val (.int c8), .val (.int c10), .val (.int c12), .val (.int t14), .val (.int r17), .val (.ref b19), .unset, .unset, .unset, .unset, .unset, .unset] [(.int c10), (.int y4), (.ref b19)])) _
        refine st23.trans ?_
        refine XS.aload X23.here hx rfl (hb hby at_186) rfl rfl ?_
        refine XS.iload X23.here hx rfl (hb hby at_188) rfl ?_
        show Steps p.tables e below (T23.setTop (mkF m 190 #[.val (.int p1), .val (.int p2), .val (.int p3), .val (.int p4), .val (.int p5), .val (.int p6), .val (.int (p1 &&& (3 : Int32))), .val (.int (256 : Int32)), .val (.int x2), .val (.int y4), .val (.int z6), .val (.int c8), .val (.int c10), .val (.int c12), .val (.int t14), .val (.int r17), .val (.ref b19), .unset, .unset, .unset, .unset, .unset, .unset] [(.int z6), (.ref b19)])) _
        refine XS.iload X23.here hx rfl (hb hby at_190) rfl ?_
        show Steps p.tables e below (T23.setTop (mkF m 192 #[.val (.int p1), .val (.int p2), .val (.int p3), .val (.int p4), .val (.int p5), .val (.int p6), .val (.int (p1 &&& (3 : Int32))), .val (.int (256 : Int32)), .val (.int x2), .val (.int y4), .val (.int z6), .val (.int c8), .val (.int c10), .val (.int c12), .val (.int t14), .val (.int r17), .val (.ref b19), .unset, .unset, .unset, .unset, .unset, .unset] [(.int c12), (.int z6), (.ref b19)])) _
        refine st25.trans ?_
        refine XS.aload X25.here hx rfl (hb hby at_195) rfl rfl ?_
        refine XS.iload X25.here hx rfl (hb hby at_197) rfl ?_
        show Steps p.tables e below (T25.setTop (mkF m 199 #[.val (.int p1), .val (.int p2), .val (.int p3), .val (.int p4), .val (.int p5), .val (.int p6), .val (.int (p1 &&& (3 : Int32))), .val (.int (256 : Int32)), .val (.int x2), .val (.int y4), .val (.int z6), .val (.int c8), .val (.int c10), .val (.int c12), .val (.int t14), .val (.int r17), .val (.ref b19), .unset, .unset, .unset, .unset, .unset, .unset] [(.int r17), (.ref b19)])) _
        refine st27.trans ?_
        refine XS.lstore X27.here hx rfl (hb hby at_202) rfl (l' := #[.val (.int p1), .val (.int p2), .val (.int p3), .val (.int p4), .val (.int p5), .val (.int p6), .val (.int (p1 &&& (3 : Int32))), .val (.int (256 : Int32)), .val (.int x2), .val (.int y4), .val (.int z6), .val (.int c8), .val (.int c10), .val (.int c12), .val (.int t14), .val (.int r17), .val (.ref b19), .val (.long (((pl27.toInt64) <<< ((32 : Int32) &&& 0x3f).toInt64) ||| (rk27.toInt64))), .second, .unset, .unset, .unset, .unset]) rfl ?_
        refine XS.iload X27.here hx rfl (hb hby at_204) rfl ?_
        show Steps p.tables e below (T27.setTop (mkF m 206 #[.val (.int p1), .val (.int p2), .val (.int p3), .val (.int p4), .val (.int p5), .val (.int p6), .val (.int (p1 &&& (3 : Int32))), .val (.int (256 : Int32)), .val (.int x2), .val (.int y4), .val (.int z6), .val (.int c8), .val (.int c10), .val (.int c12), .val (.int t14), .val (.int r17), .val (.ref b19), .val (.long (((pl27.toInt64) <<< ((32 : Int32) &&& 0x3f).toInt64) ||| (rk27.toInt64))), .second, .unset, .unset, .unset, .unset] [(.int r17)])) _
        refine XS.iload X27.here hx rfl (hb hby at_206) rfl ?_
        exact kt
      obtain ⟨v31, hv31⟩ : ∃ z, z = (if r17 < c8 then x2 else (if r17 < (c8 + c10) then y4 else z6)) := ⟨_, rfl⟩
      obtain ⟨v32, hv32⟩ : ∃ z, z = (if r17 < c8 then r17 else (if r17 < (c8 + c10) then (r17 - c8) else ((r17 - c8) - c10))) := ⟨_, rfl⟩
      have c33 : ∀ t, Steps p.tables e below (T27.setTop (mkF m 260 #[.val (.int p1), .val (.int p2), .val (.int p3), .val (.int p4), .val (.int p5), .val (.int p6), .val (.int (p1 &&& (3 : Int32))), .val (.int (256 : Int32)), .val (.int x2), .val (.int y4), .val (.int z6), .val (.int c8), .val (.int c10), .val (.int c12), .val (.int t14), .val (.int r17), .val (.ref b19), .val (.long (((pl27.toInt64) <<< ((32 : Int32) &&& 0x3f).toInt64) ||| (rk27.toInt64))), .second, .val (.int v31), .val (.int v32), .unset, .unset] [])) t → Steps p.tables e below (T27.setTop (mkF m 208 #[.val (.int p1), .val (.int p2), .val (.int p3), .val (.int p4), .val (.int p5), .val (.int p6), .val (.int (p1 &&& (3 : Int32))), .val (.int (256 : Int32)), .val (.int x2), .val (.int y4), .val (.int z6), .val (.int c8), .val (.int c10), .val (.int c12), .val (.int t14), .val (.int r17), .val (.ref b19), .val (.long (((pl27.toInt64) <<< ((32 : Int32) &&& 0x3f).toInt64) ||| (rk27.toInt64))), .second, .unset, .unset, .unset, .unset] [(.int c8), (.int r17)])) t := by
        intro t kt
        by_cases j208_29 : r17 < c8
        · show Steps p.tables e below (T27.setTop (mkF m 208 #[.val (.int p1), .val (.int p2), .val (.int p3), .val (.int p4), .val (.int p5), .val (.int p6), .val (.int (p1 &&& (3 : Int32))), .val (.int (256 : Int32)), .val (.int x2), .val (.int y4), .val (.int z6), .val (.int c8), .val (.int c10), .val (.int c12), .val (.int t14), .val (.int r17), .val (.ref b19), .val (.long (((pl27.toInt64) <<< ((32 : Int32) &&& 0x3f).toInt64) ||| (rk27.toInt64))), .second, .unset, .unset, .unset, .unset] [(.int c8), (.int r17)])) _
          refine XS.icmpNo X27.here hx rfl (hb hby at_208) rfl (tlt j208_29).2.1 ?_
          refine XS.iload X27.here hx rfl (hb hby at_211) rfl ?_
          refine XS.istore X27.here hx rfl (hb hby at_213) rfl (l' := #[.val (.int p1), .val (.int p2), .val (.int p3), .val (.int p4), .val (.int p5), .val (.int p6), .val (.int (p1 &&& (3 : Int32))), .val (.int (256 : Int32)), .val (.int x2), .val (.int y4), .val (.int z6), .val (.int c8), .val (.int c10), .val (.int c12), .val (.int t14), .val (.int r17), .val (.ref b19), .val (.long (((pl27.toInt64) <<< ((32 : Int32) &&& 0x3f).toInt64) ||| (rk27.toInt64))), .second, .val (.int x2), .unset, .unset, .unset]) rfl ?_
          show Steps p.tables e below (T27.setTop (mkF m 215 #[.val (.int p1), .val (.int p2), .val (.int p3), .val (.int p4), .val (.int p5), .val (.int p6), .val (.int (p1 &&& (3 : Int32))), .val (.int (256 : Int32)), .val (.int x2), .val (.int y4), .val (.int z6), .val (.int c8), .val (.int c10), .val (.int c12), .val (.int t14), .val (.int r17), .val (.ref b19), .val (.long (((pl27.toInt64) <<< ((32 : Int32) &&& 0x3f).toInt64) ||| (rk27.toInt64))), .second, .val (.int x2), .unset, .unset, .unset] [])) _
          refine XS.iload X27.here hx rfl (hb hby at_215) rfl ?_
          refine XS.istore X27.here hx rfl (hb hby at_217) rfl (l' := #[.val (.int p1), .val (.int p2), .val (.int p3), .val (.int p4), .val (.int p5), .val (.int p6), .val (.int (p1 &&& (3 : Int32))), .val (.int (256 : Int32)), .val (.int x2), .val (.int y4), .val (.int z6), .val (.int c8), .val (.int c10), .val (.int c12), .val (.int t14), .val (.int r17), .val (.ref b19), .val (.long (((pl27.toInt64) <<< ((32 : Int32) &&& 0x3f).toInt64) ||| (rk27.toInt64))), .second, .val (.int x2), .val (.int r17), .unset, .unset]) rfl ?_
          refine XS.goto X27.here hx rfl (pc0 := 219) (pc' := 260) rfl (hb hby at_219) (by decide) (by decide) ?_
          obtain rfl : v31 = x2 := by rw [hv31, if_pos j208_29]
          obtain rfl : v32 = r17 := by rw [hv32, if_pos j208_29]
          exact kt
        · show Steps p.tables e below (T27.setTop (mkF m 208 #[.val (.int p1), .val (.int p2), .val (.int p3), .val (.int p4), .val (.int p5), .val (.int p6), .val (.int (p1 &&& (3 : Int32))), .val (.int (256 : Int32)), .val (.int x2), .val (.int y4), .val (.int z6), .val (.int c8), .val (.int c10), .val (.int c12), .val (.int t14), .val (.int r17), .val (.ref b19), .val (.long (((pl27.toInt64) <<< ((32 : Int32) &&& 0x3f).toInt64) ||| (rk27.toInt64))), .second, .unset, .unset, .unset, .unset] [(.int c8), (.int r17)])) _
          refine XS.icmpYes X27.here hx rfl (pc0 := 208) (pc' := 222) rfl (hb hby at_208) rfl (flt j208_29).2.1 (by decide) (by decide) ?_
          refine XS.iload X27.here hx rfl (hb hby at_222) rfl ?_
          refine XS.iload X27.here hx rfl (hb hby at_224) rfl ?_
          show Steps p.tables e below (T27.setTop (mkF m 226 #[.val (.int p1), .val (.int p2), .val (.int p3), .val (.int p4), .val (.int p5), .val (.int p6), .val (.int (p1 &&& (3 : Int32))), .val (.int (256 : Int32)), .val (.int x2), .val (.int y4), .val (.int z6), .val (.int c8), .val (.int c10), .val (.int c12), .val (.int t14), .val (.int r17), .val (.ref b19), .val (.long (((pl27.toInt64) <<< ((32 : Int32) &&& 0x3f).toInt64) ||| (rk27.toInt64))), .second, .unset, .unset, .unset, .unset] [(.int c8), (.int r17)])) _
          refine XS.iload X27.here hx rfl (hb hby at_226) rfl ?_
          refine XS.iadd X27.here hx rfl (hb hby at_228) rfl ?_
          by_cases j229_30 : r17 < (c8 + c10)
          · show Steps p.tables e below (T27.setTop (mkF m 229 #[.val (.int p1), .val (.int p2), .val (.int p3), .val (.int p4), .val (.int p5), .val (.int p6), .val (.int (p1 &&& (3 : Int32))), .val (.int (256 : Int32)), .val (.int x2), .val (.int y4), .val (.int z6), .val (.int c8), .val (.int c10), .val (.int c12), .val (.int t14), .val (.int r17), .val (.ref b19), .val (.long (((pl27.toInt64) <<< ((32 : Int32) &&& 0x3f).toInt64) ||| (rk27.toInt64))), .second, .unset, .unset, .unset, .unset] [(.int (c8 + c10)), (.int r17)])) _
            refine XS.icmpNo X27.here hx rfl (hb hby at_229) rfl (tlt j229_30).2.1 ?_
            refine XS.iload X27.here hx rfl (hb hby at_232) rfl ?_
            refine XS.istore X27.here hx rfl (hb hby at_234) rfl (l' := #[.val (.int p1), .val (.int p2), .val (.int p3), .val (.int p4), .val (.int p5), .val (.int p6), .val (.int (p1 &&& (3 : Int32))), .val (.int (256 : Int32)), .val (.int x2), .val (.int y4), .val (.int z6), .val (.int c8), .val (.int c10), .val (.int c12), .val (.int t14), .val (.int r17), .val (.ref b19), .val (.long (((pl27.toInt64) <<< ((32 : Int32) &&& 0x3f).toInt64) ||| (rk27.toInt64))), .second, .val (.int y4), .unset, .unset, .unset]) rfl ?_
            show Steps p.tables e below (T27.setTop (mkF m 236 #[.val (.int p1), .val (.int p2), .val (.int p3), .val (.int p4), .val (.int p5), .val (.int p6), .val (.int (p1 &&& (3 : Int32))), .val (.int (256 : Int32)), .val (.int x2), .val (.int y4), .val (.int z6), .val (.int c8), .val (.int c10), .val (.int c12), .val (.int t14), .val (.int r17), .val (.ref b19), .val (.long (((pl27.toInt64) <<< ((32 : Int32) &&& 0x3f).toInt64) ||| (rk27.toInt64))), .second, .val (.int y4), .unset, .unset, .unset] [])) _
            refine XS.iload X27.here hx rfl (hb hby at_236) rfl ?_
            refine XS.iload X27.here hx rfl (hb hby at_238) rfl ?_
            refine XS.isub X27.here hx rfl (hb hby at_240) rfl ?_
            show Steps p.tables e below (T27.setTop (mkF m 241 #[.val (.int p1), .val (.int p2), .val (.int p3), .val (.int p4), .val (.int p5), .val (.int p6), .val (.int (p1 &&& (3 : Int32))), .val (.int (256 : Int32)), .val (.int x2), .val (.int y4), .val (.int z6), .val (.int c8), .val (.int c10), .val (.int c12), .val (.int t14), .val (.int r17), .val (.ref b19), .val (.long (((pl27.toInt64) <<< ((32 : Int32) &&& 0x3f).toInt64) ||| (rk27.toInt64))), .second, .val (.int y4), .unset, .unset, .unset] [(.int (r17 - c8))])) _
            refine XS.istore X27.here hx rfl (hb hby at_241) rfl (l' := #[.val (.int p1), .val (.int p2), .val (.int p3), .val (.int p4), .val (.int p5), .val (.int p6), .val (.int (p1 &&& (3 : Int32))), .val (.int (256 : Int32)), .val (.int x2), .val (.int y4), .val (.int z6), .val (.int c8), .val (.int c10), .val (.int c12), .val (.int t14), .val (.int r17), .val (.ref b19), .val (.long (((pl27.toInt64) <<< ((32 : Int32) &&& 0x3f).toInt64) ||| (rk27.toInt64))), .second, .val (.int y4), .val (.int (r17 - c8)), .unset, .unset]) rfl ?_
            refine XS.goto X27.here hx rfl (pc0 := 243) (pc' := 260) rfl (hb hby at_243) (by decide) (by decide) ?_
            obtain rfl : v31 = y4 := by rw [hv31, if_neg j208_29, if_pos j229_30]
            obtain rfl : v32 = (r17 - c8) := by rw [hv32, if_neg j208_29, if_pos j229_30]
            exact kt
          · show Steps p.tables e below (T27.setTop (mkF m 229 #[.val (.int p1), .val (.int p2), .val (.int p3), .val (.int p4), .val (.int p5), .val (.int p6), .val (.int (p1 &&& (3 : Int32))), .val (.int (256 : Int32)), .val (.int x2), .val (.int y4), .val (.int z6), .val (.int c8), .val (.int c10), .val (.int c12), .val (.int t14), .val (.int r17), .val (.ref b19), .val (.long (((pl27.toInt64) <<< ((32 : Int32) &&& 0x3f).toInt64) ||| (rk27.toInt64))), .second, .unset, .unset, .unset, .unset] [(.int (c8 + c10)), (.int r17)])) _
            refine XS.icmpYes X27.here hx rfl (pc0 := 229) (pc' := 246) rfl (hb hby at_229) rfl (flt j229_30).2.1 (by decide) (by decide) ?_
            refine XS.iload X27.here hx rfl (hb hby at_246) rfl ?_
            refine XS.istore X27.here hx rfl (hb hby at_248) rfl (l' := #[.val (.int p1), .val (.int p2), .val (.int p3), .val (.int p4), .val (.int p5), .val (.int p6), .val (.int (p1 &&& (3 : Int32))), .val (.int (256 : Int32)), .val (.int x2), .val (.int y4), .val (.int z6), .val (.int c8), .val (.int c10), .val (.int c12), .val (.int t14), .val (.int r17), .val (.ref b19), .val (.long (((pl27.toInt64) <<< ((32 : Int32) &&& 0x3f).toInt64) ||| (rk27.toInt64))), .second, .val (.int z6), .unset, .unset, .unset]) rfl ?_
            show Steps p.tables e below (T27.setTop (mkF m 250 #[.val (.int p1), .val (.int p2), .val (.int p3), .val (.int p4), .val (.int p5), .val (.int p6), .val (.int (p1 &&& (3 : Int32))), .val (.int (256 : Int32)), .val (.int x2), .val (.int y4), .val (.int z6), .val (.int c8), .val (.int c10), .val (.int c12), .val (.int t14), .val (.int r17), .val (.ref b19), .val (.long (((pl27.toInt64) <<< ((32 : Int32) &&& 0x3f).toInt64) ||| (rk27.toInt64))), .second, .val (.int z6), .unset, .unset, .unset] [])) _
            refine XS.iload X27.here hx rfl (hb hby at_250) rfl ?_
            refine XS.iload X27.here hx rfl (hb hby at_252) rfl ?_
            refine XS.isub X27.here hx rfl (hb hby at_254) rfl ?_
            show Steps p.tables e below (T27.setTop (mkF m 255 #[.val (.int p1), .val (.int p2), .val (.int p3), .val (.int p4), .val (.int p5), .val (.int p6), .val (.int (p1 &&& (3 : Int32))), .val (.int (256 : Int32)), .val (.int x2), .val (.int y4), .val (.int z6), .val (.int c8), .val (.int c10), .val (.int c12), .val (.int t14), .val (.int r17), .val (.ref b19), .val (.long (((pl27.toInt64) <<< ((32 : Int32) &&& 0x3f).toInt64) ||| (rk27.toInt64))), .second, .val (.int z6), .unset, .unset, .unset] [(.int (r17 - c8))])) _
            refine XS.iload X27.here hx rfl (hb hby at_255) rfl ?_
            refine XS.isub X27.here hx rfl (hb hby at_257) rfl ?_
            refine XS.istore X27.here hx rfl (hb hby at_258) rfl (l' := #[.val (.int p1), .val (.int p2), .val (.int p3), .val (.int p4), .val (.int p5), .val (.int p6), .val (.int (p1 &&& (3 : Int32))), .val (.int (256 : Int32)), .val (.int x2), .val (.int y4), .val (.int z6), .val (.int c8), .val (.int c10), .val (.int c12), .val (.int t14), .val (.int r17), .val (.ref b19), .val (.long (((pl27.toInt64) <<< ((32 : Int32) &&& 0x3f).toInt64) ||| (rk27.toInt64))), .second, .val (.int z6), .val (.int ((r17 - c8) - c10)), .unset, .unset]) rfl ?_
            obtain rfl : v31 = z6 := by rw [hv31, if_neg j208_29, if_neg j229_30]
            obtain rfl : v32 = ((r17 - c8) - c10) := by rw [hv32, if_neg j208_29, if_neg j229_30]
            exact kt
      obtain ⟨fp, fw⟩ := own_final x2 y4 z6 c8 c10 c12 r17 pl27 rk27 v31 v32 M27 Rc8 Rc10 Rc12 Ry4.1 Rz6.1 Rr17.1 (by omega) I27 hv31 hv32
      obtain ⟨fs, hr, hrun, hended, hW, hsame⟩ := X27.leave (v := some (.int (1 : Int32))) (fun h => by rw [Bd.returns] at h; cases h)
      refine ⟨_, _, pre0 _ (c1 _ (c3 _ (c5 _ (c7 _ (c9 _ (c11 _ (c13 _ (c15 _ (c16 _ (c18 _ (c28 _ (c33 _ (?_))))))))))))), hrun, hended, _, _, rfl, ?_, ⟨_, rfl⟩, hW, hsame.mono (by decide) (by decide)⟩
      · show Steps p.tables e below (T27.setTop (mkF m 260 #[.val (.int p1), .val (.int p2), .val (.int p3), .val (.int p4), .val (.int p5), .val (.int p6), .val (.int (p1 &&& (3 : Int32))), .val (.int (256 : Int32)), .val (.int x2), .val (.int y4), .val (.int z6), .val (.int c8), .val (.int c10), .val (.int c12), .val (.int t14), .val (.int r17), .val (.ref b19), .val (.long (((pl27.toInt64) <<< ((32 : Int32) &&& 0x3f).toInt64) ||| (rk27.toInt64))), .second, .val (.int v31), .val (.int v32), .unset, .unset] [])) _
        refine XS.iload X27.here hx rfl (hb hby at_260) rfl ?_
        refine XS.i2l X27.here hx rfl (hb hby at_262) rfl ?_
        refine XS.bipush X27.here hx rfl (hb hby at_263) ?_
        show Steps p.tables e below (T27.setTop (mkF m 265 #[.val (.int p1), .val (.int p2), .val (.int p3), .val (.int p4), .val (.int p5), .val (.int p6), .val (.int (p1 &&& (3 : Int32))), .val (.int (256 : Int32)), .val (.int x2), .val (.int y4), .val (.int z6), .val (.int c8), .val (.int c10), .val (.int c12), .val (.int t14), .val (.int r17), .val (.ref b19), .val (.long (((pl27.toInt64) <<< ((32 : Int32) &&& 0x3f).toInt64) ||| (rk27.toInt64))), .second, .val (.int v31), .val (.int v32), .unset, .unset] [(.int (32 : Int32)), (.long (v31.toInt64))])) _
        refine XS.lshl X27.here hx rfl (hb hby at_265) rfl ?_
        refine XS.iload X27.here hx rfl (hb hby at_266) rfl ?_
        refine XS.i2l X27.here hx rfl (hb hby at_268) rfl ?_
        show Steps p.tables e below (T27.setTop (mkF m 269 #[.val (.int p1), .val (.int p2), .val (.int p3), .val (.int p4), .val (.int p5), .val (.int p6), .val (.int (p1 &&& (3 : Int32))), .val (.int (256 : Int32)), .val (.int x2), .val (.int y4), .val (.int z6), .val (.int c8), .val (.int c10), .val (.int c12), .val (.int t14), .val (.int r17), .val (.ref b19), .val (.long (((pl27.toInt64) <<< ((32 : Int32) &&& 0x3f).toInt64) ||| (rk27.toInt64))), .second, .val (.int v31), .val (.int v32), .unset, .unset] [(.long (v32.toInt64)), (.long ((v31.toInt64) <<< ((32 : Int32) &&& 0x3f).toInt64))])) _
        refine XS.lor X27.here hx rfl (hb hby at_269) rfl ?_
        refine XS.lstore X27.here hx rfl (hb hby at_270) rfl (l' := #[.val (.int p1), .val (.int p2), .val (.int p3), .val (.int p4), .val (.int p5), .val (.int p6), .val (.int (p1 &&& (3 : Int32))), .val (.int (256 : Int32)), .val (.int x2), .val (.int y4), .val (.int z6), .val (.int c8), .val (.int c10), .val (.int c12), .val (.int t14), .val (.int r17), .val (.ref b19), .val (.long (((pl27.toInt64) <<< ((32 : Int32) &&& 0x3f).toInt64) ||| (rk27.toInt64))), .second, .val (.int v31), .val (.int v32), .val (.long (((v31.toInt64) <<< ((32 : Int32) &&& 0x3f).toInt64) ||| (v32.toInt64))), .second]) rfl ?_
        refine XS.lload X27.here hx rfl (hb hby at_272) rfl ?_
        show Steps p.tables e below (T27.setTop (mkF m 274 #[.val (.int p1), .val (.int p2), .val (.int p3), .val (.int p4), .val (.int p5), .val (.int p6), .val (.int (p1 &&& (3 : Int32))), .val (.int (256 : Int32)), .val (.int x2), .val (.int y4), .val (.int z6), .val (.int c8), .val (.int c10), .val (.int c12), .val (.int t14), .val (.int r17), .val (.ref b19), .val (.long (((pl27.toInt64) <<< ((32 : Int32) &&& 0x3f).toInt64) ||| (rk27.toInt64))), .second, .val (.int v31), .val (.int v32), .val (.long (((v31.toInt64) <<< ((32 : Int32) &&& 0x3f).toInt64) ||| (v32.toInt64))), .second] [(.long (((pl27.toInt64) <<< ((32 : Int32) &&& 0x3f).toInt64) ||| (rk27.toInt64)))])) _
        refine XS.lload X27.here hx rfl (hb hby at_274) rfl ?_
        refine XS.lcmp X27.here hx rfl (hb hby at_276) rfl ?_
        refine XS.ifNo X27.here hx rfl (hb hby at_277) rfl ((if0 _ _).trans (teq (by rw [fp, fw]; simp [lcmpW] : (lcmpW (((pl27.toInt64) <<< ((32 : Int32) &&& 0x3f).toInt64) ||| (rk27.toInt64)) (((v31.toInt64) <<< ((32 : Int32) &&& 0x3f).toInt64) ||| (v32.toInt64))) = (0 : Int32))).2) ?_
        show Steps p.tables e below (T27.setTop (mkF m 280 #[.val (.int p1), .val (.int p2), .val (.int p3), .val (.int p4), .val (.int p5), .val (.int p6), .val (.int (p1 &&& (3 : Int32))), .val (.int (256 : Int32)), .val (.int x2), .val (.int y4), .val (.int z6), .val (.int c8), .val (.int c10), .val (.int c12), .val (.int t14), .val (.int r17), .val (.ref b19), .val (.long (((pl27.toInt64) <<< ((32 : Int32) &&& 0x3f).toInt64) ||| (rk27.toInt64))), .second, .val (.int v31), .val (.int v32), .val (.long (((v31.toInt64) <<< ((32 : Int32) &&& 0x3f).toInt64) ||| (v32.toInt64))), .second] [])) _
        refine XS.iconst X27.here hx rfl (hb hby at_280) ?_
        refine XS.goto X27.here hx rfl (pc0 := 281) (pc' := 285) rfl (hb hby at_281) (by decide) (by decide) ?_
        show Steps p.tables e below (T27.setTop (mkF m 285 #[.val (.int p1), .val (.int p2), .val (.int p3), .val (.int p4), .val (.int p5), .val (.int p6), .val (.int (p1 &&& (3 : Int32))), .val (.int (256 : Int32)), .val (.int x2), .val (.int y4), .val (.int z6), .val (.int c8), .val (.int c10), .val (.int c12), .val (.int t14), .val (.int r17), .val (.ref b19), .val (.long (((pl27.toInt64) <<< ((32 : Int32) &&& 0x3f).toInt64) ||| (rk27.toInt64))), .second, .val (.int v31), .val (.int v32), .val (.long (((v31.toInt64) <<< ((32 : Int32) &&& 0x3f).toInt64) ||| (v32.toInt64))), .second] [(.int (1 : Int32))])) _
        exact retN X27 hx (t := .boolean) Bd.returns (by simp) (hb hby at_285) hr
      · show Qrm0 Z p1 p2 p3 p4 p5 p6 h0 n0 _ T27.heap _
        rw [e27]
        exact ⟨rfl, N27⟩
  · have c34 : ∀ t, Steps p.tables e below (s₁.setTop (mkF m 21 #[.val (.int p1), .val (.int p2), .val (.int p3), .val (.int p4), .val (.int p5), .val (.int p6), .val (.int (p1 &&& (3 : Int32))), .unset, .unset, .unset, .unset, .unset, .unset, .unset, .unset, .unset, .unset, .unset, .unset, .unset, .unset, .unset, .unset] [(.int (1 : Int32)), (.int (p1 &&& (3 : Int32)))])) t → Steps p.tables e below (s₁.setTop (mkF m 7 #[.val (.int p1), .val (.int p2), .val (.int p3), .val (.int p4), .val (.int p5), .val (.int p6), .val (.int (p1 &&& (3 : Int32))), .unset, .unset, .unset, .unset, .unset, .unset, .unset, .unset, .unset, .unset, .unset, .unset, .unset, .unset, .unset, .unset] [(.int (p1 &&& (3 : Int32)))])) t := by
      intro t kt
      show Steps p.tables e below (s₁.setTop (mkF m 7 #[.val (.int p1), .val (.int p2), .val (.int p3), .val (.int p4), .val (.int p5), .val (.int p6), .val (.int (p1 &&& (3 : Int32))), .unset, .unset, .unset, .unset, .unset, .unset, .unset, .unset, .unset, .unset, .unset, .unset, .unset, .unset, .unset, .unset] [(.int (p1 &&& (3 : Int32)))])) _
      refine XS.ifYes X0.here hx rfl (pc0 := 7) (pc' := 18) rfl (hb hby at_7) rfl ((if0 _ _).trans (feq hc7).2) (by decide) (by decide) ?_
      refine XS.iload X0.here hx rfl (hb hby at_18) rfl ?_
      refine XS.iconst X0.here hx rfl (hb hby at_20) ?_
      exact kt
    by_cases hc21 : (p1 &&& (3 : Int32)) = (1 : Int32)
    · obtain ⟨x35, hx35⟩ : ∃ z, z = ((p2 &&& (2147483647 : Int32)) % (255 : Int32)) := ⟨_, rfl⟩
      have c36 : ∀ t, Steps p.tables e below (s₁.setTop (mkF m 62 #[.val (.int p1), .val (.int p2), .val (.int p3), .val (.int p4), .val (.int p5), .val (.int p6), .val (.int (p1 &&& (3 : Int32))), .val (.int (257 : Int32)), .val (.int x35), .unset, .unset, .unset, .unset, .unset, .unset, .unset, .unset, .unset, .unset, .unset, .unset, .unset, .unset] [])) t → Steps p.tables e below (s₁.setTop (mkF m 21 #[.val (.int p1), .val (.int p2), .val (.int p3), .val (.int p4), .val (.int p5), .val (.int p6), .val (.int (p1 &&& (3 : Int32))), .unset, .unset, .unset, .unset, .unset, .unset, .unset, .unset, .unset, .unset, .unset, .unset, .unset, .unset, .unset, .unset] [(.int (1 : Int32)), (.int (p1 &&& (3 : Int32)))])) t := by
        intro t kt
        subst hx35
        show Steps p.tables e below (s₁.setTop (mkF m 21 #[.val (.int p1), .val (.int p2), .val (.int p3), .val (.int p4), .val (.int p5), .val (.int p6), .val (.int (p1 &&& (3 : Int32))), .unset, .unset, .unset, .unset, .unset, .unset, .unset, .unset, .unset, .unset, .unset, .unset, .unset, .unset, .unset, .unset] [(.int (1 : Int32)), (.int (p1 &&& (3 : Int32)))])) _
        refine XS.icmpNo X0.here hx rfl (hb hby at_21) rfl (teq hc21).2 ?_
        refine XS.sipush X0.here hx rfl (hb hby at_24) ?_
        refine XS.istore X0.here hx rfl (hb hby at_27) rfl (l' := #[.val (.int p1), .val (.int p2), .val (.int p3), .val (.int p4), .val (.int p5), .val (.int p6), .val (.int (p1 &&& (3 : Int32))), .val (.int (257 : Int32)), .unset, .unset, .unset, .unset, .unset, .unset, .unset, .unset, .unset, .unset, .unset, .unset, .unset, .unset, .unset]) rfl ?_
        show Steps p.tables e below (s₁.setTop (mkF m 29 #[.val (.int p1), .val (.int p2), .val (.int p3), .val (.int p4), .val (.int p5), .val (.int p6), .val (.int (p1 &&& (3 : Int32))), .val (.int (257 : Int32)), .unset, .unset, .unset, .unset, .unset, .unset, .unset, .unset, .unset, .unset, .unset, .unset, .unset, .unset, .unset] [])) _
        refine XS.goto X0.here hx rfl (pc0 := 29) (pc' := 51) rfl (hb hby at_29) (by decide) (by decide) ?_
        refine XS.iloadN X0.here hx rfl (hb hby at_51) rfl ?_
        refine X0.ldcInt hx hown (mvT hZ (hw _ (List.mem_of_getElem? (i := 0) rfl))) (g := (mkF m 52 #[.val (.int p1), .val (.int p2), .val (.int p3), .val (.int p4), .val (.int p5), .val (.int p6), .val (.int (p1 &&& (3 : Int32))), .val (.int (257 : Int32)), .unset, .unset, .unset, .unset, .unset, .unset, .unset, .unset, .unset, .unset, .unset, .unset, .unset, .unset, .unset] [(.int p2)])) rfl (hb hby at_52) _ ?_
        show Steps p.tables e below (s₁.setTop (mkF m 54 #[.val (.int p1), .val (.int p2), .val (.int p3), .val (.int p4), .val (.int p5), .val (.int p6), .val (.int (p1 &&& (3 : Int32))), .val (.int (257 : Int32)), .unset, .unset, .unset, .unset, .unset, .unset, .unset, .unset, .unset, .unset, .unset, .unset, .unset, .unset, .unset] [(.int (2147483647 : Int32)), (.int p2)])) _
        refine XS.iand X0.here hx rfl (hb hby at_54) rfl ?_
        refine XS.iload X0.here hx rfl (hb hby at_55) rfl ?_
        refine XS.iconst X0.here hx rfl (hb hby at_57) ?_
        show Steps p.tables e below (s₁.setTop (mkF m 58 #[.val (.int p1), .val (.int p2), .val (.int p3), .val (.int p4), .val (.int p5), .val (.int p6), .val (.int (p1 &&& (3 : Int32))), .val (.int (257 : Int32)), .unset, .unset, .unset, .unset, .unset, .unset, .unset, .unset, .unset, .unset, .unset, .unset, .unset, .unset, .unset] [(.int (2 : Int32)), (.int (257 : Int32)), (.int (p2 &&& (2147483647 : Int32)))])) _
        refine XS.isub X0.here hx rfl (hb hby at_58) rfl ?_
        refine Jvm.RoadKit.iremM (g := (mkF m 59 #[.val (.int p1), .val (.int p2), .val (.int p3), .val (.int p4), .val (.int p5), .val (.int p6), .val (.int (p1 &&& (3 : Int32))), .val (.int (257 : Int32)), .unset, .unset, .unset, .unset, .unset, .unset, .unset, .unset, .unset, .unset, .unset, .unset, .unset, .unset, .unset] [(.int (255 : Int32)), (.int (p2 &&& (2147483647 : Int32)))])) X0 hx rfl (hb hby at_59) rfl (by decide) ?_
        refine XS.istore X0.here hx rfl (hb hby at_60) rfl (l' := #[.val (.int p1), .val (.int p2), .val (.int p3), .val (.int p4), .val (.int p5), .val (.int p6), .val (.int (p1 &&& (3 : Int32))), .val (.int (257 : Int32)), .val (.int ((p2 &&& (2147483647 : Int32)) % (255 : Int32))), .unset, .unset, .unset, .unset, .unset, .unset, .unset, .unset, .unset, .unset, .unset, .unset, .unset, .unset]) rfl ?_
        exact kt
      have Rx35 : 0 ≤ x35.toInt ∧ x35.toInt < 255 := by rw [hx35]; exact own_mod _ _ (by decide)
      have Sx35 : ((255 : Int32) - x35).toInt = 255 - x35.toInt := Jvm.Kit.i32_sub (by show -2 ^ 31 ≤ (255 : Int) - _; omega) (by show (255 : Int) - _ < 2 ^ 31; omega)
      obtain ⟨y37, hy37⟩ : ∃ z, z = ((x35 + (1 : Int32)) + ((p3 &&& (2147483647 : Int32)) % ((255 : Int32) - x35))) := ⟨_, rfl⟩
      have c38 : ∀ t, Steps p.tables e below (s₁.setTop (mkF m 81 #[.val (.int p1), .val (.int p2), .val (.int p3), .val (.int p4), .val (.int p5), .val (.int p6), .val (.int (p1 &&& (3 : Int32))), .val (.int (257 : Int32)), .val (.int x35), .val (.int y37), .unset, .unset, .unset, .unset, .unset, .unset, .unset, .unset, .unset, .unset, .unset, .unset, .unset] [])) t → Steps p.tables e below (s₁.setTop (mkF m 62 #[.val (.int p1), .val (.int p2), .val (.int p3), .val (.int p4), .val (.int p5), .val (.int p6), .val (.int (p1 &&& (3 : Int32))), .val (.int (257 : Int32)), .val (.int x35), .unset, .unset, .unset, .unset, .unset, .unset, .unset, .unset, .unset, .unset, .unset, .unset, .unset, .unset] [])) t := by
        intro t kt
        subst hy37
        show Steps p.tables e below (s₁.setTop (mkF m 62 #[.val (.int p1), .val (.int p2), .val (.int p3), .val (.int p4), .val (.int p5), .val (.int p6), .val (.int (p1 &&& (3 : Int32))), .val (.int (257 : Int32)), .val (.int x35), .unset, .unset, .unset, .unset, .unset, .unset, .unset, .unset, .unset, .unset, .unset, .unset, .unset, .unset] [])) _
        refine XS.iload X0.here hx rfl (hb hby at_62) rfl ?_
        refine XS.iconst X0.here hx rfl (hb hby at_64) ?_
        refine XS.iadd X0.here hx rfl (hb hby at_65) rfl ?_
        show Steps p.tables e below (s₁.setTop (mkF m 66 #[.val (.int p1), .val (.int p2), .val (.int p3), .val (.int p4), .val (.int p5), .val (.int p6), .val (.int (p1 &&& (3 : Int32))), .val (.int (257 : Int32)), .val (.int x35), .unset, .unset, .unset, .unset, .unset, .unset, .unset, .unset, .unset, .unset, .unset, .unset, .unset, .unset] [(.int (x35 + (1 : Int32)))])) _
        refine XS.iloadN X0.here hx rfl (hb hby at_66) rfl ?_
        refine X0.ldcInt hx hown (mvT hZ (hw _ (List.mem_of_getElem? (i := 0) rfl))) (g := (mkF m 67 #[.val (.int p1), .val (.int p2), .val (.int p3), .val (.int p4), .val (.int p5), .val (.int p6), .val (.int (p1 &&& (3 : Int32))), .val (.int (257 : Int32)), .val (.int x35), .unset, .unset, .unset, .unset, .unset, .unset, .unset, .unset, .unset, .unset, .unset, .unset, .unset, .unset] [(.int p3), (.int (x35 + (1 : Int32)))])) rfl (hb hby at_67) _ ?_
        refine XS.iand X0.here hx rfl (hb hby at_69) rfl ?_
        show Steps p.tables e below (s₁.setTop (mkF m 70 #[.val (.int p1), .val (.int p2), .val (.int p3), .val (.int p4), .val (.int p5), .val (.int p6), .val (.int (p1 &&& (3 : Int32))), .val (.int (257 : Int32)), .val (.int x35), .unset, .unset, .unset, .unset, .unset, .unset, .unset, .unset, .unset, .unset, .unset, .unset, .unset, .unset] [(.int (p3 &&& (2147483647 : Int32))), (.int (x35 + (1 : Int32)))])) _
        refine XS.iload X0.here hx rfl (hb hby at_70) rfl ?_
        refine XS.iconst X0.here hx rfl (hb hby at_72) ?_
        refine XS.isub X0.here hx rfl (hb hby at_73) rfl ?_
        show Steps p.tables e below (s₁.setTop (mkF m 74 #[.val (.int p1), .val (.int p2), .val (.int p3), .val (.int p4), .val (.int p5), .val (.int p6), .val (.int (p1 &&& (3 : Int32))), .val (.int (257 : Int32)), .val (.int x35), .unset, .unset, .unset, .unset, .unset, .unset, .unset, .unset, .unset, .unset, .unset, .unset, .unset, .unset] [(.int (255 : Int32)), (.int (p3 &&& (2147483647 : Int32))), (.int (x35 + (1 : Int32)))])) _
        refine XS.iload X0.here hx rfl (hb hby at_74) rfl ?_
        refine XS.isub X0.here hx rfl (hb hby at_76) rfl ?_
        refine Jvm.RoadKit.iremM (g := (mkF m 77 #[.val (.int p1), .val (.int p2), .val (.int p3), .val (.int p4), .val (.int p5), .val (.int p6), .val (.int (p1 &&& (3 : Int32))), .val (.int (257 : Int32)), .val (.int x35), .unset, .unset, .unset, .unset, .unset, .unset, .unset, .unset, .unset, .unset, .unset, .unset, .unset, .unset] [(.int ((255 : Int32) - x35)), (.int (p3 &&& (2147483647 : Int32))), (.int (x35 + (1 : Int32)))])) X0 hx rfl (hb hby at_77) rfl (own_nz (by omega)) ?_
        show Steps p.tables e below (s₁.setTop (mkF m 78 #[.val (.int p1), .val (.int p2), .val (.int p3), .val (.int p4), .val (.int p5), .val (.int p6), .val (.int (p1 &&& (3 : Int32))), .val (.int (257 : Int32)), .val (.int x35), .unset, .unset, .unset, .unset, .unset, .unset, .unset, .unset, .unset, .unset, .unset, .unset, .unset, .unset] [(.int ((p3 &&& (2147483647 : Int32)) % ((255 : Int32) - x35))), (.int (x35 + (1 : Int32)))])) _
        refine XS.iadd X0.here hx rfl (hb hby at_78) rfl ?_
        refine XS.istore X0.here hx rfl (hb hby at_79) rfl (l' := #[.val (.int p1), .val (.int p2), .val (.int p3), .val (.int p4), .val (.int p5), .val (.int p6), .val (.int (p1 &&& (3 : Int32))), .val (.int (257 : Int32)), .val (.int x35), .val (.int ((x35 + (1 : Int32)) + ((p3 &&& (2147483647 : Int32)) % ((255 : Int32) - x35)))), .unset, .unset, .unset, .unset, .unset, .unset, .unset, .unset, .unset, .unset, .unset, .unset, .unset]) rfl ?_
        exact kt
      have My37 := own_mod p3 ((255 : Int32) - x35) (by omega)
      have Ry37 : x35.toInt < y37.toInt ∧ y37.toInt < 256 := by
        have o1 : (x35 + (1 : Int32)).toInt = x35.toInt + 1 := Jvm.Kit.i32_add (by show -2 ^ 31 ≤ x35.toInt + 1; omega) (by show x35.toInt + 1 < 2 ^ 31; omega)
        rw [hy37, Jvm.Kit.i32_add (by omega) (by omega), o1]; omega
      have Sy37 : ((256 : Int32) - y37).toInt = 256 - y37.toInt := Jvm.Kit.i32_sub (by show -2 ^ 31 ≤ (256 : Int) - _; omega) (by show (256 : Int) - _ < 2 ^ 31; omega)
      obtain ⟨z39, hz39⟩ : ∃ z, z = ((y37 + (1 : Int32)) + ((p4 &&& (2147483647 : Int32)) % ((256 : Int32) - y37))) := ⟨_, rfl⟩
      have c40 : ∀ t, Steps p.tables e below (s₁.setTop (mkF m 100 #[.val (.int p1), .val (.int p2), .val (.int p3), .val (.int p4), .val (.int p5), .val (.int p6), .val (.int (p1 &&& (3 : Int32))), .val (.int (257 : Int32)), .val (.int x35), .val (.int y37), .val (.int z39), .unset, .unset, .unset, .unset, .unset, .unset, .unset, .unset, .unset, .unset, .unset, .unset] [])) t → Steps p.tables e below (s₁.setTop (mkF m 81 #[.val (.int p1), .val (.int p2), .val (.int p3), .val (.int p4), .val (.int p5), .val (.int p6), .val (.int (p1 &&& (3 : Int32))), .val (.int (257 : Int32)), .val (.int x35), .val (.int y37), .unset, .unset, .unset, .unset, .unset, .unset, .unset, .unset, .unset, .unset, .unset, .unset, .unset] [])) t := by
        intro t kt
        subst hz39
        show Steps p.tables e below (s₁.setTop (mkF m 81 #[.val (.int p1), .val (.int p2), .val (.int p3), .val (.int p4), .val (.int p5), .val (.int p6), .val (.int (p1 &&& (3 : Int32))), .val (.int (257 : Int32)), .val (.int x35), .val (.int y37), .unset, .unset, .unset, .unset, .unset, .unset, .unset, .unset, .unset, .unset, .unset, .unset, .unset] [])) _
        refine XS.iload X0.here hx rfl (hb hby at_81) rfl ?_
        refine XS.iconst X0.here hx rfl (hb hby at_83) ?_
        refine XS.iadd X0.here hx rfl (hb hby at_84) rfl ?_
        show Steps p.tables e below (s₁.setTop (mkF m 85 #[.val (.int p1), .val (.int p2), .val (.int p3), .val (.int p4), .val (.int p5), .val (.int p6), .val (.int (p1 &&& (3 : Int32))), .val (.int (257 : Int32)), .val (.int x35), .val (.int y37), .unset, .unset, .unset, .unset, .unset, .unset, .unset, .unset, .unset, .unset, .unset, .unset, .unset] [(.int (y37 + (1 : Int32)))])) _
        refine XS.iloadN X0.here hx rfl (hb hby at_85) rfl ?_
        refine X0.ldcInt hx hown (mvT hZ (hw _ (List.mem_of_getElem? (i := 0) rfl))) (g := (mkF m 86 #[.val (.int p1), .val (.int p2), .val (.int p3), .val (.int p4), .val (.int p5), .val (.int p6), .val (.int (p1 &&& (3 : Int32))), .val (.int (257 : Int32)), .val (.int x35), .val (.int y37), .unset, .unset, .unset, .unset, .unset, .unset, .unset, .unset, .unset, .unset, .unset, .unset, .unset] [(.int p4), (.int (y37 + (1 : Int32)))])) rfl (hb hby at_86) _ ?_
        refine XS.iand X0.here hx rfl (hb hby at_88) rfl ?_
        show Steps p.tables e below (s₁.setTop (mkF m 89 #[.val (.int p1), .val (.int p2), .val (.int p3), .val (.int p4), .val (.int p5), .val (.int p6), .val (.int (p1 &&& (3 : Int32))), .val (.int (257 : Int32)), .val (.int x35), .val (.int y37), .unset, .unset, .unset, .unset, .unset, .unset, .unset, .unset, .unset, .unset, .unset, .unset, .unset] [(.int (p4 &&& (2147483647 : Int32))), (.int (y37 + (1 : Int32)))])) _
        refine XS.iload X0.here hx rfl (hb hby at_89) rfl ?_
        refine XS.iconst X0.here hx rfl (hb hby at_91) ?_
        refine XS.isub X0.here hx rfl (hb hby at_92) rfl ?_
        show Steps p.tables e below (s₁.setTop (mkF m 93 #[.val (.int p1), .val (.int p2), .val (.int p3), .val (.int p4), .val (.int p5), .val (.int p6), .val (.int (p1 &&& (3 : Int32))), .val (.int (257 : Int32)), .val (.int x35), .val (.int y37), .unset, .unset, .unset, .unset, .unset, .unset, .unset, .unset, .unset, .unset, .unset, .unset, .unset] [(.int (256 : Int32)), (.int (p4 &&& (2147483647 : Int32))), (.int (y37 + (1 : Int32)))])) _
        refine XS.iload X0.here hx rfl (hb hby at_93) rfl ?_
        refine XS.isub X0.here hx rfl (hb hby at_95) rfl ?_
        refine Jvm.RoadKit.iremM (g := (mkF m 96 #[.val (.int p1), .val (.int p2), .val (.int p3), .val (.int p4), .val (.int p5), .val (.int p6), .val (.int (p1 &&& (3 : Int32))), .val (.int (257 : Int32)), .val (.int x35), .val (.int y37), .unset, .unset, .unset, .unset, .unset, .unset, .unset, .unset, .unset, .unset, .unset, .unset, .unset] [(.int ((256 : Int32) - y37)), (.int (p4 &&& (2147483647 : Int32))), (.int (y37 + (1 : Int32)))])) X0 hx rfl (hb hby at_96) rfl (own_nz (by omega)) ?_
        show Steps p.tables e below (s₁.setTop (mkF m 97 #[.val (.int p1), .val (.int p2), .val (.int p3), .val (.int p4), .val (.int p5), .val (.int p6), .val (.int (p1 &&& (3 : Int32))), .val (.int (257 : Int32)), .val (.int x35), .val (.int y37), .unset, .unset, .unset, .unset, .unset, .unset, .unset, .unset, .unset, .unset, .unset, .unset, .unset] [(.int ((p4 &&& (2147483647 : Int32)) % ((256 : Int32) - y37))), (.int (y37 + (1 : Int32)))])) _
        refine XS.iadd X0.here hx rfl (hb hby at_97) rfl ?_
        refine XS.istore X0.here hx rfl (hb hby at_98) rfl (l' := #[.val (.int p1), .val (.int p2), .val (.int p3), .val (.int p4), .val (.int p5), .val (.int p6), .val (.int (p1 &&& (3 : Int32))), .val (.int (257 : Int32)), .val (.int x35), .val (.int y37), .val (.int ((y37 + (1 : Int32)) + ((p4 &&& (2147483647 : Int32)) % ((256 : Int32) - y37)))), .unset, .unset, .unset, .unset, .unset, .unset, .unset, .unset, .unset, .unset, .unset, .unset]) rfl ?_
        exact kt
      have Mz39 := own_mod p4 ((256 : Int32) - y37) (by omega)
      have Rz39 : y37.toInt < z39.toInt ∧ z39.toInt < 257 := by
        have o1 : (y37 + (1 : Int32)).toInt = y37.toInt + 1 := Jvm.Kit.i32_add (by show -2 ^ 31 ≤ y37.toInt + 1; omega) (by show y37.toInt + 1 < 2 ^ 31; omega)
        rw [hz39, Jvm.Kit.i32_add (by omega) (by omega), o1]; omega
      obtain ⟨c41, hc41⟩ : ∃ z, z = (p5 &&& (1023 : Int32)) := ⟨_, rfl⟩
      have c42 : ∀ t, Steps p.tables e below (s₁.setTop (mkF m 108 #[.val (.int p1), .val (.int p2), .val (.int p3), .val (.int p4), .val (.int p5), .val (.int p6), .val (.int (p1 &&& (3 : Int32))), .val (.int (257 : Int32)), .val (.int x35), .val (.int y37), .val (.int z39), .val (.int c41), .unset, .unset, .unset, .unset, .unset, .unset, .unset, .unset, .unset, .unset, .unset] [])) t → Steps p.tables e below (s₁.setTop (mkF m 100 #[.val (.int p1), .val (.int p2), .val (.int p3), .val (.int p4), .val (.int p5), .val (.int p6), .val (.int (p1 &&& (3 : Int32))), .val (.int (257 : Int32)), .val (.int x35), .val (.int y37), .val (.int z39), .unset, .unset, .unset, .unset, .unset, .unset, .unset, .unset, .unset, .unset, .unset, .unset] [])) t := by
        intro t kt
        subst hc41
        show Steps p.tables e below (s₁.setTop (mkF m 100 #[.val (.int p1), .val (.int p2), .val (.int p3), .val (.int p4), .val (.int p5), .val (.int p6), .val (.int (p1 &&& (3 : Int32))), .val (.int (257 : Int32)), .val (.int x35), .val (.int y37), .val (.int z39), .unset, .unset, .unset, .unset, .unset, .unset, .unset, .unset, .unset, .unset, .unset, .unset] [])) _
        refine XS.iload X0.here hx rfl (hb hby at_100) rfl ?_
        refine XS.sipush X0.here hx rfl (hb hby at_102) ?_
        refine XS.iand X0.here hx rfl (hb hby at_105) rfl ?_
        show Steps p.tables e below (s₁.setTop (mkF m 106 #[.val (.int p1), .val (.int p2), .val (.int p3), .val (.int p4), .val (.int p5), .val (.int p6), .val (.int (p1 &&& (3 : Int32))), .val (.int (257 : Int32)), .val (.int x35), .val (.int y37), .val (.int z39), .unset, .unset, .unset, .unset, .unset, .unset, .unset, .unset, .unset, .unset, .unset, .unset] [(.int (p5 &&& (1023 : Int32)))])) _
        refine XS.istore X0.here hx rfl (hb hby at_106) rfl (l' := #[.val (.int p1), .val (.int p2), .val (.int p3), .val (.int p4), .val (.int p5), .val (.int p6), .val (.int (p1 &&& (3 : Int32))), .val (.int (257 : Int32)), .val (.int x35), .val (.int y37), .val (.int z39), .val (.int (p5 &&& (1023 : Int32))), .unset, .unset, .unset, .unset, .unset, .unset, .unset, .unset, .unset, .unset, .unset]) rfl ?_
        exact kt
      have Rc41 : 0 ≤ c41.toInt ∧ c41.toInt ≤ 1023 := by rw [hc41]; exact own_1023 _
      obtain ⟨c43, hc43⟩ : ∃ z, z = (((p5.toUInt32 >>> ((10 : Int32) &&& 31).toUInt32).toInt32) &&& (1023 : Int32)) := ⟨_, rfl⟩
      have c44 : ∀ t, Steps p.tables e below (s₁.setTop (mkF m 119 #[.val (.int p1), .val (.int p2), .val (.int p3), .val (.int p4), .val (.int p5), .val (.int p6), .val (.int (p1 &&& (3 : Int32))), .val (.int (257 : Int32)), .val (.int x35), .val (.int y37), .val (.int z39), .val (.int c41), .val (.int c43), .unset, .unset, .unset, .unset, .unset, .unset, .unset, .unset, .unset, .unset] [])) t → Steps p.tables e below (s₁.setTop (mkF m 108 #[.val (.int p1), .val (.int p2), .val (.int p3), .val (.int p4), .val (.int p5), .val (.int p6), .val (.int (p1 &&& (3 : Int32))), .val (.int (257 : Int32)), .val (.int x35), .val (.int y37), .val (.int z39), .val (.int c41), .unset, .unset, .unset, .unset, .unset, .unset, .unset, .unset, .unset, .unset, .unset] [])) t := by
        intro t kt
        subst hc43
        show Steps p.tables e below (s₁.setTop (mkF m 108 #[.val (.int p1), .val (.int p2), .val (.int p3), .val (.int p4), .val (.int p5), .val (.int p6), .val (.int (p1 &&& (3 : Int32))), .val (.int (257 : Int32)), .val (.int x35), .val (.int y37), .val (.int z39), .val (.int c41), .unset, .unset, .unset, .unset, .unset, .unset, .unset, .unset, .unset, .unset, .unset] [])) _
        refine XS.iload X0.here hx rfl (hb hby at_108) rfl ?_
        refine XS.bipush X0.here hx rfl (hb hby at_110) ?_
        refine XS.iushr X0.here hx rfl (hb hby at_112) rfl ?_
        show Steps p.tables e below (s₁.setTop (mkF m 113 #[.val (.int p1), .val (.int p2), .val (.int p3), .val (.int p4), .val (.int p5), .val (.int p6), .val (.int (p1 &&& (3 : Int32))), .val (.int (257 : Int32)), .val (.int x35), .val (.int y37), .val (.int z39), .val (.int c41), .unset, .unset, .unset, .unset, .unset, .unset, .unset, .unset, .unset, .unset, .unset] [(.int ((p5.toUInt32 >>> ((10 : Int32) &&& 31).toUInt32).toInt32))])) _
        refine XS.sipush X0.here hx rfl (hb hby at_113) ?_
        refine XS.iand X0.here hx rfl (hb hby at_116) rfl ?_
        refine XS.istore X0.here hx rfl (hb hby at_117) rfl (l' := #[.val (.int p1), .val (.int p2), .val (.int p3), .val (.int p4), .val (.int p5), .val (.int p6), .val (.int (p1 &&& (3 : Int32))), .val (.int (257 : Int32)), .val (.int x35), .val (.int y37), .val (.int z39), .val (.int c41), .val (.int (((p5.toUInt32 >>> ((10 : Int32) &&& 31).toUInt32).toInt32) &&& (1023 : Int32))), .unset, .unset, .unset, .unset, .unset, .unset, .unset, .unset, .unset, .unset]) rfl ?_
        exact kt
      have Rc43 : 0 ≤ c43.toInt ∧ c43.toInt ≤ 1023 := by rw [hc43]; exact own_1023 _
      obtain ⟨c45, hc45⟩ : ∃ z, z = (((p5.toUInt32 >>> ((20 : Int32) &&& 31).toUInt32).toInt32) &&& (1023 : Int32)) := ⟨_, rfl⟩
      have c46 : ∀ t, Steps p.tables e below (s₁.setTop (mkF m 130 #[.val (.int p1), .val (.int p2), .val (.int p3), .val (.int p4), .val (.int p5), .val (.int p6), .val (.int (p1 &&& (3 : Int32))), .val (.int (257 : Int32)), .val (.int x35), .val (.int y37), .val (.int z39), .val (.int c41), .val (.int c43), .val (.int c45), .unset, .unset, .unset, .unset, .unset, .unset, .unset, .unset, .unset] [])) t → Steps p.tables e below (s₁.setTop (mkF m 119 #[.val (.int p1), .val (.int p2), .val (.int p3), .val (.int p4), .val (.int p5), .val (.int p6), .val (.int (p1 &&& (3 : Int32))), .val (.int (257 : Int32)), .val (.int x35), .val (.int y37), .val (.int z39), .val (.int c41), .val (.int c43), .unset, .unset, .unset, .unset, .unset, .unset, .unset, .unset, .unset, .unset] [])) t := by
        intro t kt
        subst hc45
        show Steps p.tables e below (s₁.setTop (mkF m 119 #[.val (.int p1), .val (.int p2), .val (.int p3), .val (.int p4), .val (.int p5), .val (.int p6), .val (.int (p1 &&& (3 : Int32))), .val (.int (257 : Int32)), .val (.int x35), .val (.int y37), .val (.int z39), .val (.int c41), .val (.int c43), .unset, .unset, .unset, .unset, .unset, .unset, .unset, .unset, .unset, .unset] [])) _
        refine XS.iload X0.here hx rfl (hb hby at_119) rfl ?_
        refine XS.bipush X0.here hx rfl (hb hby at_121) ?_
        refine XS.iushr X0.here hx rfl (hb hby at_123) rfl ?_
        show Steps p.tables e below (s₁.setTop (mkF m 124 #[.val (.int p1), .val (.int p2), .val (.int p3), .val (.int p4), .val (.int p5), .val (.int p6), .val (.int (p1 &&& (3 : Int32))), .val (.int (257 : Int32)), .val (.int x35), .val (.int y37), .val (.int z39), .val (.int c41), .val (.int c43), .unset, .unset, .unset, .unset, .unset, .unset, .unset, .unset, .unset, .unset] [(.int ((p5.toUInt32 >>> ((20 : Int32) &&& 31).toUInt32).toInt32))])) _
        refine XS.sipush X0.here hx rfl (hb hby at_124) ?_
        refine XS.iand X0.here hx rfl (hb hby at_127) rfl ?_
        refine XS.istore X0.here hx rfl (hb hby at_128) rfl (l' := #[.val (.int p1), .val (.int p2), .val (.int p3), .val (.int p4), .val (.int p5), .val (.int p6), .val (.int (p1 &&& (3 : Int32))), .val (.int (257 : Int32)), .val (.int x35), .val (.int y37), .val (.int z39), .val (.int c41), .val (.int c43), .val (.int (((p5.toUInt32 >>> ((20 : Int32) &&& 31).toUInt32).toInt32) &&& (1023 : Int32))), .unset, .unset, .unset, .unset, .unset, .unset, .unset, .unset, .unset]) rfl ?_
        exact kt
      have Rc45 : 0 ≤ c45.toInt ∧ c45.toInt ≤ 1023 := by rw [hc45]; exact own_1023 _
      obtain ⟨t47, ht47⟩ : ∃ z, z = ((c41 + c43) + c45) := ⟨_, rfl⟩
      have c48 : ∀ t, Steps p.tables e below (s₁.setTop (mkF m 140 #[.val (.int p1), .val (.int p2), .val (.int p3), .val (.int p4), .val (.int p5), .val (.int p6), .val (.int (p1 &&& (3 : Int32))), .val (.int (257 : Int32)), .val (.int x35), .val (.int y37), .val (.int z39), .val (.int c41), .val (.int c43), .val (.int c45), .val (.int t47), .unset, .unset, .unset, .unset, .unset, .unset, .unset, .unset] [])) t → Steps p.tables e below (s₁.setTop (mkF m 130 #[.val (.int p1), .val (.int p2), .val (.int p3), .val (.int p4), .val (.int p5), .val (.int p6), .val (.int (p1 &&& (3 : Int32))), .val (.int (257 : Int32)), .val (.int x35), .val (.int y37), .val (.int z39), .val (.int c41), .val (.int c43), .val (.int c45), .unset, .unset, .unset, .unset, .unset, .unset, .unset, .unset, .unset] [])) t := by
        intro t kt
        subst ht47
        show Steps p.tables e below (s₁.setTop (mkF m 130 #[.val (.int p1), .val (.int p2), .val (.int p3), .val (.int p4), .val (.int p5), .val (.int p6), .val (.int (p1 &&& (3 : Int32))), .val (.int (257 : Int32)), .val (.int x35), .val (.int y37), .val (.int z39), .val (.int c41), .val (.int c43), .val (.int c45), .unset, .unset, .unset, .unset, .unset, .unset, .unset, .unset, .unset] [])) _
        refine XS.iload X0.here hx rfl (hb hby at_130) rfl ?_
        refine XS.iload X0.here hx rfl (hb hby at_132) rfl ?_
        refine XS.iadd X0.here hx rfl (hb hby at_134) rfl ?_
        show Steps p.tables e below (s₁.setTop (mkF m 135 #[.val (.int p1), .val (.int p2), .val (.int p3), .val (.int p4), .val (.int p5), .val (.int p6), .val (.int (p1 &&& (3 : Int32))), .val (.int (257 : Int32)), .val (.int x35), .val (.int y37), .val (.int z39), .val (.int c41), .val (.int c43), .val (.int c45), .unset, .unset, .unset, .unset, .unset, .unset, .unset, .unset, .unset] [(.int (c41 + c43))])) _
        refine XS.iload X0.here hx rfl (hb hby at_135) rfl ?_
        refine XS.iadd X0.here hx rfl (hb hby at_137) rfl ?_
        refine XS.istore X0.here hx rfl (hb hby at_138) rfl (l' := #[.val (.int p1), .val (.int p2), .val (.int p3), .val (.int p4), .val (.int p5), .val (.int p6), .val (.int (p1 &&& (3 : Int32))), .val (.int (257 : Int32)), .val (.int x35), .val (.int y37), .val (.int z39), .val (.int c41), .val (.int c43), .val (.int c45), .val (.int ((c41 + c43) + c45)), .unset, .unset, .unset, .unset, .unset, .unset, .unset, .unset]) rfl ?_
        exact kt
      have Rt47 : t47.toInt = c41.toInt + c43.toInt + c45.toInt := by
        have o1 : (c41 + c43).toInt = c41.toInt + c43.toInt := Jvm.Kit.i32_add (by omega) (by omega)
        rw [ht47, Jvm.Kit.i32_add (by omega) (by omega), o1]
      have c49 : ∀ t, Steps p.tables e below (s₁.setTop (mkF m 142 #[.val (.int p1), .val (.int p2), .val (.int p3), .val (.int p4), .val (.int p5), .val (.int p6), .val (.int (p1 &&& (3 : Int32))), .val (.int (257 : Int32)), .val (.int x35), .val (.int y37), .val (.int z39), .val (.int c41), .val (.int c43), .val (.int c45), .val (.int t47), .unset, .unset, .unset, .unset, .unset, .unset, .unset, .unset] [(.int t47)])) t → Steps p.tables e below (s₁.setTop (mkF m 140 #[.val (.int p1), .val (.int p2), .val (.int p3), .val (.int p4), .val (.int p5), .val (.int p6), .val (.int (p1 &&& (3 : Int32))), .val (.int (257 : Int32)), .val (.int x35), .val (.int y37), .val (.int z39), .val (.int c41), .val (.int c43), .val (.int c45), .val (.int t47), .unset, .unset, .unset, .unset, .unset, .unset, .unset, .unset] [])) t := by
        intro t kt
        show Steps p.tables e below (s₁.setTop (mkF m 140 #[.val (.int p1), .val (.int p2), .val (.int p3), .val (.int p4), .val (.int p5), .val (.int p6), .val (.int (p1 &&& (3 : Int32))), .val (.int (257 : Int32)), .val (.int x35), .val (.int y37), .val (.int z39), .val (.int c41), .val (.int c43), .val (.int c45), .val (.int t47), .unset, .unset, .unset, .unset, .unset, .unset, .unset, .unset] [])) _
        refine XS.iload X0.here hx rfl (hb hby at_140) rfl ?_
        exact kt
      by_cases hc142 : t47 = (0 : Int32)
      · obtain ⟨fs, hr, hrun, hended, hW, hsame⟩ := X0.leave (v := some (.int (1 : Int32))) (fun h => by rw [Bd.returns] at h; cases h)
        refine ⟨_, _, pre0 _ (c1 _ (c34 _ (c36 _ (c38 _ (c40 _ (c42 _ (c44 _ (c46 _ (c48 _ (c49 _ (?_))))))))))), hrun, hended, _, _, rfl, ?_, ⟨_, rfl⟩, hW, hsame.mono (by decide) (by decide)⟩
        · show Steps p.tables e below (s₁.setTop (mkF m 142 #[.val (.int p1), .val (.int p2), .val (.int p3), .val (.int p4), .val (.int p5), .val (.int p6), .val (.int (p1 &&& (3 : Int32))), .val (.int (257 : Int32)), .val (.int x35), .val (.int y37), .val (.int z39), .val (.int c41), .val (.int c43), .val (.int c45), .val (.int t47), .unset, .unset, .unset, .unset, .unset, .unset, .unset, .unset] [(.int t47)])) _
          refine XS.ifNo X0.here hx rfl (hb hby at_142) rfl ((if0 _ _).trans (teq hc142).2) ?_
          refine XS.iconst X0.here hx rfl (hb hby at_145) ?_
          show Steps p.tables e below (s₁.setTop (mkF m 146 #[.val (.int p1), .val (.int p2), .val (.int p3), .val (.int p4), .val (.int p5), .val (.int p6), .val (.int (p1 &&& (3 : Int32))), .val (.int (257 : Int32)), .val (.int x35), .val (.int y37), .val (.int z39), .val (.int c41), .val (.int c43), .val (.int c45), .val (.int t47), .unset, .unset, .unset, .unset, .unset, .unset, .unset, .unset] [(.int (1 : Int32))])) _
          exact retN X0 hx (t := .boolean) Bd.returns (by simp) (hb hby at_146) hr
        · show Qrm0 Z p1 p2 p3 p4 p5 p6 h0 n0 _ s₁.heap _
          rw [e0]
          exact ⟨rfl, N0⟩
      · have Pt47 : 0 < t47.toInt := by
          have nz : ¬ (t47.toInt = 0) := fun q => hc142 (Int32.toInt_inj.mp q)
          omega
        obtain ⟨r50, hr50⟩ : ∃ z, z = ((p6 &&& (2147483647 : Int32)) % t47) := ⟨_, rfl⟩
        have c51 : ∀ t, Steps p.tables e below (s₁.setTop (mkF m 157 #[.val (.int p1), .val (.int p2), .val (.int p3), .val (.int p4), .val (.int p5), .val (.int p6), .val (.int (p1 &&& (3 : Int32))), .val (.int (257 : Int32)), .val (.int x35), .val (.int y37), .val (.int z39), .val (.int c41), .val (.int c43), .val (.int c45), .val (.int t47), .val (.int r50), .unset, .unset, .unset, .unset, .unset, .unset, .unset] [])) t → Steps p.tables e below (s₁.setTop (mkF m 142 #[.val (.int p1), .val (.int p2), .val (.int p3), .val (.int p4), .val (.int p5), .val (.int p6), .val (.int (p1 &&& (3 : Int32))), .val (.int (257 : Int32)), .val (.int x35), .val (.int y37), .val (.int z39), .val (.int c41), .val (.int c43), .val (.int c45), .val (.int t47), .unset, .unset, .unset, .unset, .unset, .unset, .unset, .unset] [(.int t47)])) t := by
          intro t kt
          subst hr50
          show Steps p.tables e below (s₁.setTop (mkF m 142 #[.val (.int p1), .val (.int p2), .val (.int p3), .val (.int p4), .val (.int p5), .val (.int p6), .val (.int (p1 &&& (3 : Int32))), .val (.int (257 : Int32)), .val (.int x35), .val (.int y37), .val (.int z39), .val (.int c41), .val (.int c43), .val (.int c45), .val (.int t47), .unset, .unset, .unset, .unset, .unset, .unset, .unset, .unset] [(.int t47)])) _
          refine XS.ifYes X0.here hx rfl (pc0 := 142) (pc' := 147) rfl (hb hby at_142) rfl ((if0 _ _).trans (feq hc142).2) (by decide) (by decide) ?_
          refine XS.iload X0.here hx rfl (hb hby at_147) rfl ?_
          refine X0.ldcInt hx hown (mvT hZ (hw _ (List.mem_of_getElem? (i := 0) rfl))) (g := (mkF m 149 #[.val (.int p1), .val (.int p2), .val (.int p3), .val (.int p4), .val (.int p5), .val (.int p6), .val (.int (p1 &&& (3 : Int32))), .val (.int (257 : Int32)), .val (.int x35), .val (.int y37), .val (.int z39), .val (.int c41), .val (.int c43), .val (.int c45), .val (.int t47), .unset, .unset, .unset, .unset, .unset, .unset, .unset, .unset] [(.int p6)])) rfl (hb hby at_149) _ ?_
          show Steps p.tables e below (s₁.setTop (mkF m 151 #[.val (.int p1), .val (.int p2), .val (.int p3), .val (.int p4), .val (.int p5), .val (.int p6), .val (.int (p1 &&& (3 : Int32))), .val (.int (257 : Int32)), .val (.int x35), .val (.int y37), .val (.int z39), .val (.int c41), .val (.int c43), .val (.int c45), .val (.int t47), .unset, .unset, .unset, .unset, .unset, .unset, .unset, .unset] [(.int (2147483647 : Int32)), (.int p6)])) _
          refine XS.iand X0.here hx rfl (hb hby at_151) rfl ?_
          refine XS.iload X0.here hx rfl (hb hby at_152) rfl ?_
          refine Jvm.RoadKit.iremM (g := (mkF m 154 #[.val (.int p1), .val (.int p2), .val (.int p3), .val (.int p4), .val (.int p5), .val (.int p6), .val (.int (p1 &&& (3 : Int32))), .val (.int (257 : Int32)), .val (.int x35), .val (.int y37), .val (.int z39), .val (.int c41), .val (.int c43), .val (.int c45), .val (.int t47), .unset, .unset, .unset, .unset, .unset, .unset, .unset, .unset] [(.int t47), (.int (p6 &&& (2147483647 : Int32)))])) X0 hx rfl (hb hby at_154) rfl (own_nz Pt47) ?_
          show Steps p.tables e below (s₁.setTop (mkF m 155 #[.val (.int p1), .val (.int p2), .val (.int p3), .val (.int p4), .val (.int p5), .val (.int p6), .val (.int (p1 &&& (3 : Int32))), .val (.int (257 : Int32)), .val (.int x35), .val (.int y37), .val (.int z39), .val (.int c41), .val (.int c43), .val (.int c45), .val (.int t47), .unset, .unset, .unset, .unset, .unset, .unset, .unset, .unset] [(.int ((p6 &&& (2147483647 : Int32)) % t47))])) _
          refine XS.istore X0.here hx rfl (hb hby at_155) rfl (l' := #[.val (.int p1), .val (.int p2), .val (.int p3), .val (.int p4), .val (.int p5), .val (.int p6), .val (.int (p1 &&& (3 : Int32))), .val (.int (257 : Int32)), .val (.int x35), .val (.int y37), .val (.int z39), .val (.int c41), .val (.int c43), .val (.int c45), .val (.int t47), .val (.int ((p6 &&& (2147483647 : Int32)) % t47)), .unset, .unset, .unset, .unset, .unset, .unset, .unset]) rfl ?_
          exact kt
        have Rr50 : 0 ≤ r50.toInt ∧ r50.toInt < t47.toInt := by rw [hr50]; exact own_mod _ _ Pt47
        obtain ⟨T52, h52, X52, e52, E52, A52, D52, -, st52⟩ := newO X0 hx hZ hown (hw _ (List.mem_of_getElem? (i := 1) rfl)) (hw _ (List.mem_of_getElem? (i := 2) rfl)) (hw _ (List.mem_of_getElem? (i := 3) rfl)) e0 (g := (mkF m 157 #[.val (.int p1), .val (.int p2), .val (.int p3), .val (.int p4), .val (.int p5), .val (.int p6), .val (.int (p1 &&& (3 : Int32))), .val (.int (257 : Int32)), .val (.int x35), .val (.int y37), .val (.int z39), .val (.int c41), .val (.int c43), .val (.int c45), .val (.int t47), .val (.int r50), .unset, .unset, .unset, .unset, .unset, .unset, .unset] [])) rfl (hb hby at_157) (by decide) (by decide)
        obtain ⟨b52, g52⟩ : ∃ z, z = h0.size := ⟨_, rfl⟩
        rw [← g52] at A52 D52 st52
        have g_b52 : n0 ≤ b52 := Nat.le_trans Z0 (Nat.le_of_eq g52.symm)
        have sz_b52 : h0.size ≤ b52 := (Nat.le_trans (Keep.refl h0 []).1 (Nat.le_of_eq g52.symm))
        have F_top_b52 : Fld Z h52 b52 "com/example/ebbtide/ebbtide/cluster/PlaceCounts" "top" "I" (.int (0 : Int32)) := (D52 (Or.inr (hw _ (List.mem_of_getElem? (i := 11) rfl))) (ty := .int) (by decide))
        have F_sums_b52 : Fld Z h52 b52 "com/example/ebbtide/ebbtide/cluster/PlaceCounts" "sums" "[I" .null := (D52 (Or.inr (hw _ (List.mem_of_getElem? (i := 14) rfl))) (ty := (.array .int)) (by decide))
        have F_total_b52 : Fld Z h52 b52 "com/example/ebbtide/ebbtide/cluster/PlaceCounts" "total" "I" (.int (0 : Int32)) := (D52 (Or.inl (hw _ (List.mem_of_getElem? (i := 21) rfl))) (ty := .int) (by decide))
        have K52 : Keep h0 h52 [] := (Keep.refl h0 []).ext E52
        have Z52 : n0 ≤ h52.size := Nat.le_trans Z0 E52.1
        obtain ⟨_, _, ⟨T53, L53, k53, n53⟩, -, X53, ⟨Lc53, hQ53, l53, y53, z53⟩, st53⟩ := X52.specialBack hx (y := (⟨"com/example/ebbtide/ebbtide/cluster/PlaceCounts", "<init>", "(I)V"⟩ : MethodName)) rfl hown (mvT hZ (hw _ (List.mem_of_getElem? (i := 4) rfl))) (mvT hZ (hw _ (List.mem_of_getElem? (i := 5) rfl))) (mvT hZ (hw _ (List.mem_of_getElem? (i := 6) rfl))) (by decide) (backOf (W := 1) (rmI_257 l Z a0 hw [] b52 h52 n0 Z52 A52 F_sums_b52 F_top_b52 F_total_b52 g_b52) hZ (hw _ (List.mem_of_getElem? (i := 6) rfl)) (hw _ (List.mem_of_getElem? (i := 3) rfl)) (by decide) (by decide)) (g := (mkF m 163 #[.val (.int p1), .val (.int p2), .val (.int p3), .val (.int p4), .val (.int p5), .val (.int p6), .val (.int (p1 &&& (3 : Int32))), .val (.int (257 : Int32)), .val (.int x35), .val (.int y37), .val (.int z39), .val (.int c41), .val (.int c43), .val (.int c45), .val (.int t47), .val (.int r50), .unset, .unset, .unset, .unset, .unset, .unset, .unset] [(.int (257 : Int32)), (.ref b52), (.ref b52)])) rfl (by rw [hml]; rfl) (Steps.refl _) (a := b52) (argsL := [(.int (257 : Int32))]) (rest := [(.ref b52)]) (lenOf pd__28I_29V rfl) rfl (by show 2 * 0 + _ ≤ _; exact Nat.le_of_eq rfl) (hb hby at_163) (fun _ _ => ⟨rfl, e52, (by decide : 1 + 1 ≤ _), (by decide : 3 + 513 ≤ _)⟩)
        dsimp only [Pt.U, Pt.locs, Pt.cells, Pt.slots] at X53 l53 y53 z53 st53 hQ53
        subst l53 y53 z53
        obtain ⟨h53, e53⟩ : ∃ h', T53.heap = h' := ⟨_, rfl⟩
        rw [e53] at hQ53
        obtain ⟨rfl, N53q, K53q, Eq53, ⟨bs53, gb53, ne53, Fs53, Ab53⟩, Ft53, Fn53⟩ := hQ53
        have K53 : Keep h0 h53 [] := K52.trans K53q (allS (Or.inr sz_b52) all0)
        have Z53 : n0 ≤ h53.size := Nat.le_trans Z52 K53q.1
        have N53 := Fr.app N0 N53q
        have sz_bs53 : h0.size ≤ bs53 := Nat.le_trans Z0' gb53
        have g_bs53 := gb53
        have e1_55 : (x35 + (1 : Int32)).toInt = x35.toInt + 1 := Jvm.Kit.i32_add (by show -2 ^ 31 ≤ x35.toInt + 1; omega) (by show x35.toInt + 1 < 2 ^ 31; omega)
        obtain ⟨cq54, kq54, q54a, q54b, q54c⟩ := isOf hZ e53 Eq53
        obtain ⟨_, _, ⟨T54, L54, k54, n54⟩, -, X54, ⟨Lc54, hQ54, l54, y54, z54⟩, st54⟩ := X53.virtualBack hx (y := (⟨"com/example/ebbtide/ebbtide/cluster/PlaceCounts", "add", "(II)V"⟩ : MethodName)) (z := (⟨"com/example/ebbtide/ebbtide/cluster/PlaceCounts", "add", "(II)V"⟩ : MethodName)) hown (mvT hZ (hw _ (List.mem_of_getElem? (i := 15) rfl))) (mvT hZ (hw _ (List.mem_of_getElem? (i := 16) rfl))) (notFace_of_selects (args := #[]) (mvT hZ (hw _ (List.mem_of_getElem? (i := 18) rfl)))) (mvT hZ (hw _ (List.mem_of_getElem? (i := 18) rfl))) (mvT hZ (hw _ (List.mem_of_getElem? (i := 17) rfl))) (by decide) (backOf (W := 0) (rmA_512 l Z a0 hw [] b52 bs53 x35 c41 (0 : Int32) (fun _ => (0 : Int32)) h53 n0 Z53 Eq53 Fs53 Ft53 Fn53 Ab53 g_b52 g_bs53 ne53 (by omega)) hZ (hw _ (List.mem_of_getElem? (i := 19) rfl)) (hw _ (List.mem_of_getElem? (i := 3) rfl)) (by decide) (by decide)) q54a q54c (g := (mkF m 174 #[.val (.int p1), .val (.int p2), .val (.int p3), .val (.int p4), .val (.int p5), .val (.int p6), .val (.int (p1 &&& (3 : Int32))), .val (.int (257 : Int32)), .val (.int x35), .val (.int y37), .val (.int z39), .val (.int c41), .val (.int c43), .val (.int c45), .val (.int t47), .val (.int r50), .val (.ref b52), .unset, .unset, .unset, .unset, .unset, .unset] [(.int c41), (.int x35), (.ref b52)])) rfl (by rw [hml]; rfl) (Steps.refl _) (argsL := [(.int x35), (.int c41)]) (rest := []) (lenOf pd__28II_29V rfl) rfl (by show 2 * 0 + _ ≤ _; exact Nat.le_of_eq rfl) (hb hby at_174) (fun _ _ => ⟨rfl, e53, (by decide : 2 + 0 ≤ _), (by decide : 516 + 0 ≤ _)⟩)
        dsimp only [Pt.U, Pt.locs, Pt.cells, Pt.slots] at X54 l54 y54 z54 st54 hQ54
        subst l54 y54 z54
        obtain ⟨h54, e54⟩ : ∃ h', T54.heap = h' := ⟨_, rfl⟩
        rw [e54] at hQ54
        obtain ⟨rfl, N54q, K54q, Eq54, Fs54, Ft54, Fn54, Ab54⟩ := hQ54
        have K54 : Keep h0 h54 [] := K53.trans K54q (allS (Or.inr sz_b52) (allS (Or.inr sz_bs53) all0))
        have Z54 : n0 ≤ h54.size := Nat.le_trans Z53 K54q.1
        have N54 := Fr.app N53 N54q
        have e1_57 : (y37 + (1 : Int32)).toInt = y37.toInt + 1 := Jvm.Kit.i32_add (by show -2 ^ 31 ≤ y37.toInt + 1; omega) (by show y37.toInt + 1 < 2 ^ 31; omega)
        obtain ⟨cq56, kq56, q56a, q56b, q56c⟩ := isOf hZ e54 Eq54
        obtain ⟨_, _, ⟨T56, L56, k56, n56⟩, -, X56, ⟨Lc56, hQ56, l56, y56, z56⟩, st56⟩ := X54.virtualBack hx (y := (⟨"com/example/ebbtide/ebbtide/cluster/PlaceCounts", "add", "(II)V"⟩ : MethodName)) (z := (⟨"com/example/ebbtide/ebbtide/cluster/PlaceCounts", "add", "(II)V"⟩ : MethodName)) hown (mvT hZ (hw _ (List.mem_of_getElem? (i := 15) rfl))) (mvT hZ (hw _ (List.mem_of_getElem? (i := 16) rfl))) (notFace_of_selects (args := #[]) (mvT hZ (hw _ (List.mem_of_getElem? (i := 18) rfl)))) (mvT hZ (hw _ (List.mem_of_getElem? (i := 18) rfl))) (mvT hZ (hw _ (List.mem_of_getElem? (i := 17) rfl))) (by decide) (backOf (W := 0) (rmA_512 l Z a0 hw [] b52 bs53 y37 c43 ((0 : Int32) + c41) (own_fen (fun _ => (0 : Int32)) (x35 + (1 : Int32)).toNatClampNeg c41) h54 n0 Z54 Eq54 Fs54 Ft54 Fn54 Ab54 g_b52 g_bs53 ne53 (by omega)) hZ (hw _ (List.mem_of_getElem? (i := 19) rfl)) (hw _ (List.mem_of_getElem? (i := 3) rfl)) (by decide) (by decide)) q56a q56c (g := (mkF m 183 #[.val (.int p1), .val (.int p2), .val (.int p3), .val (.int p4), .val (.int p5), .val (.int p6), .val (.int (p1 &&& (3 : Int32))), .val (.int (257 : Int32)), .val (.int x35), .val (.int y37), .val (.int z39), .val (.int c41), .val (.int c43), .val (.int c45), .val (.int t47), .val (.int r50), .val (.ref b52), .unset, .unset, .unset, .unset, .unset, .unset] [(.int c43), (.int y37), (.ref b52)])) rfl (by rw [hml]; rfl) (Steps.refl _) (argsL := [(.int y37), (.int c43)]) (rest := []) (lenOf pd__28II_29V rfl) rfl (by show 2 * 0 + _ ≤ _; exact Nat.le_of_eq rfl) (hb hby at_183) (fun _ _ => ⟨rfl, e54, (by decide : 2 + 0 ≤ _), (by decide : 516 + 0 ≤ _)⟩)
        dsimp only [Pt.U, Pt.locs, Pt.cells, Pt.slots] at X56 l56 y56 z56 st56 hQ56
        subst l56 y56 z56
        obtain ⟨h56, e56⟩ : ∃ h', T56.heap = h' := ⟨_, rfl⟩
        rw [e56] at hQ56
        obtain ⟨rfl, N56q, K56q, Eq56, Fs56, Ft56, Fn56, Ab56⟩ := hQ56
        have K56 : Keep h0 h56 [] := K54.trans K56q (allS (Or.inr sz_b52) (allS (Or.inr sz_bs53) all0))
        have Z56 : n0 ≤ h56.size := Nat.le_trans Z54 K56q.1
        have N56 := Fr.app N54 N56q
        have e1_59 : (z39 + (1 : Int32)).toInt = z39.toInt + 1 := Jvm.Kit.i32_add (by show -2 ^ 31 ≤ z39.toInt + 1; omega) (by show z39.toInt + 1 < 2 ^ 31; omega)
        obtain ⟨cq58, kq58, q58a, q58b, q58c⟩ := isOf hZ e56 Eq56
        obtain ⟨_, _, ⟨T58, L58, k58, n58⟩, -, X58, ⟨Lc58, hQ58, l58, y58, z58⟩, st58⟩ := X56.virtualBack hx (y := (⟨"com/example/ebbtide/ebbtide/cluster/PlaceCounts", "add", "(II)V"⟩ : MethodName)) (z := (⟨"com/example/ebbtide/ebbtide/cluster/PlaceCounts", "add", "(II)V"⟩ : MethodName)) hown (mvT hZ (hw _ (List.mem_of_getElem? (i := 15) rfl))) (mvT hZ (hw _ (List.mem_of_getElem? (i := 16) rfl))) (notFace_of_selects (args := #[]) (mvT hZ (hw _ (List.mem_of_getElem? (i := 18) rfl)))) (mvT hZ (hw _ (List.mem_of_getElem? (i := 18) rfl))) (mvT hZ (hw _ (List.mem_of_getElem? (i := 17) rfl))) (by decide) (backOf (W := 0) (rmA_512 l Z a0 hw [] b52 bs53 z39 c45 (((0 : Int32) + c41) + c43) (own_fen (own_fen (fun _ => (0 : Int32)) (x35 + (1 : Int32)).toNatClampNeg c41) (y37 + (1 : Int32)).toNatClampNeg c43) h56 n0 Z56 Eq56 Fs56 Ft56 Fn56 Ab56 g_b52 g_bs53 ne53 (by omega)) hZ (hw _ (List.mem_of_getElem? (i := 19) rfl)) (hw _ (List.mem_of_getElem? (i := 3) rfl)) (by decide) (by decide)) q58a q58c (g := (mkF m 192 #[.val (.int p1), .val (.int p2), .val (.int p3), .val (.int p4), .val (.int p5), .val (.int p6), .val (.int (p1 &&& (3 : Int32))), .val (.int (257 : Int32)), .val (.int x35), .val (.int y37), .val (.int z39), .val (.int c41), .val (.int c43), .val (.int c45), .val (.int t47), .val (.int r50), .val (.ref b52), .unset, .unset, .unset, .unset, .unset, .unset] [(.int c45), (.int z39), (.ref b52)])) rfl (by rw [hml]; rfl) (Steps.refl _) (argsL := [(.int z39), (.int c45)]) (rest := []) (lenOf pd__28II_29V rfl) rfl (by show 2 * 0 + _ ≤ _; exact Nat.le_of_eq rfl) (hb hby at_192) (fun _ _ => ⟨rfl, e56, (by decide : 2 + 0 ≤ _), (by decide : 516 + 0 ≤ _)⟩)
        dsimp only [Pt.U, Pt.locs, Pt.cells, Pt.slots] at X58 l58 y58 z58 st58 hQ58
        subst l58 y58 z58
        obtain ⟨h58, e58⟩ : ∃ h', T58.heap = h' := ⟨_, rfl⟩
        rw [e58] at hQ58
        obtain ⟨rfl, N58q, K58q, Eq58, Fs58, Ft58, Fn58, Ab58⟩ := hQ58
        have K58 : Keep h0 h58 [] := K56.trans K58q (allS (Or.inr sz_b52) (allS (Or.inr sz_bs53) all0))
        have Z58 : n0 ≤ h58.size := Nat.le_trans Z56 K58q.1
        have N58 := Fr.app N56 N58q
        obtain ⟨cq60, kq60, q60a, q60b, q60c⟩ := isOf hZ e58 Eq58
        obtain ⟨_, _, ⟨T60, L60, k60, n60⟩, -, X60, ⟨Lc60, hQ60, l60, y60, z60⟩, st60⟩ := X58.virtualBack hx (y := (⟨"com/example/ebbtide/ebbtide/cluster/PlaceCounts", "locate", "(I)J"⟩ : MethodName)) (z := (⟨"com/example/ebbtide/ebbtide/cluster/PlaceCounts", "locate", "(I)J"⟩ : MethodName)) hown (mvT hZ (hw _ (List.mem_of_getElem? (i := 22) rfl))) (mvT hZ (hw _ (List.mem_of_getElem? (i := 23) rfl))) (notFace_of_selects (args := #[]) (mvT hZ (hw _ (List.mem_of_getElem? (i := 25) rfl)))) (mvT hZ (hw _ (List.mem_of_getElem? (i := 25) rfl))) (mvT hZ (hw _ (List.mem_of_getElem? (i := 24) rfl))) (by decide) (backOf (W := 0) (rmL_512 l Z a0 hw [] b52 bs53 r50 (own_fen (own_fen (own_fen (fun _ => (0 : Int32)) (x35 + (1 : Int32)).toNatClampNeg c41) (y37 + (1 : Int32)).toNatClampNeg c43) (z39 + (1 : Int32)).toNatClampNeg c45) (own_P x35.toInt y37.toInt z39.toInt c41.toInt c43.toInt c45.toInt) h58 n0 Z58 Fs58 Ft58 Ab58 (fun u w q => own_P_mono x35.toInt y37.toInt z39.toInt c41.toInt c43.toInt c45.toInt Rc41.1 Rc43.1 Rc45.1 u w q) (fun u => own_P_lo x35.toInt y37.toInt z39.toInt c41.toInt c43.toInt c45.toInt Rc41.1 Rc43.1 Rc45.1 u) (fun u => Int.le_trans (own_P_hi x35.toInt y37.toInt z39.toInt c41.toInt c43.toInt c45.toInt Rc41.1 Rc43.1 Rc45.1 u) (by omega)) (own_P_zero x35.toInt y37.toInt z39.toInt c41.toInt c43.toInt c45.toInt (by omega) (by omega) (by omega)) Rr50.1 (by omega) (by rw [own_P_all x35.toInt y37.toInt z39.toInt c41.toInt c43.toInt c45.toInt 512 (by omega) (by omega) (by omega)]; omega) (fun k hk q u w => own_nodeI x35 y37 z39 c41 c43 c45 (show 0 ≤ x35.toInt ∧ x35.toInt ≤ 2000 from by omega) (show 0 ≤ y37.toInt ∧ y37.toInt ≤ 2000 from by omega) (show 0 ≤ z39.toInt ∧ z39.toInt ≤ 2000 from by omega) Rc41 Rc43 Rc45 k hk q u w)) hZ (hw _ (List.mem_of_getElem? (i := 26) rfl)) (hw _ (List.mem_of_getElem? (i := 3) rfl)) (by decide) (by decide)) q60a q60c (g := (mkF m 199 #[.val (.int p1), .val (.int p2), .val (.int p3), .val (.int p4), .val (.int p5), .val (.int p6), .val (.int (p1 &&& (3 : Int32))), .val (.int (257 : Int32)), .val (.int x35), .val (.int y37), .val (.int z39), .val (.int c41), .val (.int c43), .val (.int c45), .val (.int t47), .val (.int r50), .val (.ref b52), .unset, .unset, .unset, .unset, .unset, .unset] [(.int r50), (.ref b52)])) rfl (by rw [hml]; rfl) (Steps.refl _) (argsL := [(.int r50)]) (rest := []) (lenOf pd__28I_29J rfl) rfl (by show 2 * 0 + _ ≤ _; exact Nat.le_of_eq rfl) (hb hby at_199) (fun _ _ => ⟨rfl, e58, (by decide : 2 + 0 ≤ _), (by decide : 516 + 0 ≤ _)⟩)
        dsimp only [Pt.U, Pt.locs, Pt.cells, Pt.slots] at X60 l60 y60 z60 st60 hQ60
        subst l60 y60 z60
        obtain ⟨pl60, rk60, M60, rfl, N60q, e60, I60⟩ := hQ60
        have N60 := Fr.app N58 N60q
        have c61 : ∀ t, Steps p.tables e below (T60.setTop (mkF m 208 #[.val (.int p1), .val (.int p2), .val (.int p3), .val (.int p4), .val (.int p5), .val (.int p6), .val (.int (p1 &&& (3 : Int32))), .val (.int (257 : Int32)), .val (.int x35), .val (.int y37), .val (.int z39), .val (.int c41), .val (.int c43), .val (.int c45), .val (.int t47), .val (.int r50), .val (.ref b52), .val (.long (((pl60.toInt64) <<< ((32 : Int32) &&& 0x3f).toInt64) ||| (rk60.toInt64))), .second, .unset, .unset, .unset, .unset] [(.int c41), (.int r50)])) t → Steps p.tables e below (s₁.setTop (mkF m 157 #[.val (.int p1), .val (.int p2), .val (.int p3), .val (.int p4), .val (.int p5), .val (.int p6), .val (.int (p1 &&& (3 : Int32))), .val (.int (257 : Int32)), .val (.int x35), .val (.int y37), .val (.int z39), .val (.int c41), .val (.int c43), .val (.int c45), .val (.int t47), .val (.int r50), .unset, .unset, .unset, .unset, .unset, .unset, .unset] [])) t := by
          intro t kt
          show Steps p.tables e below (s₁.setTop (mkF m 157 #[.val (.int p1), .val (.int p2), .val (.int p3), .val (.int p4), .val (.int p5), .val (.int p6), .val (.int (p1 &&& (3 : Int32))), .val (.int (257 : Int32)), .val (.int x35), .val (.int y37), .val (.int z39), .val (.int c41), .val (.int c43), .val (.int c45), .val (.int t47), .val (.int r50), .unset, .unset, .unset, .unset, .unset, .unset, .unset] [])) _
          refine st52 _ ?_
          refine XS.dup X52.here hx rfl (hb hby at_160) rfl rfl ?_
          refine XS.iload X52.here hx rfl (hb hby at_161) rfl ?_
          show Steps p.tables e below (T52.setTop (mkF m 163 #[.val (.int p1), .val (.int p2), .val (.int p3), .val (.int p4), .val (.int p5), .val (.int p6), .val (.int (p1 &&& (3 : Int32))), .val (.int (257 : Int32)), .val (.int x35), .val (.int y37), .val (.int z39), .val (.int c41), .val (.int c43), .val (.int c45), .val (.int t47), .val (.int r50), .unset, .unset, .unset, .unset, .unset, .unset, .unset] [(.int (257 : Int32)), (.ref b52), (.ref b52)])) _
          refine st53.trans ?_
          refine XS.astore X53.here hx rfl (hb hby at_166) rfl rfl (l' := #[.val (.int p1), .val (.int p2), .val (.int p3), .val (.int p4), .val (.int p5), .val (.int p6), .val (.int (p1 &&& (3 : Int32))), .val (.int (257 : Int32)), .val (.int x35), .val (.int y37), .val (.int z39), .val (.int c41), .val (.int c43), .val (.int c45), .val (.int t47), .val (.int r50), .val (.ref b52), .unset, .unset, .unset, .unset, .unset, .unset]) rfl ?_
          refine XS.aload X53.here hx rfl (hb hby at_168) rfl rfl ?_
          show Steps p.tables e below (T53.setTop (mkF m 170 #[.val (.int p1), .val (.int p2), .val (.int p3), .val (.int p4), .val (.int p5), .val (.int p6), .val (.int (p1 &&& (3 : Int32))), .val (.int (257 : Int32)), .val (.int x35), .val (.int y37), .val (.int z39), .val (.int c41), .val (.int c43), .val (.int c45), .val (.int t47), .val (.int r50), .val (.ref b52), .unset, .unset, .unset, .unset, .unset, .unset] [(.ref b52)])) _
          refine XS.iload X53.here hx rfl (hb hby at_170) rfl ?_
          refine XS.iload X53.here hx rfl (hb hby at_172) rfl ?_
          show Steps p.tables e below (T53.setTop (mkF m 174 #[.val (.int p1), .val (.int p2), .val (.int p3), .val (.int p4), .val (.int p5), .val (.int p6), .val (.int (p1 &&& (3 : Int32))), .val (.int (257 : Int32)), .val (.int x35), .val (.int y37), .val (.int z39), .val (.int c41), .val (.int c43), .val (.int c45), .val (.int t47), .val (.int r50), .val (.ref b52), .unset, .unset, .unset, .unset, .unset, .unset] [(.int c41), (.int x35), (.ref b52)])) _
          refine st54.trans ?_
          refine XS.aload X54.here hx rfl (hb hby at_177) rfl rfl ?_
          refine XS.iload X54.here hx rfl (hb hby at_179) rfl ?_
          show Steps p.tables e below (T54.setTop (mkF m 181 #[.val (.int p1), .val (.int p2), .val (.int p3), .val (.int p4), .val (.int p5), .val (.int p6), .val (.int (p1 &&& (3 : Int32))), .val (.int (257 : Int32)), .val (.int x35), .val (.int y37), .val (.int z39), .val (.int c41), .val (.int c43), .val (.int c45), .val (.int t47), .val (.int r50), .val (.ref b52), .unset, .unset, .unset, .unset, .unset, .unset] [(.int y37), (.ref b52)])) _
          refine XS.iload X54.here hx rfl (hb hby at_181) rfl ?_
          show Steps p.tables e below (T54.setTop (mkF m 183 #[.val (.int p1), .val (.int p2), .val (.int p3), .val (.int p4), .val (.int p5), .val (.int p6), .val (.int (p1 &&& (3 : Int32))), .val (.int (257 : Int32)), .val (.int x35), .val (.int y37), .val (.int z39), .val (.int c41), .val (.int c43), .val (.int c45), .val (.int t47), .val (.int r50), .val (.ref b52), .unset, .unset, .unset, .unset, .unset, .unset] [(.int c43), (.int y37), (.ref b52)])) _
          refine st56.trans ?_
          refine XS.aload X56.here hx rfl (hb hby at_186) rfl rfl ?_
          refine XS.iload X56.here hx rfl (hb hby at_188) rfl ?_
          show Steps p.tables e below (T56.setTop (mkF m 190 #[.val (.int p1), .val (.int p2), .val (.int p3), .val (.int p4), .val (.int p5), .val (.int p6), .val (.int (p1 &&& (3 : Int32))), .val (.int (257 : Int32)), .val (.int x35), .val (.int y37), .val (.int z39), .val (.int c41), .val (.int c43), .val (.int c45), .val (.int t47), .val (.int r50), .val (.ref b52), .unset, .unset, .unset, .unset, .unset, .unset] [(.int z39), (.ref b52)])) _
          refine XS.iload X56.here hx rfl (hb hby at_190) rfl ?_
          show Steps p.tables e below (T56.setTop (mkF m 192 #[.val (.int p1), .val (.int p2), .val (.int p3), .val (.int p4), .val (.int p5), .val (.int p6), .val (.int (p1 &&& (3 : Int32))), .val (.int (257 : Int32)), .val (.int x35), .val (.int y37), .val (.int z39), .val (.int c41), .val (.int c43), .val (.int c45), .val (.int t47), .val (.int r50), .val (.ref b52), .unset, .unset, .unset, .unset, .unset, .unset] [(.int c45), (.int z39), (.ref b52)])) _
          refine st58.trans ?_
          refine XS.aload X58.here hx rfl (hb hby at_195) rfl rfl ?_
          refine XS.iload X58.here hx rfl (hb hby at_197) rfl ?_
          show Steps p.tables e below (T58.setTop (mkF m 199 #[.val (.int p1), .val (.int p2), .val (.int p3), .val (.int p4), .val (.int p5), .val (.int p6), .val (.int (p1 &&& (3 : Int32))), .val (.int (257 : Int32)), .val (.int x35), .val (.int y37), .val (.int z39), .val (.int c41), .val (.int c43), .val (.int c45), .val (.int t47), .val (.int r50), .val (.ref b52), .unset, .unset, .unset, .unset, .unset, .unset] [(.int r50), (.ref b52)])) _
          refine st60.trans ?_
          refine XS.lstore X60.here hx rfl (hb hby at_202) rfl (l' := #[.val (.int p1), .val (.int p2), .val (.int p3), .val (.int p4), .val (.int p5), .val (.int p6), .val (.int (p1 &&& (3 : Int32))), .val (.int (257 : Int32)), .val (.int x35), .val (.int y37), .val (.int z39), .val (.int c41), .val (.int c43), .val (.int c45), .val (.int t47), .val (.int r50), .val (.ref b52), .val (.long (((pl60.toInt64) <<< ((32 : Int32) &&& 0x3f).toInt64) ||| (rk60.toInt64))), .second, .unset, .unset, .unset, .unset]) rfl ?_
          refine XS.iload X60.here hx rfl (hb hby at_204) rfl ?_
          show Steps p.tables e below (T60.setTop (mkF m 206 #[.val (.int p1), .val (.int p2), .val (.int p3), .val (.int p4), .val (.int p5), .val (.int p6), .val (.int (p1 &&& (3 : Int32))), .val (.int (257 : Int32)), .val (.int x35), .val (.int y37), .val (.int z39), .val (.int c41), .val (.int c43), .val (.int c45), .val (.int t47), .val (.int r50), .val (.ref b52), .val (.long (((pl60.toInt64) <<< ((32 : Int32) &&& 0x3f).toInt64) ||| (rk60.toInt64))), .second, .unset, .unset, .unset, .unset] [(.int r50)])) _
          refine XS.iload X60.here hx rfl (hb hby at_206) rfl ?_
          exact kt
        obtain ⟨v64, hv64⟩ : ∃ z, z = (if r50 < c41 then x35 else (if r50 < (c41 + c43) then y37 else z39)) := ⟨_, rfl⟩
        obtain ⟨v65, hv65⟩ : ∃ z, z = (if r50 < c41 then r50 else (if r50 < (c41 + c43) then (r50 - c41) else ((r50 - c41) - c43))) := ⟨_, rfl⟩
        have c66 : ∀ t, Steps p.tables e below (T60.setTop (mkF m 260 #[.val (.int p1), .val (.int p2), .val (.int p3), .val (.int p4), .val (.int p5), .val (.int p6), .val (.int (p1 &&& (3 : Int32))), .val (.int (257 : Int32)), .val (.int x35), .val (.int y37), .val (.int z39), .val (.int c41), .val (.int c43), .val (.int c45), .val (.int t47), .val (.int r50), .val (.ref b52), .val (.long (((pl60.toInt64) <<< ((32 : Int32) &&& 0x3f).toInt64) ||| (rk60.toInt64))), .second, .val (.int v64), .val (.int v65), .unset, .unset] [])) t → Steps p.tables e below (T60.setTop (mkF m 208 #[.val (.int p1), .val (.int p2), .val (.int p3), .val (.int p4), .val (.int p5), .val (.int p6), .val (.int (p1 &&& (3 : Int32))), .val (.int (257 : Int32)), .val (.int x35), .val (.int y37), .val (.int z39), .val (.int c41), .val (.int c43), .val (.int c45), .val (.int t47), .val (.int r50), .val (.ref b52), .val (.long (((pl60.toInt64) <<< ((32 : Int32) &&& 0x3f).toInt64) ||| (rk60.toInt64))), .second, .unset, .unset, .unset, .unset] [(.int c41), (.int r50)])) t := by
          intro t kt
          by_cases j208_62 : r50 < c41
          · show Steps p.tables e below (T60.setTop (mkF m 208 #[.val (.int p1), .val (.int p2), .val (.int p3), .val (.int p4), .val (.int p5), .val (.int p6), .val (.int (p1 &&& (3 : Int32))), .val (.int (257 : Int32)), .val (.int x35), .val (.int y37), .val (.int z39), .val (.int c41), .val (.int c43), .val (.int c45), .val (.int t47), .val (.int r50), .val (.ref b52), .val (.long (((pl60.toInt64) <<< ((32 : Int32) &&& 0x3f).toInt64) ||| (rk60.toInt64))), .second, .unset, .unset, .unset, .unset] [(.int c41), (.int r50)])) _
            refine XS.icmpNo X60.here hx rfl (hb hby at_208) rfl (tlt j208_62).2.1 ?_
            refine XS.iload X60.here hx rfl (hb hby at_211) rfl ?_
            refine XS.istore X60.here hx rfl (hb hby at_213) rfl (l' := #[.val (.int p1), .val (.int p2), .val (.int p3), .val (.int p4), .val (.int p5), .val (.int p6), .val (.int (p1 &&& (3 : Int32))), .val (.int (257 : Int32)), .val (.int x35), .val (.int y37), .val (.int z39), .val (.int c41), .val (.int c43), .val (.int c45), .val (.int t47), .val (.int r50), .val (.ref b52), .val (.long (((pl60.toInt64) <<< ((32 : Int32) &&& 0x3f).toInt64) ||| (rk60.toInt64))), .second, .val (.int x35), .unset, .unset, .unset]) rfl ?_
            show Steps p.tables e below (T60.setTop (mkF m 215 #[.val (.int p1), .val (.int p2), .val (.int p3), .val (.int p4), .val (.int p5), .val (.int p6), .val (.int (p1 &&& (3 : Int32))), .val (.int (257 : Int32)), .val (.int x35), .val (.int y37), .val (.int z39), .val (.int c41), .val (.int c43), .val (.int c45), .val (.int t47), .val (.int r50), .val (.ref b52), .val (.long (((pl60.toInt64) <<< ((32 : Int32) &&& 0x3f).toInt64) ||| (rk60.toInt64))), .second, .val (.int x35), .unset, .unset, .unset] [])) _
            refine XS.iload X60.here hx rfl (hb hby at_215) rfl ?_
            refine XS.istore X60.here hx rfl (hb hby at_217) rfl (l' := #[.val (.int p1), .val (.int p2), .val (.int p3), .val (.int p4), .val (.int p5), .val (.int p6), .val (.int (p1 &&& (3 : Int32))), .val (.int (257 : Int32)), .val (.int x35), .val (.int y37), .val (.int z39), .val (.int c41), .val (.int c43), .val (.int c45), .val (.int t47), .val (.int r50), .val (.ref b52), .val (.long (((pl60.toInt64) <<< ((32 : Int32) &&& 0x3f).toInt64) ||| (rk60.toInt64))), .second, .val (.int x35), .val (.int r50), .unset, .unset]) rfl ?_
            refine XS.goto X60.here hx rfl (pc0 := 219) (pc' := 260) rfl (hb hby at_219) (by decide) (by decide) ?_
            obtain rfl : v64 = x35 := by rw [hv64, if_pos j208_62]
            obtain rfl : v65 = r50 := by rw [hv65, if_pos j208_62]
            exact kt
          · show Steps p.tables e below (T60.setTop (mkF m 208 #[.val (.int p1), .val (.int p2), .val (.int p3), .val (.int p4), .val (.int p5), .val (.int p6), .val (.int (p1 &&& (3 : Int32))), .val (.int (257 : Int32)), .val (.int x35), .val (.int y37), .val (.int z39), .val (.int c41), .val (.int c43), .val (.int c45), .val (.int t47), .val (.int r50), .val (.ref b52), .val (.long (((pl60.toInt64) <<< ((32 : Int32) &&& 0x3f).toInt64) ||| (rk60.toInt64))), .second, .unset, .unset, .unset, .unset] [(.int c41), (.int r50)])) _
            refine XS.icmpYes X60.here hx rfl (pc0 := 208) (pc' := 222) rfl (hb hby at_208) rfl (flt j208_62).2.1 (by decide) (by decide) ?_
            refine XS.iload X60.here hx rfl (hb hby at_222) rfl ?_
            refine XS.iload X60.here hx rfl (hb hby at_224) rfl ?_
            show Steps p.tables e below (T60.setTop (mkF m 226 #[.val (.int p1), .val (.int p2), .val (.int p3), .val (.int p4), .val (.int p5), .val (.int p6), .val (.int (p1 &&& (3 : Int32))), .val (.int (257 : Int32)), .val (.int x35), .val (.int y37), .val (.int z39), .val (.int c41), .val (.int c43), .val (.int c45), .val (.int t47), .val (.int r50), .val (.ref b52), .val (.long (((pl60.toInt64) <<< ((32 : Int32) &&& 0x3f).toInt64) ||| (rk60.toInt64))), .second, .unset, .unset, .unset, .unset] [(.int c41), (.int r50)])) _
            refine XS.iload X60.here hx rfl (hb hby at_226) rfl ?_
            refine XS.iadd X60.here hx rfl (hb hby at_228) rfl ?_
            by_cases j229_63 : r50 < (c41 + c43)
            · show Steps p.tables e below (T60.setTop (mkF m 229 #[.val (.int p1), .val (.int p2), .val (.int p3), .val (.int p4), .val (.int p5), .val (.int p6), .val (.int (p1 &&& (3 : Int32))), .val (.int (257 : Int32)), .val (.int x35), .val (.int y37), .val (.int z39), .val (.int c41), .val (.int c43), .val (.int c45), .val (.int t47), .val (.int r50), .val (.ref b52), .val (.long (((pl60.toInt64) <<< ((32 : Int32) &&& 0x3f).toInt64) ||| (rk60.toInt64))), .second, .unset, .unset, .unset, .unset] [(.int (c41 + c43)), (.int r50)])) _
              refine XS.icmpNo X60.here hx rfl (hb hby at_229) rfl (tlt j229_63).2.1 ?_
              refine XS.iload X60.here hx rfl (hb hby at_232) rfl ?_
              refine XS.istore X60.here hx rfl (hb hby at_234) rfl (l' := #[.val (.int p1), .val (.int p2), .val (.int p3), .val (.int p4), .val (.int p5), .val (.int p6), .val (.int (p1 &&& (3 : Int32))), .val (.int (257 : Int32)), .val (.int x35), .val (.int y37), .val (.int z39), .val (.int c41), .val (.int c43), .val (.int c45), .val (.int t47), .val (.int r50), .val (.ref b52), .val (.long (((pl60.toInt64) <<< ((32 : Int32) &&& 0x3f).toInt64) ||| (rk60.toInt64))), .second, .val (.int y37), .unset, .unset, .unset]) rfl ?_
              show Steps p.tables e below (T60.setTop (mkF m 236 #[.val (.int p1), .val (.int p2), .val (.int p3), .val (.int p4), .val (.int p5), .val (.int p6), .val (.int (p1 &&& (3 : Int32))), .val (.int (257 : Int32)), .val (.int x35), .val (.int y37), .val (.int z39), .val (.int c41), .val (.int c43), .val (.int c45), .val (.int t47), .val (.int r50), .val (.ref b52), .val (.long (((pl60.toInt64) <<< ((32 : Int32) &&& 0x3f).toInt64) ||| (rk60.toInt64))), .second, .val (.int y37), .unset, .unset, .unset] [])) _
              refine XS.iload X60.here hx rfl (hb hby at_236) rfl ?_
              refine XS.iload X60.here hx rfl (hb hby at_238) rfl ?_
              refine XS.isub X60.here hx rfl (hb hby at_240) rfl ?_
              show Steps p.tables e below (T60.setTop (mkF m 241 #[.val (.int p1), .val (.int p2), .val (.int p3), .val (.int p4), .val (.int p5), .val (.int p6), .val (.int (p1 &&& (3 : Int32))), .val (.int (257 : Int32)), .val (.int x35), .val (.int y37), .val (.int z39), .val (.int c41), .val (.int c43), .val (.int c45), .val (.int t47), .val (.int r50), .val (.ref b52), .val (.long (((pl60.toInt64) <<< ((32 : Int32) &&& 0x3f).toInt64) ||| (rk60.toInt64))), .second, .val (.int y37), .unset, .unset, .unset] [(.int (r50 - c41))])) _
              refine XS.istore X60.here hx rfl (hb hby at_241) rfl (l' := #[.val (.int p1), .val (.int p2), .val (.int p3), .val (.int p4), .val (.int p5), .val (.int p6), .val (.int (p1 &&& (3 : Int32))), .val (.int (257 : Int32)), .val (.int x35), .val (.int y37), .val (.int z39), .val (.int c41), .val (.int c43), .val (.int c45), .val (.int t47), .val (.int r50), .val (.ref b52), .val (.long (((pl60.toInt64) <<< ((32 : Int32) &&& 0x3f).toInt64) ||| (rk60.toInt64))), .second, .val (.int y37), .val (.int (r50 - c41)), .unset, .unset]) rfl ?_
              refine XS.goto X60.here hx rfl (pc0 := 243) (pc' := 260) rfl (hb hby at_243) (by decide) (by decide) ?_
              obtain rfl : v64 = y37 := by rw [hv64, if_neg j208_62, if_pos j229_63]
              obtain rfl : v65 = (r50 - c41) := by rw [hv65, if_neg j208_62, if_pos j229_63]
              exact kt
            · show Steps p.tables e below (T60.setTop (mkF m 229 #[.val (.int p1), .val (.int p2), .val (.int p3), .val (.int p4), .val (.int p5), .val (.int p6), .val (.int (p1 &&& (3 : Int32))), .val (.int (257 : Int32)), .val (.int x35), .val (.int y37), .val (.int z39), .val (.int c41), .val (.int c43), .val (.int c45), .val (.int t47), .val (.int r50), .val (.ref b52), .val (.long (((pl60.toInt64) <<< ((32 : Int32) &&& 0x3f).toInt64) ||| (rk60.toInt64))), .second, .unset, .unset, .unset, .unset] [(.int (c41 + c43)), (.int r50)])) _
              refine XS.icmpYes X60.here hx rfl (pc0 := 229) (pc' := 246) rfl (hb hby at_229) rfl (flt j229_63).2.1 (by decide) (by decide) ?_
              refine XS.iload X60.here hx rfl (hb hby at_246) rfl ?_
              refine XS.istore X60.here hx rfl (hb hby at_248) rfl (l' := #[.val (.int p1), .val (.int p2), .val (.int p3), .val (.int p4), .val (.int p5), .val (.int p6), .val (.int (p1 &&& (3 : Int32))), .val (.int (257 : Int32)), .val (.int x35), .val (.int y37), .val (.int z39), .val (.int c41), .val (.int c43), .val (.int c45), .val (.int t47), .val (.int r50), .val (.ref b52), .val (.long (((pl60.toInt64) <<< ((32 : Int32) &&& 0x3f).toInt64) ||| (rk60.toInt64))), .second, .val (.int z39), .unset, .unset, .unset]) rfl ?_
              show Steps p.tables e below (T60.setTop (mkF m 250 #[.val (.int p1), .val (.int p2), .val (.int p3), .val (.int p4), .val (.int p5), .val (.int p6), .val (.int (p1 &&& (3 : Int32))), .val (.int (257 : Int32)), .val (.int x35), .val (.int y37), .val (.int z39), .val (.int c41), .val (.int c43), .val (.int c45), .val (.int t47), .val (.int r50), .val (.ref b52), .val (.long (((pl60.toInt64) <<< ((32 : Int32) &&& 0x3f).toInt64) ||| (rk60.toInt64))), .second, .val (.int z39), .unset, .unset, .unset] [])) _
              refine XS.iload X60.here hx rfl (hb hby at_250) rfl ?_
              refine XS.iload X60.here hx rfl (hb hby at_252) rfl ?_
              refine XS.isub X60.here hx rfl (hb hby at_254) rfl ?_
              show Steps p.tables e below (T60.setTop (mkF m 255 #[.val (.int p1), .val (.int p2), .val (.int p3), .val (.int p4), .val (.int p5), .val (.int p6), .val (.int (p1 &&& (3 : Int32))), .val (.int (257 : Int32)), .val (.int x35), .val (.int y37), .val (.int z39), .val (.int c41), .val (.int c43), .val (.int c45), .val (.int t47), .val (.int r50), .val (.ref b52), .val (.long (((pl60.toInt64) <<< ((32 : Int32) &&& 0x3f).toInt64) ||| (rk60.toInt64))), .second, .val (.int z39), .unset, .unset, .unset] [(.int (r50 - c41))])) _
              refine XS.iload X60.here hx rfl (hb hby at_255) rfl ?_
              refine XS.isub X60.here hx rfl (hb hby at_257) rfl ?_
              refine XS.istore X60.here hx rfl (hb hby at_258) rfl (l' := #[.val (.int p1), .val (.int p2), .val (.int p3), .val (.int p4), .val (.int p5), .val (.int p6), .val (.int (p1 &&& (3 : Int32))), .val (.int (257 : Int32)), .val (.int x35), .val (.int y37), .val (.int z39), .val (.int c41), .val (.int c43), .val (.int c45), .val (.int t47), .val (.int r50), .val (.ref b52), .val (.long (((pl60.toInt64) <<< ((32 : Int32) &&& 0x3f).toInt64) ||| (rk60.toInt64))), .second, .val (.int z39), .val (.int ((r50 - c41) - c43)), .unset, .unset]) rfl ?_
              obtain rfl : v64 = z39 := by rw [hv64, if_neg j208_62, if_neg j229_63]
              obtain rfl : v65 = ((r50 - c41) - c43) := by rw [hv65, if_neg j208_62, if_neg j229_63]
              exact kt
        obtain ⟨fp, fw⟩ := own_final x35 y37 z39 c41 c43 c45 r50 pl60 rk60 v64 v65 M60 Rc41 Rc43 Rc45 Ry37.1 Rz39.1 Rr50.1 (by omega) I60 hv64 hv65
        obtain ⟨fs, hr, hrun, hended, hW, hsame⟩ := X60.leave (v := some (.int (1 : Int32))) (fun h => by rw [Bd.returns] at h; cases h)
        refine ⟨_, _, pre0 _ (c1 _ (c34 _ (c36 _ (c38 _ (c40 _ (c42 _ (c44 _ (c46 _ (c48 _ (c49 _ (c51 _ (c61 _ (c66 _ (?_)))))))))))))), hrun, hended, _, _, rfl, ?_, ⟨_, rfl⟩, hW, hsame.mono (by decide) (by decide)⟩
        · show Steps p.tables e below (T60.setTop (mkF m 260 #[.val (.int p1), .val (.int p2), .val (.int p3), .val (.int p4), .val (.int p5), .val (.int p6), .val (.int (p1 &&& (3 : Int32))), .val (.int (257 : Int32)), .val (.int x35), .val (.int y37), .val (.int z39), .val (.int c41), .val (.int c43), .val (.int c45), .val (.int t47), .val (.int r50), .val (.ref b52), .val (.long (((pl60.toInt64) <<< ((32 : Int32) &&& 0x3f).toInt64) ||| (rk60.toInt64))), .second, .val (.int v64), .val (.int v65), .unset, .unset] [])) _
          refine XS.iload X60.here hx rfl (hb hby at_260) rfl ?_
          refine XS.i2l X60.here hx rfl (hb hby at_262) rfl ?_
          refine XS.bipush X60.here hx rfl (hb hby at_263) ?_
          show Steps p.tables e below (T60.setTop (mkF m 265 #[.val (.int p1), .val (.int p2), .val (.int p3), .val (.int p4), .val (.int p5), .val (.int p6), .val (.int (p1 &&& (3 : Int32))), .val (.int (257 : Int32)), .val (.int x35), .val (.int y37), .val (.int z39), .val (.int c41), .val (.int c43), .val (.int c45), .val (.int t47), .val (.int r50), .val (.ref b52), .val (.long (((pl60.toInt64) <<< ((32 : Int32) &&& 0x3f).toInt64) ||| (rk60.toInt64))), .second, .val (.int v64), .val (.int v65), .unset, .unset] [(.int (32 : Int32)), (.long (v64.toInt64))])) _
          refine XS.lshl X60.here hx rfl (hb hby at_265) rfl ?_
          refine XS.iload X60.here hx rfl (hb hby at_266) rfl ?_
          refine XS.i2l X60.here hx rfl (hb hby at_268) rfl ?_
          show Steps p.tables e below (T60.setTop (mkF m 269 #[.val (.int p1), .val (.int p2), .val (.int p3), .val (.int p4), .val (.int p5), .val (.int p6), .val (.int (p1 &&& (3 : Int32))), .val (.int (257 : Int32)), .val (.int x35), .val (.int y37), .val (.int z39), .val (.int c41), .val (.int c43), .val (.int c45), .val (.int t47), .val (.int r50), .val (.ref b52), .val (.long (((pl60.toInt64) <<< ((32 : Int32) &&& 0x3f).toInt64) ||| (rk60.toInt64))), .second, .val (.int v64), .val (.int v65), .unset, .unset] [(.long (v65.toInt64)), (.long ((v64.toInt64) <<< ((32 : Int32) &&& 0x3f).toInt64))])) _
          refine XS.lor X60.here hx rfl (hb hby at_269) rfl ?_
          refine XS.lstore X60.here hx rfl (hb hby at_270) rfl (l' := #[.val (.int p1), .val (.int p2), .val (.int p3), .val (.int p4), .val (.int p5), .val (.int p6), .val (.int (p1 &&& (3 : Int32))), .val (.int (257 : Int32)), .val (.int x35), .val (.int y37), .val (.int z39), .val (.int c41), .val (.int c43), .val (.int c45), .val (.int t47), .val (.int r50), .val (.ref b52), .val (.long (((pl60.toInt64) <<< ((32 : Int32) &&& 0x3f).toInt64) ||| (rk60.toInt64))), .second, .val (.int v64), .val (.int v65), .val (.long (((v64.toInt64) <<< ((32 : Int32) &&& 0x3f).toInt64) ||| (v65.toInt64))), .second]) rfl ?_
          refine XS.lload X60.here hx rfl (hb hby at_272) rfl ?_
          show Steps p.tables e below (T60.setTop (mkF m 274 #[.val (.int p1), .val (.int p2), .val (.int p3), .val (.int p4), .val (.int p5), .val (.int p6), .val (.int (p1 &&& (3 : Int32))), .val (.int (257 : Int32)), .val (.int x35), .val (.int y37), .val (.int z39), .val (.int c41), .val (.int c43), .val (.int c45), .val (.int t47), .val (.int r50), .val (.ref b52), .val (.long (((pl60.toInt64) <<< ((32 : Int32) &&& 0x3f).toInt64) ||| (rk60.toInt64))), .second, .val (.int v64), .val (.int v65), .val (.long (((v64.toInt64) <<< ((32 : Int32) &&& 0x3f).toInt64) ||| (v65.toInt64))), .second] [(.long (((pl60.toInt64) <<< ((32 : Int32) &&& 0x3f).toInt64) ||| (rk60.toInt64)))])) _
          refine XS.lload X60.here hx rfl (hb hby at_274) rfl ?_
          refine XS.lcmp X60.here hx rfl (hb hby at_276) rfl ?_
          refine XS.ifNo X60.here hx rfl (hb hby at_277) rfl ((if0 _ _).trans (teq (by rw [fp, fw]; simp [lcmpW] : (lcmpW (((pl60.toInt64) <<< ((32 : Int32) &&& 0x3f).toInt64) ||| (rk60.toInt64)) (((v64.toInt64) <<< ((32 : Int32) &&& 0x3f).toInt64) ||| (v65.toInt64))) = (0 : Int32))).2) ?_
          show Steps p.tables e below (T60.setTop (mkF m 280 #[.val (.int p1), .val (.int p2), .val (.int p3), .val (.int p4), .val (.int p5), .val (.int p6), .val (.int (p1 &&& (3 : Int32))), .val (.int (257 : Int32)), .val (.int x35), .val (.int y37), .val (.int z39), .val (.int c41), .val (.int c43), .val (.int c45), .val (.int t47), .val (.int r50), .val (.ref b52), .val (.long (((pl60.toInt64) <<< ((32 : Int32) &&& 0x3f).toInt64) ||| (rk60.toInt64))), .second, .val (.int v64), .val (.int v65), .val (.long (((v64.toInt64) <<< ((32 : Int32) &&& 0x3f).toInt64) ||| (v65.toInt64))), .second] [])) _
          refine XS.iconst X60.here hx rfl (hb hby at_280) ?_
          refine XS.goto X60.here hx rfl (pc0 := 281) (pc' := 285) rfl (hb hby at_281) (by decide) (by decide) ?_
          show Steps p.tables e below (T60.setTop (mkF m 285 #[.val (.int p1), .val (.int p2), .val (.int p3), .val (.int p4), .val (.int p5), .val (.int p6), .val (.int (p1 &&& (3 : Int32))), .val (.int (257 : Int32)), .val (.int x35), .val (.int y37), .val (.int z39), .val (.int c41), .val (.int c43), .val (.int c45), .val (.int t47), .val (.int r50), .val (.ref b52), .val (.long (((pl60.toInt64) <<< ((32 : Int32) &&& 0x3f).toInt64) ||| (rk60.toInt64))), .second, .val (.int v64), .val (.int v65), .val (.long (((v64.toInt64) <<< ((32 : Int32) &&& 0x3f).toInt64) ||| (v65.toInt64))), .second] [(.int (1 : Int32))])) _
          exact retN X60 hx (t := .boolean) Bd.returns (by simp) (hb hby at_285) hr
        · show Qrm0 Z p1 p2 p3 p4 p5 p6 h0 n0 _ T60.heap _
          rw [e60]
          exact ⟨rfl, N60⟩
    · have c67 : ∀ t, Steps p.tables e below (s₁.setTop (mkF m 35 #[.val (.int p1), .val (.int p2), .val (.int p3), .val (.int p4), .val (.int p5), .val (.int p6), .val (.int (p1 &&& (3 : Int32))), .unset, .unset, .unset, .unset, .unset, .unset, .unset, .unset, .unset, .unset, .unset, .unset, .unset, .unset, .unset, .unset] [(.int (2 : Int32)), (.int (p1 &&& (3 : Int32)))])) t → Steps p.tables e below (s₁.setTop (mkF m 21 #[.val (.int p1), .val (.int p2), .val (.int p3), .val (.int p4), .val (.int p5), .val (.int p6), .val (.int (p1 &&& (3 : Int32))), .unset, .unset, .unset, .unset, .unset, .unset, .unset, .unset, .unset, .unset, .unset, .unset, .unset, .unset, .unset, .unset] [(.int (1 : Int32)), (.int (p1 &&& (3 : Int32)))])) t := by
        intro t kt
        show Steps p.tables e below (s₁.setTop (mkF m 21 #[.val (.int p1), .val (.int p2), .val (.int p3), .val (.int p4), .val (.int p5), .val (.int p6), .val (.int (p1 &&& (3 : Int32))), .unset, .unset, .unset, .unset, .unset, .unset, .unset, .unset, .unset, .unset, .unset, .unset, .unset, .unset, .unset, .unset] [(.int (1 : Int32)), (.int (p1 &&& (3 : Int32)))])) _
        refine XS.icmpYes X0.here hx rfl (pc0 := 21) (pc' := 32) rfl (hb hby at_21) rfl (feq hc21).2 (by decide) (by decide) ?_
        refine XS.iload X0.here hx rfl (hb hby at_32) rfl ?_
        refine XS.iconst X0.here hx rfl (hb hby at_34) ?_
        exact kt
      by_cases hc35 : (p1 &&& (3 : Int32)) = (2 : Int32)
      · obtain ⟨x68, hx68⟩ : ∃ z, z = ((p2 &&& (2147483647 : Int32)) % (510 : Int32)) := ⟨_, rfl⟩
        have c69 : ∀ t, Steps p.tables e below (s₁.setTop (mkF m 62 #[.val (.int p1), .val (.int p2), .val (.int p3), .val (.int p4), .val (.int p5), .val (.int p6), .val (.int (p1 &&& (3 : Int32))), .val (.int (512 : Int32)), .val (.int x68), .unset, .unset, .unset, .unset, .unset, .unset, .unset, .unset, .unset, .unset, .unset, .unset, .unset, .unset] [])) t → Steps p.tables e below (s₁.setTop (mkF m 35 #[.val (.int p1), .val (.int p2), .val (.int p3), .val (.int p4), .val (.int p5), .val (.int p6), .val (.int (p1 &&& (3 : Int32))), .unset, .unset, .unset, .unset, .unset, .unset, .unset, .unset, .unset, .unset, .unset, .unset, .unset, .unset, .unset, .unset] [(.int (2 : Int32)), (.int (p1 &&& (3 : Int32)))])) t := by
          intro t kt
          subst hx68
          show Steps p.tables e below (s₁.setTop (mkF m 35 #[.val (.int p1), .val (.int p2), .val (.int p3), .val (.int p4), .val (.int p5), .val (.int p6), .val (.int (p1 &&& (3 : Int32))), .unset, .unset, .unset, .unset, .unset, .unset, .unset, .unset, .unset, .unset, .unset, .unset, .unset, .unset, .unset, .unset] [(.int (2 : Int32)), (.int (p1 &&& (3 : Int32)))])) _
          refine XS.icmpNo X0.here hx rfl (hb hby at_35) rfl (teq hc35).2 ?_
          refine XS.sipush X0.here hx rfl (hb hby at_38) ?_
          refine XS.istore X0.here hx rfl (hb hby at_41) rfl (l' := #[.val (.int p1), .val (.int p2), .val (.int p3), .val (.int p4), .val (.int p5), .val (.int p6), .val (.int (p1 &&& (3 : Int32))), .val (.int (512 : Int32)), .unset, .unset, .unset, .unset, .unset, .unset, .unset, .unset, .unset, .unset, .unset, .unset, .unset, .unset, .unset]) rfl ?_
          show Steps p.tables e below (s₁.setTop (mkF m 43 #[.val (.int p1), .val (.int p2), .val (.int p3), .val (.int p4), .val (.int p5), .val (.int p6), .val (.int (p1 &&& (3 : Int32))), .val (.int (512 : Int32)), .unset, .unset, .unset, .unset, .unset, .unset, .unset, .unset, .unset, .unset, .unset, .unset, .unset, .unset, .unset] [])) _
          refine XS.goto X0.here hx rfl (pc0 := 43) (pc' := 51) rfl (hb hby at_43) (by decide) (by decide) ?_
          refine XS.iloadN X0.here hx rfl (hb hby at_51) rfl ?_
          refine X0.ldcInt hx hown (mvT hZ (hw _ (List.mem_of_getElem? (i := 0) rfl))) (g := (mkF m 52 #[.val (.int p1), .val (.int p2), .val (.int p3), .val (.int p4), .val (.int p5), .val (.int p6), .val (.int (p1 &&& (3 : Int32))), .val (.int (512 : Int32)), .unset, .unset, .unset, .unset, .unset, .unset, .unset, .unset, .unset, .unset, .unset, .unset, .unset, .unset, .unset] [(.int p2)])) rfl (hb hby at_52) _ ?_
          show Steps p.tables e below (s₁.setTop (mkF m 54 #[.val (.int p1), .val (.int p2), .val (.int p3), .val (.int p4), .val (.int p5), .val (.int p6), .val (.int (p1 &&& (3 : Int32))), .val (.int (512 : Int32)), .unset, .unset, .unset, .unset, .unset, .unset, .unset, .unset, .unset, .unset, .unset, .unset, .unset, .unset, .unset] [(.int (2147483647 : Int32)), (.int p2)])) _
          refine XS.iand X0.here hx rfl (hb hby at_54) rfl ?_
          refine XS.iload X0.here hx rfl (hb hby at_55) rfl ?_
          refine XS.iconst X0.here hx rfl (hb hby at_57) ?_
          show Steps p.tables e below (s₁.setTop (mkF m 58 #[.val (.int p1), .val (.int p2), .val (.int p3), .val (.int p4), .val (.int p5), .val (.int p6), .val (.int (p1 &&& (3 : Int32))), .val (.int (512 : Int32)), .unset, .unset, .unset, .unset, .unset, .unset, .unset, .unset, .unset, .unset, .unset, .unset, .unset, .unset, .unset] [(.int (2 : Int32)), (.int (512 : Int32)), (.int (p2 &&& (2147483647 : Int32)))])) _
          refine XS.isub X0.here hx rfl (hb hby at_58) rfl ?_
          refine Jvm.RoadKit.iremM (g := (mkF m 59 #[.val (.int p1), .val (.int p2), .val (.int p3), .val (.int p4), .val (.int p5), .val (.int p6), .val (.int (p1 &&& (3 : Int32))), .val (.int (512 : Int32)), .unset, .unset, .unset, .unset, .unset, .unset, .unset, .unset, .unset, .unset, .unset, .unset, .unset, .unset, .unset] [(.int (510 : Int32)), (.int (p2 &&& (2147483647 : Int32)))])) X0 hx rfl (hb hby at_59) rfl (by decide) ?_
          refine XS.istore X0.here hx rfl (hb hby at_60) rfl (l' := #[.val (.int p1), .val (.int p2), .val (.int p3), .val (.int p4), .val (.int p5), .val (.int p6), .val (.int (p1 &&& (3 : Int32))), .val (.int (512 : Int32)), .val (.int ((p2 &&& (2147483647 : Int32)) % (510 : Int32))), .unset, .unset, .unset, .unset, .unset, .unset, .unset, .unset, .unset, .unset, .unset, .unset, .unset, .unset]) rfl ?_
          exact kt
        have Rx68 : 0 ≤ x68.toInt ∧ x68.toInt < 510 := by rw [hx68]; exact own_mod _ _ (by decide)
        have Sx68 : ((510 : Int32) - x68).toInt = 510 - x68.toInt := Jvm.Kit.i32_sub (by show -2 ^ 31 ≤ (510 : Int) - _; omega) (by show (510 : Int) - _ < 2 ^ 31; omega)
        obtain ⟨y70, hy70⟩ : ∃ z, z = ((x68 + (1 : Int32)) + ((p3 &&& (2147483647 : Int32)) % ((510 : Int32) - x68))) := ⟨_, rfl⟩
        have c71 : ∀ t, Steps p.tables e below (s₁.setTop (mkF m 81 #[.val (.int p1), .val (.int p2), .val (.int p3), .val (.int p4), .val (.int p5), .val (.int p6), .val (.int (p1 &&& (3 : Int32))), .val (.int (512 : Int32)), .val (.int x68), .val (.int y70), .unset, .unset, .unset, .unset, .unset, .unset, .unset, .unset, .unset, .unset, .unset, .unset, .unset] [])) t → Steps p.tables e below (s₁.setTop (mkF m 62 #[.val (.int p1), .val (.int p2), .val (.int p3), .val (.int p4), .val (.int p5), .val (.int p6), .val (.int (p1 &&& (3 : Int32))), .val (.int (512 : Int32)), .val (.int x68), .unset, .unset, .unset, .unset, .unset, .unset, .unset, .unset, .unset, .unset, .unset, .unset, .unset, .unset] [])) t := by
          intro t kt
          subst hy70
          show Steps p.tables e below (s₁.setTop (mkF m 62 #[.val (.int p1), .val (.int p2), .val (.int p3), .val (.int p4), .val (.int p5), .val (.int p6), .val (.int (p1 &&& (3 : Int32))), .val (.int (512 : Int32)), .val (.int x68), .unset, .unset, .unset, .unset, .unset, .unset, .unset, .unset, .unset, .unset, .unset, .unset, .unset, .unset] [])) _
          refine XS.iload X0.here hx rfl (hb hby at_62) rfl ?_
          refine XS.iconst X0.here hx rfl (hb hby at_64) ?_
          refine XS.iadd X0.here hx rfl (hb hby at_65) rfl ?_
          show Steps p.tables e below (s₁.setTop (mkF m 66 #[.val (.int p1), .val (.int p2), .val (.int p3), .val (.int p4), .val (.int p5), .val (.int p6), .val (.int (p1 &&& (3 : Int32))), .val (.int (512 : Int32)), .val (.int x68), .unset, .unset, .unset, .unset, .unset, .unset, .unset, .unset, .unset, .unset, .unset, .unset, .unset, .unset] [(.int (x68 + (1 : Int32)))])) _
          refine XS.iloadN X0.here hx rfl (hb hby at_66) rfl ?_
          refine X0.ldcInt hx hown (mvT hZ (hw _ (List.mem_of_getElem? (i := 0) rfl))) (g := (mkF m 67 #[.val (.int p1), .val (.int p2), .val (.int p3), .val (.int p4), .val (.int p5), .val (.int p6), .val (.int (p1 &&& (3 : Int32))), .val (.int (512 : Int32)), .val (.int x68), .unset, .unset, .unset, .unset, .unset, .unset, .unset, .unset, .unset, .unset, .unset, .unset, .unset, .unset] [(.int p3), (.int (x68 + (1 : Int32)))])) rfl (hb hby at_67) _ ?_
          refine XS.iand X0.here hx rfl (hb hby at_69) rfl ?_
          show Steps p.tables e below (s₁.setTop (mkF m 70 #[.val (.int p1), .val (.int p2), .val (.int p3), .val (.int p4), .val (.int p5), .val (.int p6), .val (.int (p1 &&& (3 : Int32))), .val (.int (512 : Int32)), .val (.int x68), .unset, .unset, .unset, .unset, .unset, .unset, .unset, .unset, .unset, .unset, .unset, .unset, .unset, .unset] [(.int (p3 &&& (2147483647 : Int32))), (.int (x68 + (1 : Int32)))])) _
          refine XS.iload X0.here hx rfl (hb hby at_70) rfl ?_
          refine XS.iconst X0.here hx rfl (hb hby at_72) ?_
          refine XS.isub X0.here hx rfl (hb hby at_73) rfl ?_
          show Steps p.tables e below (s₁.setTop (mkF m 74 #[.val (.int p1), .val (.int p2), .val (.int p3), .val (.int p4), .val (.int p5), .val (.int p6), .val (.int (p1 &&& (3 : Int32))), .val (.int (512 : Int32)), .val (.int x68), .unset, .unset, .unset, .unset, .unset, .unset, .unset, .unset, .unset, .unset, .unset, .unset, .unset, .unset] [(.int (510 : Int32)), (.int (p3 &&& (2147483647 : Int32))), (.int (x68 + (1 : Int32)))])) _
          refine XS.iload X0.here hx rfl (hb hby at_74) rfl ?_
          refine XS.isub X0.here hx rfl (hb hby at_76) rfl ?_
          refine Jvm.RoadKit.iremM (g := (mkF m 77 #[.val (.int p1), .val (.int p2), .val (.int p3), .val (.int p4), .val (.int p5), .val (.int p6), .val (.int (p1 &&& (3 : Int32))), .val (.int (512 : Int32)), .val (.int x68), .unset, .unset, .unset, .unset, .unset, .unset, .unset, .unset, .unset, .unset, .unset, .unset, .unset, .unset] [(.int ((510 : Int32) - x68)), (.int (p3 &&& (2147483647 : Int32))), (.int (x68 + (1 : Int32)))])) X0 hx rfl (hb hby at_77) rfl (own_nz (by omega)) ?_
          show Steps p.tables e below (s₁.setTop (mkF m 78 #[.val (.int p1), .val (.int p2), .val (.int p3), .val (.int p4), .val (.int p5), .val (.int p6), .val (.int (p1 &&& (3 : Int32))), .val (.int (512 : Int32)), .val (.int x68), .unset, .unset, .unset, .unset, .unset, .unset, .unset, .unset, .unset, .unset, .unset, .unset, .unset, .unset] [(.int ((p3 &&& (2147483647 : Int32)) % ((510 : Int32) - x68))), (.int (x68 + (1 : Int32)))])) _
          refine XS.iadd X0.here hx rfl (hb hby at_78) rfl ?_
          refine XS.istore X0.here hx rfl (hb hby at_79) rfl (l' := #[.val (.int p1), .val (.int p2), .val (.int p3), .val (.int p4), .val (.int p5), .val (.int p6), .val (.int (p1 &&& (3 : Int32))), .val (.int (512 : Int32)), .val (.int x68), .val (.int ((x68 + (1 : Int32)) + ((p3 &&& (2147483647 : Int32)) % ((510 : Int32) - x68)))), .unset, .unset, .unset, .unset, .unset, .unset, .unset, .unset, .unset, .unset, .unset, .unset, .unset]) rfl ?_
          exact kt
        have My70 := own_mod p3 ((510 : Int32) - x68) (by omega)
        have Ry70 : x68.toInt < y70.toInt ∧ y70.toInt < 511 := by
          have o1 : (x68 + (1 : Int32)).toInt = x68.toInt + 1 := Jvm.Kit.i32_add (by show -2 ^ 31 ≤ x68.toInt + 1; omega) (by show x68.toInt + 1 < 2 ^ 31; omega)
          rw [hy70, Jvm.Kit.i32_add (by omega) (by omega), o1]; omega
        have Sy70 : ((511 : Int32) - y70).toInt = 511 - y70.toInt := Jvm.Kit.i32_sub (by show -2 ^ 31 ≤ (511 : Int) - _; omega) (by show (511 : Int) - _ < 2 ^ 31; omega)
        obtain ⟨z72, hz72⟩ : ∃ z, z = ((y70 + (1 : Int32)) + ((p4 &&& (2147483647 : Int32)) % ((511 : Int32) - y70))) := ⟨_, rfl⟩
        have c73 : ∀ t, Steps p.tables e below (s₁.setTop (mkF m 100 #[.val (.int p1), .val (.int p2), .val (.int p3), .val (.int p4), .val (.int p5), .val (.int p6), .val (.int (p1 &&& (3 : Int32))), .val (.int (512 : Int32)), .val (.int x68), .val (.int y70), .val (.int z72), .unset, .unset, .unset, .unset, .unset, .unset, .unset, .unset, .unset, .unset, .unset, .unset] [])) t → Steps p.tables e below (s₁.setTop (mkF m 81 #[.val (.int p1), .val (.int p2), .val (.int p3), .val (.int p4), .val (.int p5), .val (.int p6), .val (.int (p1 &&& (3 : Int32))), .val (.int (512 : Int32)), .val (.int x68), .val (.int y70), .unset, .unset, .unset, .unset, .unset, .unset, .unset, .unset, .unset, .unset, .unset, .unset, .unset] [])) t := by
          intro t kt
          subst hz72
          show Steps p.tables e below (s₁.setTop (mkF m 81 #[.val (.int p1), .val (.int p2), .val (.int p3), .val (.int p4), .val (.int p5), .val (.int p6), .val (.int (p1 &&& (3 : Int32))), .val (.int (512 : Int32)), .val (.int x68), .val (.int y70), .unset, .unset, .unset, .unset, .unset, .unset, .unset, .unset, .unset, .unset, .unset, .unset, .unset] [])) _
          refine XS.iload X0.here hx rfl (hb hby at_81) rfl ?_
          refine XS.iconst X0.here hx rfl (hb hby at_83) ?_
          refine XS.iadd X0.here hx rfl (hb hby at_84) rfl ?_
          show Steps p.tables e below (s₁.setTop (mkF m 85 #[.val (.int p1), .val (.int p2), .val (.int p3), .val (.int p4), .val (.int p5), .val (.int p6), .val (.int (p1 &&& (3 : Int32))), .val (.int (512 : Int32)), .val (.int x68), .val (.int y70), .unset, .unset, .unset, .unset, .unset, .unset, .unset, .unset, .unset, .unset, .unset, .unset, .unset] [(.int (y70 + (1 : Int32)))])) _
          refine XS.iloadN X0.here hx rfl (hb hby at_85) rfl ?_
          refine X0.ldcInt hx hown (mvT hZ (hw _ (List.mem_of_getElem? (i := 0) rfl))) (g := (mkF m 86 #[.val (.int p1), .val (.int p2), .val (.int p3), .val (.int p4), .val (.int p5), .val (.int p6), .val (.int (p1 &&& (3 : Int32))), .val (.int (512 : Int32)), .val (.int x68), .val (.int y70), .unset, .unset, .unset, .unset, .unset, .unset, .unset, .unset, .unset, .unset, .unset, .unset, .unset] [(.int p4), (.int (y70 + (1 : Int32)))])) rfl (hb hby at_86) _ ?_
          refine XS.iand X0.here hx rfl (hb hby at_88) rfl ?_
          show Steps p.tables e below (s₁.setTop (mkF m 89 #[.val (.int p1), .val (.int p2), .val (.int p3), .val (.int p4), .val (.int p5), .val (.int p6), .val (.int (p1 &&& (3 : Int32))), .val (.int (512 : Int32)), .val (.int x68), .val (.int y70), .unset, .unset, .unset, .unset, .unset, .unset, .unset, .unset, .unset, .unset, .unset, .unset, .unset] [(.int (p4 &&& (2147483647 : Int32))), (.int (y70 + (1 : Int32)))])) _
          refine XS.iload X0.here hx rfl (hb hby at_89) rfl ?_
          refine XS.iconst X0.here hx rfl (hb hby at_91) ?_
          refine XS.isub X0.here hx rfl (hb hby at_92) rfl ?_
          show Steps p.tables e below (s₁.setTop (mkF m 93 #[.val (.int p1), .val (.int p2), .val (.int p3), .val (.int p4), .val (.int p5), .val (.int p6), .val (.int (p1 &&& (3 : Int32))), .val (.int (512 : Int32)), .val (.int x68), .val (.int y70), .unset, .unset, .unset, .unset, .unset, .unset, .unset, .unset, .unset, .unset, .unset, .unset, .unset] [(.int (511 : Int32)), (.int (p4 &&& (2147483647 : Int32))), (.int (y70 + (1 : Int32)))])) _
          refine XS.iload X0.here hx rfl (hb hby at_93) rfl ?_
          refine XS.isub X0.here hx rfl (hb hby at_95) rfl ?_
          refine Jvm.RoadKit.iremM (g := (mkF m 96 #[.val (.int p1), .val (.int p2), .val (.int p3), .val (.int p4), .val (.int p5), .val (.int p6), .val (.int (p1 &&& (3 : Int32))), .val (.int (512 : Int32)), .val (.int x68), .val (.int y70), .unset, .unset, .unset, .unset, .unset, .unset, .unset, .unset, .unset, .unset, .unset, .unset, .unset] [(.int ((511 : Int32) - y70)), (.int (p4 &&& (2147483647 : Int32))), (.int (y70 + (1 : Int32)))])) X0 hx rfl (hb hby at_96) rfl (own_nz (by omega)) ?_
          show Steps p.tables e below (s₁.setTop (mkF m 97 #[.val (.int p1), .val (.int p2), .val (.int p3), .val (.int p4), .val (.int p5), .val (.int p6), .val (.int (p1 &&& (3 : Int32))), .val (.int (512 : Int32)), .val (.int x68), .val (.int y70), .unset, .unset, .unset, .unset, .unset, .unset, .unset, .unset, .unset, .unset, .unset, .unset, .unset] [(.int ((p4 &&& (2147483647 : Int32)) % ((511 : Int32) - y70))), (.int (y70 + (1 : Int32)))])) _
          refine XS.iadd X0.here hx rfl (hb hby at_97) rfl ?_
          refine XS.istore X0.here hx rfl (hb hby at_98) rfl (l' := #[.val (.int p1), .val (.int p2), .val (.int p3), .val (.int p4), .val (.int p5), .val (.int p6), .val (.int (p1 &&& (3 : Int32))), .val (.int (512 : Int32)), .val (.int x68), .val (.int y70), .val (.int ((y70 + (1 : Int32)) + ((p4 &&& (2147483647 : Int32)) % ((511 : Int32) - y70)))), .unset, .unset, .unset, .unset, .unset, .unset, .unset, .unset, .unset, .unset, .unset, .unset]) rfl ?_
          exact kt
        have Mz72 := own_mod p4 ((511 : Int32) - y70) (by omega)
        have Rz72 : y70.toInt < z72.toInt ∧ z72.toInt < 512 := by
          have o1 : (y70 + (1 : Int32)).toInt = y70.toInt + 1 := Jvm.Kit.i32_add (by show -2 ^ 31 ≤ y70.toInt + 1; omega) (by show y70.toInt + 1 < 2 ^ 31; omega)
          rw [hz72, Jvm.Kit.i32_add (by omega) (by omega), o1]; omega
        obtain ⟨c74, hc74⟩ : ∃ z, z = (p5 &&& (1023 : Int32)) := ⟨_, rfl⟩
        have c75 : ∀ t, Steps p.tables e below (s₁.setTop (mkF m 108 #[.val (.int p1), .val (.int p2), .val (.int p3), .val (.int p4), .val (.int p5), .val (.int p6), .val (.int (p1 &&& (3 : Int32))), .val (.int (512 : Int32)), .val (.int x68), .val (.int y70), .val (.int z72), .val (.int c74), .unset, .unset, .unset, .unset, .unset, .unset, .unset, .unset, .unset, .unset, .unset] [])) t → Steps p.tables e below (s₁.setTop (mkF m 100 #[.val (.int p1), .val (.int p2), .val (.int p3), .val (.int p4), .val (.int p5), .val (.int p6), .val (.int (p1 &&& (3 : Int32))), .val (.int (512 : Int32)), .val (.int x68), .val (.int y70), .val (.int z72), .unset, .unset, .unset, .unset, .unset, .unset, .unset, .unset, .unset, .unset, .unset, .unset] [])) t := by
          intro t kt
          subst hc74
          show Steps p.tables e below (s₁.setTop (mkF m 100 #[.val (.int p1), .val (.int p2), .val (.int p3), .val (.int p4), .val (.int p5), .val (.int p6), .val (.int (p1 &&& (3 : Int32))), .val (.int (512 : Int32)), .val (.int x68), .val (.int y70), .val (.int z72), .unset, .unset, .unset, .unset, .unset, .unset, .unset, .unset, .unset, .unset, .unset, .unset] [])) _
          refine XS.iload X0.here hx rfl (hb hby at_100) rfl ?_
          refine XS.sipush X0.here hx rfl (hb hby at_102) ?_
          refine XS.iand X0.here hx rfl (hb hby at_105) rfl ?_
          show Steps p.tables e below (s₁.setTop (mkF m 106 #[.val (.int p1), .val (.int p2), .val (.int p3), .val (.int p4), .val (.int p5), .val (.int p6), .val (.int (p1 &&& (3 : Int32))), .val (.int (512 : Int32)), .val (.int x68), .val (.int y70), .val (.int z72), .unset, .unset, .unset, .unset, .unset, .unset, .unset, .unset, .unset, .unset, .unset, .unset] [(.int (p5 &&& (1023 : Int32)))])) _
          refine XS.istore X0.here hx rfl (hb hby at_106) rfl (l' := #[.val (.int p1), .val (.int p2), .val (.int p3), .val (.int p4), .val (.int p5), .val (.int p6), .val (.int (p1 &&& (3 : Int32))), .val (.int (512 : Int32)), .val (.int x68), .val (.int y70), .val (.int z72), .val (.int (p5 &&& (1023 : Int32))), .unset, .unset, .unset, .unset, .unset, .unset, .unset, .unset, .unset, .unset, .unset]) rfl ?_
          exact kt
        have Rc74 : 0 ≤ c74.toInt ∧ c74.toInt ≤ 1023 := by rw [hc74]; exact own_1023 _
        obtain ⟨c76, hc76⟩ : ∃ z, z = (((p5.toUInt32 >>> ((10 : Int32) &&& 31).toUInt32).toInt32) &&& (1023 : Int32)) := ⟨_, rfl⟩
        have c77 : ∀ t, Steps p.tables e below (s₁.setTop (mkF m 119 #[.val (.int p1), .val (.int p2), .val (.int p3), .val (.int p4), .val (.int p5), .val (.int p6), .val (.int (p1 &&& (3 : Int32))), .val (.int (512 : Int32)), .val (.int x68), .val (.int y70), .val (.int z72), .val (.int c74), .val (.int c76), .unset, .unset, .unset, .unset, .unset, .unset, .unset, .unset, .unset, .unset] [])) t → Steps p.tables e below (s₁.setTop (mkF m 108 #[.val (.int p1), .val (.int p2), .val (.int p3), .val (.int p4), .val (.int p5), .val (.int p6), .val (.int (p1 &&& (3 : Int32))), .val (.int (512 : Int32)), .val (.int x68), .val (.int y70), .val (.int z72), .val (.int c74), .unset, .unset, .unset, .unset, .unset, .unset, .unset, .unset, .unset, .unset, .unset] [])) t := by
          intro t kt
          subst hc76
          show Steps p.tables e below (s₁.setTop (mkF m 108 #[.val (.int p1), .val (.int p2), .val (.int p3), .val (.int p4), .val (.int p5), .val (.int p6), .val (.int (p1 &&& (3 : Int32))), .val (.int (512 : Int32)), .val (.int x68), .val (.int y70), .val (.int z72), .val (.int c74), .unset, .unset, .unset, .unset, .unset, .unset, .unset, .unset, .unset, .unset, .unset] [])) _
          refine XS.iload X0.here hx rfl (hb hby at_108) rfl ?_
          refine XS.bipush X0.here hx rfl (hb hby at_110) ?_
          refine XS.iushr X0.here hx rfl (hb hby at_112) rfl ?_
          show Steps p.tables e below (s₁.setTop (mkF m 113 #[.val (.int p1), .val (.int p2), .val (.int p3), .val (.int p4), .val (.int p5), .val (.int p6), .val (.int (p1 &&& (3 : Int32))), .val (.int (512 : Int32)), .val (.int x68), .val (.int y70), .val (.int z72), .val (.int c74), .unset, .unset, .unset, .unset, .unset, .unset, .unset, .unset, .unset, .unset, .unset] [(.int ((p5.toUInt32 >>> ((10 : Int32) &&& 31).toUInt32).toInt32))])) _
          refine XS.sipush X0.here hx rfl (hb hby at_113) ?_
          refine XS.iand X0.here hx rfl (hb hby at_116) rfl ?_
          refine XS.istore X0.here hx rfl (hb hby at_117) rfl (l' := #[.val (.int p1), .val (.int p2), .val (.int p3), .val (.int p4), .val (.int p5), .val (.int p6), .val (.int (p1 &&& (3 : Int32))), .val (.int (512 : Int32)), .val (.int x68), .val (.int y70), .val (.int z72), .val (.int c74), .val (.int (((p5.toUInt32 >>> ((10 : Int32) &&& 31).toUInt32).toInt32) &&& (1023 : Int32))), .unset, .unset, .unset, .unset, .unset, .unset, .unset, .unset, .unset, .unset]) rfl ?_
          exact kt
        have Rc76 : 0 ≤ c76.toInt ∧ c76.toInt ≤ 1023 := by rw [hc76]; exact own_1023 _
        obtain ⟨c78, hc78⟩ : ∃ z, z = (((p5.toUInt32 >>> ((20 : Int32) &&& 31).toUInt32).toInt32) &&& (1023 : Int32)) := ⟨_, rfl⟩
        have c79 : ∀ t, Steps p.tables e below (s₁.setTop (mkF m 130 #[.val (.int p1), .val (.int p2), .val (.int p3), .val (.int p4), .val (.int p5), .val (.int p6), .val (.int (p1 &&& (3 : Int32))), .val (.int (512 : Int32)), .val (.int x68), .val (.int y70), .val (.int z72), .val (.int c74), .val (.int c76), .val (.int c78), .unset, .unset, .unset, .unset, .unset, .unset, .unset, .unset, .unset] [])) t → Steps p.tables e below (s₁.setTop (mkF m 119 #[.val (.int p1), .val (.int p2), .val (.int p3), .val (.int p4), .val (.int p5), .val (.int p6), .val (.int (p1 &&& (3 : Int32))), .val (.int (512 : Int32)), .val (.int x68), .val (.int y70), .val (.int z72), .val (.int c74), .val (.int c76), .unset, .unset, .unset, .unset, .unset, .unset, .unset, .unset, .unset, .unset] [])) t := by
          intro t kt
          subst hc78
          show Steps p.tables e below (s₁.setTop (mkF m 119 #[.val (.int p1), .val (.int p2), .val (.int p3), .val (.int p4), .val (.int p5), .val (.int p6), .val (.int (p1 &&& (3 : Int32))), .val (.int (512 : Int32)), .val (.int x68), .val (.int y70), .val (.int z72), .val (.int c74), .val (.int c76), .unset, .unset, .unset, .unset, .unset, .unset, .unset, .unset, .unset, .unset] [])) _
          refine XS.iload X0.here hx rfl (hb hby at_119) rfl ?_
          refine XS.bipush X0.here hx rfl (hb hby at_121) ?_
          refine XS.iushr X0.here hx rfl (hb hby at_123) rfl ?_
          show Steps p.tables e below (s₁.setTop (mkF m 124 #[.val (.int p1), .val (.int p2), .val (.int p3), .val (.int p4), .val (.int p5), .val (.int p6), .val (.int (p1 &&& (3 : Int32))), .val (.int (512 : Int32)), .val (.int x68), .val (.int y70), .val (.int z72), .val (.int c74), .val (.int c76), .unset, .unset, .unset, .unset, .unset, .unset, .unset, .unset, .unset, .unset] [(.int ((p5.toUInt32 >>> ((20 : Int32) &&& 31).toUInt32).toInt32))])) _
          refine XS.sipush X0.here hx rfl (hb hby at_124) ?_
          refine XS.iand X0.here hx rfl (hb hby at_127) rfl ?_
          refine XS.istore X0.here hx rfl (hb hby at_128) rfl (l' := #[.val (.int p1), .val (.int p2), .val (.int p3), .val (.int p4), .val (.int p5), .val (.int p6), .val (.int (p1 &&& (3 : Int32))), .val (.int (512 : Int32)), .val (.int x68), .val (.int y70), .val (.int z72), .val (.int c74), .val (.int c76), .val (.int (((p5.toUInt32 >>> ((20 : Int32) &&& 31).toUInt32).toInt32) &&& (1023 : Int32))), .unset, .unset, .unset, .unset, .unset, .unset, .unset, .unset, .unset]) rfl ?_
          exact kt
        have Rc78 : 0 ≤ c78.toInt ∧ c78.toInt ≤ 1023 := by rw [hc78]; exact own_1023 _
        obtain ⟨t80, ht80⟩ : ∃ z, z = ((c74 + c76) + c78) := ⟨_, rfl⟩
        have c81 : ∀ t, Steps p.tables e below (s₁.setTop (mkF m 140 #[.val (.int p1), .val (.int p2), .val (.int p3), .val (.int p4), .val (.int p5), .val (.int p6), .val (.int (p1 &&& (3 : Int32))), .val (.int (512 : Int32)), .val (.int x68), .val (.int y70), .val (.int z72), .val (.int c74), .val (.int c76), .val (.int c78), .val (.int t80), .unset, .unset, .unset, .unset, .unset, .unset, .unset, .unset] [])) t → Steps p.tables e below (s₁.setTop (mkF m 130 #[.val (.int p1), .val (.int p2), .val (.int p3), .val (.int p4), .val (.int p5), .val (.int p6), .val (.int (p1 &&& (3 : Int32))), .val (.int (512 : Int32)), .val (.int x68), .val (.int y70), .val (.int z72), .val (.int c74), .val (.int c76), .val (.int c78), .unset, .unset, .unset, .unset, .unset, .unset, .unset, .unset, .unset] [])) t := by
          intro t kt
          subst ht80
          show Steps p.tables e below (s₁.setTop (mkF m 130 #[.val (.int p1), .val (.int p2), .val (.int p3), .val (.int p4), .val (.int p5), .val (.int p6), .val (.int (p1 &&& (3 : Int32))), .val (.int (512 : Int32)), .val (.int x68), .val (.int y70), .val (.int z72), .val (.int c74), .val (.int c76), .val (.int c78), .unset, .unset, .unset, .unset, .unset, .unset, .unset, .unset, .unset] [])) _
          refine XS.iload X0.here hx rfl (hb hby at_130) rfl ?_
          refine XS.iload X0.here hx rfl (hb hby at_132) rfl ?_
          refine XS.iadd X0.here hx rfl (hb hby at_134) rfl ?_
          show Steps p.tables e below (s₁.setTop (mkF m 135 #[.val (.int p1), .val (.int p2), .val (.int p3), .val (.int p4), .val (.int p5), .val (.int p6), .val (.int (p1 &&& (3 : Int32))), .val (.int (512 : Int32)), .val (.int x68), .val (.int y70), .val (.int z72), .val (.int c74), .val (.int c76), .val (.int c78), .unset, .unset, .unset, .unset, .unset, .unset, .unset, .unset, .unset] [(.int (c74 + c76))])) _
          refine XS.iload X0.here hx rfl (hb hby at_135) rfl ?_
          refine XS.iadd X0.here hx rfl (hb hby at_137) rfl ?_
          refine XS.istore X0.here hx rfl (hb hby at_138) rfl (l' := #[.val (.int p1), .val (.int p2), .val (.int p3), .val (.int p4), .val (.int p5), .val (.int p6), .val (.int (p1 &&& (3 : Int32))), .val (.int (512 : Int32)), .val (.int x68), .val (.int y70), .val (.int z72), .val (.int c74), .val (.int c76), .val (.int c78), .val (.int ((c74 + c76) + c78)), .unset, .unset, .unset, .unset, .unset, .unset, .unset, .unset]) rfl ?_
          exact kt
        have Rt80 : t80.toInt = c74.toInt + c76.toInt + c78.toInt := by
          have o1 : (c74 + c76).toInt = c74.toInt + c76.toInt := Jvm.Kit.i32_add (by omega) (by omega)
          rw [ht80, Jvm.Kit.i32_add (by omega) (by omega), o1]
        have c82 : ∀ t, Steps p.tables e below (s₁.setTop (mkF m 142 #[.val (.int p1), .val (.int p2), .val (.int p3), .val (.int p4), .val (.int p5), .val (.int p6), .val (.int (p1 &&& (3 : Int32))), .val (.int (512 : Int32)), .val (.int x68), .val (.int y70), .val (.int z72), .val (.int c74), .val (.int c76), .val (.int c78), .val (.int t80), .unset, .unset, .unset, .unset, .unset, .unset, .unset, .unset] [(.int t80)])) t → Steps p.tables e below (s₁.setTop (mkF m 140 #[.val (.int p1), .val (.int p2), .val (.int p3), .val (.int p4), .val (.int p5), .val (.int p6), .val (.int (p1 &&& (3 : Int32))), .val (.int (512 : Int32)), .val (.int x68), .val (.int y70), .val (.int z72), .val (.int c74), .val (.int c76), .val (.int c78), .val (.int t80), .unset, .unset, .unset, .unset, .unset, .unset, .unset, .unset] [])) t := by
          intro t kt
          show Steps p.tables e below (s₁.setTop (mkF m 140 #[.val (.int p1), .val (.int p2), .val (.int p3), .val (.int p4), .val (.int p5), .val (.int p6), .val (.int (p1 &&& (3 : Int32))), .val (.int (512 : Int32)), .val (.int x68), .val (.int y70), .val (.int z72), .val (.int c74), .val (.int c76), .val (.int c78), .val (.int t80), .unset, .unset, .unset, .unset, .unset, .unset, .unset, .unset] [])) _
          refine XS.iload X0.here hx rfl (hb hby at_140) rfl ?_
          exact kt
        by_cases hc142 : t80 = (0 : Int32)
        · obtain ⟨fs, hr, hrun, hended, hW, hsame⟩ := X0.leave (v := some (.int (1 : Int32))) (fun h => by rw [Bd.returns] at h; cases h)
          refine ⟨_, _, pre0 _ (c1 _ (c34 _ (c67 _ (c69 _ (c71 _ (c73 _ (c75 _ (c77 _ (c79 _ (c81 _ (c82 _ (?_)))))))))))), hrun, hended, _, _, rfl, ?_, ⟨_, rfl⟩, hW, hsame.mono (by decide) (by decide)⟩
          · show Steps p.tables e below (s₁.setTop (mkF m 142 #[.val (.int p1), .val (.int p2), .val (.int p3), .val (.int p4), .val (.int p5), .val (.int p6), .val (.int (p1 &&& (3 : Int32))), .val (.int (512 : Int32)), .val (.int x68), .val (.int y70), .val (.int z72), .val (.int c74), .val (.int c76), .val (.int c78), .val (.int t80), .unset, .unset, .unset, .unset, .unset, .unset, .unset, .unset] [(.int t80)])) _
            refine XS.ifNo X0.here hx rfl (hb hby at_142) rfl ((if0 _ _).trans (teq hc142).2) ?_
            refine XS.iconst X0.here hx rfl (hb hby at_145) ?_
            show Steps p.tables e below (s₁.setTop (mkF m 146 #[.val (.int p1), .val (.int p2), .val (.int p3), .val (.int p4), .val (.int p5), .val (.int p6), .val (.int (p1 &&& (3 : Int32))), .val (.int (512 : Int32)), .val (.int x68), .val (.int y70), .val (.int z72), .val (.int c74), .val (.int c76), .val (.int c78), .val (.int t80), .unset, .unset, .unset, .unset, .unset, .unset, .unset, .unset] [(.int (1 : Int32))])) _
            exact retN X0 hx (t := .boolean) Bd.returns (by simp) (hb hby at_146) hr
          · show Qrm0 Z p1 p2 p3 p4 p5 p6 h0 n0 _ s₁.heap _
            rw [e0]
            exact ⟨rfl, N0⟩
        · have Pt80 : 0 < t80.toInt := by
            have nz : ¬ (t80.toInt = 0) := fun q => hc142 (Int32.toInt_inj.mp q)
            omega
          obtain ⟨r83, hr83⟩ : ∃ z, z = ((p6 &&& (2147483647 : Int32)) % t80) := ⟨_, rfl⟩
          have c84 : ∀ t, Steps p.tables e below (s₁.setTop (mkF m 157 #[.val (.int p1), .val (.int p2), .val (.int p3), .val (.int p4), .val (.int p5), .val (.int p6), .val (.int (p1 &&& (3 : Int32))), .val (.int (512 : Int32)), .val (.int x68), .val (.int y70), .val (.int z72), .val (.int c74), .val (.int c76), .val (.int c78), .val (.int t80), .val (.int r83), .unset, .unset, .unset, .unset, .unset, .unset, .unset] [])) t → Steps p.tables e below (s₁.setTop (mkF m 142 #[.val (.int p1), .val (.int p2), .val (.int p3), .val (.int p4), .val (.int p5), .val (.int p6), .val (.int (p1 &&& (3 : Int32))), .val (.int (512 : Int32)), .val (.int x68), .val (.int y70), .val (.int z72), .val (.int c74), .val (.int c76), .val (.int c78), .val (.int t80), .unset, .unset, .unset, .unset, .unset, .unset, .unset, .unset] [(.int t80)])) t := by
            intro t kt
            subst hr83
            show Steps p.tables e below (s₁.setTop (mkF m 142 #[.val (.int p1), .val (.int p2), .val (.int p3), .val (.int p4), .val (.int p5), .val (.int p6), .val (.int (p1 &&& (3 : Int32))), .val (.int (512 : Int32)), .val (.int x68), .val (.int y70), .val (.int z72), .val (.int c74), .val (.int c76), .val (.int c78), .val (.int t80), .unset, .unset, .unset, .unset, .unset, .unset, .unset, .unset] [(.int t80)])) _
            refine XS.ifYes X0.here hx rfl (pc0 := 142) (pc' := 147) rfl (hb hby at_142) rfl ((if0 _ _).trans (feq hc142).2) (by decide) (by decide) ?_
            refine XS.iload X0.here hx rfl (hb hby at_147) rfl ?_
            refine X0.ldcInt hx hown (mvT hZ (hw _ (List.mem_of_getElem? (i := 0) rfl))) (g := (mkF m 149 #[.val (.int p1), .val (.int p2), .val (.int p3), .val (.int p4), .val (.int p5), .val (.int p6), .val (.int (p1 &&& (3 : Int32))), .val (.int (512 : Int32)), .val (.int x68), .val (.int y70), .val (.int z72), .val (.int c74), .val (.int c76), .val (.int c78), .val (.int t80), .unset, .unset, .unset, .unset, .unset, .unset, .unset, .unset] [(.int p6)])) rfl (hb hby at_149) _ ?_
            show Steps p.tables e below (s₁.setTop (mkF m 151 #[.val (.int p1), .val (.int p2), .val (.int p3), .val (.int p4), .val (.int p5), .val (.int p6), .val (.int (p1 &&& (3 : Int32))), .val (.int (512 : Int32)), .val (.int x68), .val (.int y70), .val (.int z72), .val (.int c74), .val (.int c76), .val (.int c78), .val (.int t80), .unset, .unset, .unset, .unset, .unset, .unset, .unset, .unset] [(.int (2147483647 : Int32)), (.int p6)])) _
            refine XS.iand X0.here hx rfl (hb hby at_151) rfl ?_
            refine XS.iload X0.here hx rfl (hb hby at_152) rfl ?_
            refine Jvm.RoadKit.iremM (g := (mkF m 154 #[.val (.int p1), .val (.int p2), .val (.int p3), .val (.int p4), .val (.int p5), .val (.int p6), .val (.int (p1 &&& (3 : Int32))), .val (.int (512 : Int32)), .val (.int x68), .val (.int y70), .val (.int z72), .val (.int c74), .val (.int c76), .val (.int c78), .val (.int t80), .unset, .unset, .unset, .unset, .unset, .unset, .unset, .unset] [(.int t80), (.int (p6 &&& (2147483647 : Int32)))])) X0 hx rfl (hb hby at_154) rfl (own_nz Pt80) ?_
            show Steps p.tables e below (s₁.setTop (mkF m 155 #[.val (.int p1), .val (.int p2), .val (.int p3), .val (.int p4), .val (.int p5), .val (.int p6), .val (.int (p1 &&& (3 : Int32))), .val (.int (512 : Int32)), .val (.int x68), .val (.int y70), .val (.int z72), .val (.int c74), .val (.int c76), .val (.int c78), .val (.int t80), .unset, .unset, .unset, .unset, .unset, .unset, .unset, .unset] [(.int ((p6 &&& (2147483647 : Int32)) % t80))])) _
            refine XS.istore X0.here hx rfl (hb hby at_155) rfl (l' := #[.val (.int p1), .val (.int p2), .val (.int p3), .val (.int p4), .val (.int p5), .val (.int p6), .val (.int (p1 &&& (3 : Int32))), .val (.int (512 : Int32)), .val (.int x68), .val (.int y70), .val (.int z72), .val (.int c74), .val (.int c76), .val (.int c78), .val (.int t80), .val (.int ((p6 &&& (2147483647 : Int32)) % t80)), .unset, .unset, .unset, .unset, .unset, .unset, .unset]) rfl ?_
            exact kt
          have Rr83 : 0 ≤ r83.toInt ∧ r83.toInt < t80.toInt := by rw [hr83]; exact own_mod _ _ Pt80
          obtain ⟨T85, h85, X85, e85, E85, A85, D85, -, st85⟩ := newO X0 hx hZ hown (hw _ (List.mem_of_getElem? (i := 1) rfl)) (hw _ (List.mem_of_getElem? (i := 2) rfl)) (hw _ (List.mem_of_getElem? (i := 3) rfl)) e0 (g := (mkF m 157 #[.val (.int p1), .val (.int p2), .val (.int p3), .val (.int p4), .val (.int p5), .val (.int p6), .val (.int (p1 &&& (3 : Int32))), .val (.int (512 : Int32)), .val (.int x68), .val (.int y70), .val (.int z72), .val (.int c74), .val (.int c76), .val (.int c78), .val (.int t80), .val (.int r83), .unset, .unset, .unset, .unset, .unset, .unset, .unset] [])) rfl (hb hby at_157) (by decide) (by decide)
          obtain ⟨b85, g85⟩ : ∃ z, z = h0.size := ⟨_, rfl⟩
          rw [← g85] at A85 D85 st85
          have g_b85 : n0 ≤ b85 := Nat.le_trans Z0 (Nat.le_of_eq g85.symm)
          have sz_b85 : h0.size ≤ b85 := (Nat.le_trans (Keep.refl h0 []).1 (Nat.le_of_eq g85.symm))
          have F_top_b85 : Fld Z h85 b85 "com/example/ebbtide/ebbtide/cluster/PlaceCounts" "top" "I" (.int (0 : Int32)) := (D85 (Or.inr (hw _ (List.mem_of_getElem? (i := 11) rfl))) (ty := .int) (by decide))
          have F_sums_b85 : Fld Z h85 b85 "com/example/ebbtide/ebbtide/cluster/PlaceCounts" "sums" "[I" .null := (D85 (Or.inr (hw _ (List.mem_of_getElem? (i := 14) rfl))) (ty := (.array .int)) (by decide))
          have F_total_b85 : Fld Z h85 b85 "com/example/ebbtide/ebbtide/cluster/PlaceCounts" "total" "I" (.int (0 : Int32)) := (D85 (Or.inl (hw _ (List.mem_of_getElem? (i := 21) rfl))) (ty := .int) (by decide))
          have K85 : Keep h0 h85 [] := (Keep.refl h0 []).ext E85
          have Z85 : n0 ≤ h85.size := Nat.le_trans Z0 E85.1
          obtain ⟨_, _, ⟨T86, L86, k86, n86⟩, -, X86, ⟨Lc86, hQ86, l86, y86, z86⟩, st86⟩ := X85.specialBack hx (y := (⟨"com/example/ebbtide/ebbtide/cluster/PlaceCounts", "<init>", "(I)V"⟩ : MethodName)) rfl hown (mvT hZ (hw _ (List.mem_of_getElem? (i := 4) rfl))) (mvT hZ (hw _ (List.mem_of_getElem? (i := 5) rfl))) (mvT hZ (hw _ (List.mem_of_getElem? (i := 6) rfl))) (by decide) (backOf (W := 1) (rmI_512 l Z a0 hw [] b85 h85 n0 Z85 A85 F_sums_b85 F_top_b85 F_total_b85 g_b85) hZ (hw _ (List.mem_of_getElem? (i := 6) rfl)) (hw _ (List.mem_of_getElem? (i := 3) rfl)) (by decide) (by decide)) (g := (mkF m 163 #[.val (.int p1), .val (.int p2), .val (.int p3), .val (.int p4), .val (.int p5), .val (.int p6), .val (.int (p1 &&& (3 : Int32))), .val (.int (512 : Int32)), .val (.int x68), .val (.int y70), .val (.int z72), .val (.int c74), .val (.int c76), .val (.int c78), .val (.int t80), .val (.int r83), .unset, .unset, .unset, .unset, .unset, .unset, .unset] [(.int (512 : Int32)), (.ref b85), (.ref b85)])) rfl (by rw [hml]; rfl) (Steps.refl _) (a := b85) (argsL := [(.int (512 : Int32))]) (rest := [(.ref b85)]) (lenOf pd__28I_29V rfl) rfl (by show 2 * 0 + _ ≤ _; exact Nat.le_of_eq rfl) (hb hby at_163) (fun _ _ => ⟨rfl, e85, (by decide : 1 + 1 ≤ _), (by decide : 3 + 513 ≤ _)⟩)
          dsimp only [Pt.U, Pt.locs, Pt.cells, Pt.slots] at X86 l86 y86 z86 st86 hQ86
          subst l86 y86 z86
          obtain ⟨h86, e86⟩ : ∃ h', T86.heap = h' := ⟨_, rfl⟩
          rw [e86] at hQ86
          obtain ⟨rfl, N86q, K86q, Eq86, ⟨bs86, gb86, ne86, Fs86, Ab86⟩, Ft86, Fn86⟩ := hQ86
          have K86 : Keep h0 h86 [] := K85.trans K86q (allS (Or.inr sz_b85) all0)
          have Z86 : n0 ≤ h86.size := Nat.le_trans Z85 K86q.1
          have N86 := Fr.app N0 N86q
          have sz_bs86 : h0.size ≤ bs86 := Nat.le_trans Z0' gb86
          have g_bs86 := gb86
          have e1_88 : (x68 + (1 : Int32)).toInt = x68.toInt + 1 := Jvm.Kit.i32_add (by show -2 ^ 31 ≤ x68.toInt + 1; omega) (by show x68.toInt + 1 < 2 ^ 31; omega)
          obtain ⟨cq87, kq87, q87a, q87b, q87c⟩ := isOf hZ e86 Eq86
          obtain ⟨_, _, ⟨T87, L87, k87, n87⟩, -, X87, ⟨Lc87, hQ87, l87, y87, z87⟩, st87⟩ := X86.virtualBack hx (y := (⟨"com/example/ebbtide/ebbtide/cluster/PlaceCounts", "add", "(II)V"⟩ : MethodName)) (z := (⟨"com/example/ebbtide/ebbtide/cluster/PlaceCounts", "add", "(II)V"⟩ : MethodName)) hown (mvT hZ (hw _ (List.mem_of_getElem? (i := 15) rfl))) (mvT hZ (hw _ (List.mem_of_getElem? (i := 16) rfl))) (notFace_of_selects (args := #[]) (mvT hZ (hw _ (List.mem_of_getElem? (i := 18) rfl)))) (mvT hZ (hw _ (List.mem_of_getElem? (i := 18) rfl))) (mvT hZ (hw _ (List.mem_of_getElem? (i := 17) rfl))) (by decide) (backOf (W := 0) (rmA_512 l Z a0 hw [] b85 bs86 x68 c74 (0 : Int32) (fun _ => (0 : Int32)) h86 n0 Z86 Eq86 Fs86 Ft86 Fn86 Ab86 g_b85 g_bs86 ne86 (by omega)) hZ (hw _ (List.mem_of_getElem? (i := 19) rfl)) (hw _ (List.mem_of_getElem? (i := 3) rfl)) (by decide) (by decide)) q87a q87c (g := (mkF m 174 #[.val (.int p1), .val (.int p2), .val (.int p3), .val (.int p4), .val (.int p5), .val (.int p6), .val (.int (p1 &&& (3 : Int32))), .val (.int (512 : Int32)), .val (.int x68), .val (.int y70), .val (.int z72), .val (.int c74), .val (.int c76), .val (.int c78), .val (.int t80), .val (.int r83), .val (.ref b85), .unset, .unset, .unset, .unset, .unset, .unset] [(.int c74), (.int x68), (.ref b85)])) rfl (by rw [hml]; rfl) (Steps.refl _) (argsL := [(.int x68), (.int c74)]) (rest := []) (lenOf pd__28II_29V rfl) rfl (by show 2 * 0 + _ ≤ _; exact Nat.le_of_eq rfl) (hb hby at_174) (fun _ _ => ⟨rfl, e86, (by decide : 2 + 0 ≤ _), (by decide : 516 + 0 ≤ _)⟩)
          dsimp only [Pt.U, Pt.locs, Pt.cells, Pt.slots] at X87 l87 y87 z87 st87 hQ87
          subst l87 y87 z87
          obtain ⟨h87, e87⟩ : ∃ h', T87.heap = h' := ⟨_, rfl⟩
          rw [e87] at hQ87
          obtain ⟨rfl, N87q, K87q, Eq87, Fs87, Ft87, Fn87, Ab87⟩ := hQ87
          have K87 : Keep h0 h87 [] := K86.trans K87q (allS (Or.inr sz_b85) (allS (Or.inr sz_bs86) all0))
          have Z87 : n0 ≤ h87.size := Nat.le_trans Z86 K87q.1
          have N87 := Fr.app N86 N87q
          have e1_90 : (y70 + (1 : Int32)).toInt = y70.toInt + 1 := Jvm.Kit.i32_add (by show -2 ^ 31 ≤ y70.toInt + 1; omega) (by show y70.toInt + 1 < 2 ^ 31; omega)
          obtain ⟨cq89, kq89, q89a, q89b, q89c⟩ := isOf hZ e87 Eq87
          obtain ⟨_, _, ⟨T89, L89, k89, n89⟩, -, X89, ⟨Lc89, hQ89, l89, y89, z89⟩, st89⟩ := X87.virtualBack hx (y := (⟨"com/example/ebbtide/ebbtide/cluster/PlaceCounts", "add", "(II)V"⟩ : MethodName)) (z := (⟨"com/example/ebbtide/ebbtide/cluster/PlaceCounts", "add", "(II)V"⟩ : MethodName)) hown (mvT hZ (hw _ (List.mem_of_getElem? (i := 15) rfl))) (mvT hZ (hw _ (List.mem_of_getElem? (i := 16) rfl))) (notFace_of_selects (args := #[]) (mvT hZ (hw _ (List.mem_of_getElem? (i := 18) rfl)))) (mvT hZ (hw _ (List.mem_of_getElem? (i := 18) rfl))) (mvT hZ (hw _ (List.mem_of_getElem? (i := 17) rfl))) (by decide) (backOf (W := 0) (rmA_512 l Z a0 hw [] b85 bs86 y70 c76 ((0 : Int32) + c74) (own_fen (fun _ => (0 : Int32)) (x68 + (1 : Int32)).toNatClampNeg c74) h87 n0 Z87 Eq87 Fs87 Ft87 Fn87 Ab87 g_b85 g_bs86 ne86 (by omega)) hZ (hw _ (List.mem_of_getElem? (i := 19) rfl)) (hw _ (List.mem_of_getElem? (i := 3) rfl)) (by decide) (by decide)) q89a q89c (g := (mkF m 183 #[.val (.int p1), .val (.int p2), .val (.int p3), .val (.int p4), .val (.int p5), .val (.int p6), .val (.int (p1 &&& (3 : Int32))), .val (.int (512 : Int32)), .val (.int x68), .val (.int y70), .val (.int z72), .val (.int c74), .val (.int c76), .val (.int c78), .val (.int t80), .val (.int r83), .val (.ref b85), .unset, .unset, .unset, .unset, .unset, .unset] [(.int c76), (.int y70), (.ref b85)])) rfl (by rw [hml]; rfl) (Steps.refl _) (argsL := [(.int y70), (.int c76)]) (rest := []) (lenOf pd__28II_29V rfl) rfl (by show 2 * 0 + _ ≤ _; exact Nat.le_of_eq rfl) (hb hby at_183) (fun _ _ => ⟨rfl, e87, (by decide : 2 + 0 ≤ _), (by decide : 516 + 0 ≤ _)⟩)
          dsimp only [Pt.U, Pt.locs, Pt.cells, Pt.slots] at X89 l89 y89 z89 st89 hQ89
          subst l89 y89 z89
          obtain ⟨h89, e89⟩ : ∃ h', T89.heap = h' := ⟨_, rfl⟩
          rw [e89] at hQ89
          obtain ⟨rfl, N89q, K89q, Eq89, Fs89, Ft89, Fn89, Ab89⟩ := hQ89
          have K89 : Keep h0 h89 [] := K87.trans K89q (allS (Or.inr sz_b85) (allS (Or.inr sz_bs86) all0))
          have Z89 : n0 ≤ h89.size := Nat.le_trans Z87 K89q.1
          have N89 := Fr.app N87 N89q
          have e1_92 : (z72 + (1 : Int32)).toInt = z72.toInt + 1 := Jvm.Kit.i32_add (by show -2 ^ 31 ≤ z72.toInt + 1; omega) (by show z72.toInt + 1 < 2 ^ 31; omega)
          obtain ⟨cq91, kq91, q91a, q91b, q91c⟩ := isOf hZ e89 Eq89
          obtain ⟨_, _, ⟨T91, L91, k91, n91⟩, -, X91, ⟨Lc91, hQ91, l91, y91, z91⟩, st91⟩ := X89.virtualBack hx (y := (⟨"com/example/ebbtide/ebbtide/cluster/PlaceCounts", "add", "(II)V"⟩ : MethodName)) (z := (⟨"com/example/ebbtide/ebbtide/cluster/PlaceCounts", "add", "(II)V"⟩ : MethodName)) hown (mvT hZ (hw _ (List.mem_of_getElem? (i := 15) rfl))) (mvT hZ (hw _ (List.mem_of_getElem? (i := 16) rfl))) (notFace_of_selects (args := #[]) (mvT hZ (hw _ (List.mem_of_getElem? (i := 18) rfl)))) (mvT hZ (hw _ (List.mem_of_getElem? (i := 18) rfl))) (mvT hZ (hw _ (List.mem_of_getElem? (i := 17) rfl))) (by decide) (backOf (W := 0) (rmA_512 l Z a0 hw [] b85 bs86 z72 c78 (((0 : Int32) + c74) + c76) (own_fen (own_fen (fun _ => (0 : Int32)) (x68 + (1 : Int32)).toNatClampNeg c74) (y70 + (1 : Int32)).toNatClampNeg c76) h89 n0 Z89 Eq89 Fs89 Ft89 Fn89 Ab89 g_b85 g_bs86 ne86 (by omega)) hZ (hw _ (List.mem_of_getElem? (i := 19) rfl)) (hw _ (List.mem_of_getElem? (i := 3) rfl)) (by decide) (by decide)) q91a q91c (g := (mkF m 192 #[.val (.int p1), .val (.int p2), .val (.int p3), .val (.int p4), .val (.int p5), .val (.int p6), .val (.int (p1 &&& (3 : Int32))), .val (.int (512 : Int32)), .val (.int x68), .val (.int y70), .val (.int z72), .val (.int c74), .val (.int c76), .val (.int c78), .val (.int t80), .val (.int r83), .val (.ref b85), .unset, .unset, .unset, .unset, .unset, .unset] [(.int c78), (.int z72), (.ref b85)])) rfl (by rw [hml]; rfl) (Steps.refl _) (argsL := [(.int z72), (.int c78)]) (rest := []) (lenOf pd__28II_29V rfl) rfl (by show 2 * 0 + _ ≤ _; exact Nat.le_of_eq rfl) (hb hby at_192) (fun _ _ => ⟨rfl, e89, (by decide : 2 + 0 ≤ _), (by decide : 516 + 0 ≤ _)⟩)
          dsimp only [Pt.U, Pt.locs, Pt.cells, Pt.slots] at X91 l91 y91 z91 st91 hQ91
          subst l91 y91 z91
          obtain ⟨h91, e91⟩ : ∃ h', T91.heap = h' := ⟨_, rfl⟩
          rw [e91] at hQ91
          obtain ⟨rfl, N91q, K91q, Eq91, Fs91, Ft91, Fn91, Ab91⟩ := hQ91
          have K91 : Keep h0 h91 [] := K89.trans K91q (allS (Or.inr sz_b85) (allS (Or.inr sz_bs86) all0))
          have Z91 : n0 ≤ h91.size := Nat.le_trans Z89 K91q.1
          have N91 := Fr.app N89 N91q
          obtain ⟨cq93, kq93, q93a, q93b, q93c⟩ := isOf hZ e91 Eq91
          obtain ⟨_, _, ⟨T93, L93, k93, n93⟩, -, X93, ⟨Lc93, hQ93, l93, y93, z93⟩, st93⟩ := X91.virtualBack hx (y := (⟨"com/example/ebbtide/ebbtide/cluster/PlaceCounts", "locate", "(I)J"⟩ : MethodName)) (z := (⟨"com/example/ebbtide/ebbtide/cluster/PlaceCounts", "locate", "(I)J"⟩ : MethodName)) hown (mvT hZ (hw _ (List.mem_of_getElem? (i := 22) rfl))) (mvT hZ (hw _ (List.mem_of_getElem? (i := 23) rfl))) (notFace_of_selects (args := #[]) (mvT hZ (hw _ (List.mem_of_getElem? (i := 25) rfl)))) (mvT hZ (hw _ (List.mem_of_getElem? (i := 25) rfl))) (mvT hZ (hw _ (List.mem_of_getElem? (i := 24) rfl))) (by decide) (backOf (W := 0) (rmL_512 l Z a0 hw [] b85 bs86 r83 (own_fen (own_fen (own_fen (fun _ => (0 : Int32)) (x68 + (1 : Int32)).toNatClampNeg c74) (y70 + (1 : Int32)).toNatClampNeg c76) (z72 + (1 : Int32)).toNatClampNeg c78) (own_P x68.toInt y70.toInt z72.toInt c74.toInt c76.toInt c78.toInt) h91 n0 Z91 Fs91 Ft91 Ab91 (fun u w q => own_P_mono x68.toInt y70.toInt z72.toInt c74.toInt c76.toInt c78.toInt Rc74.1 Rc76.1 Rc78.1 u w q) (fun u => own_P_lo x68.toInt y70.toInt z72.toInt c74.toInt c76.toInt c78.toInt Rc74.1 Rc76.1 Rc78.1 u) (fun u => Int.le_trans (own_P_hi x68.toInt y70.toInt z72.toInt c74.toInt c76.toInt c78.toInt Rc74.1 Rc76.1 Rc78.1 u) (by omega)) (own_P_zero x68.toInt y70.toInt z72.toInt c74.toInt c76.toInt c78.toInt (by omega) (by omega) (by omega)) Rr83.1 (by omega) (by rw [own_P_all x68.toInt y70.toInt z72.toInt c74.toInt c76.toInt c78.toInt 512 (by omega) (by omega) (by omega)]; omega) (fun k hk q u w => own_nodeI x68 y70 z72 c74 c76 c78 (show 0 ≤ x68.toInt ∧ x68.toInt ≤ 2000 from by omega) (show 0 ≤ y70.toInt ∧ y70.toInt ≤ 2000 from by omega) (show 0 ≤ z72.toInt ∧ z72.toInt ≤ 2000 from by omega) Rc74 Rc76 Rc78 k hk q u w)) hZ (hw _ (List.mem_of_getElem? (i := 26) rfl)) (hw _ (List.mem_of_getElem? (i := 3) rfl)) (by decide) (by decide)) q93a q93c (g := (mkF m 199 #[.val (.int p1), .val (.int p2), .val (.int p3), .val (.int p4), .val (.int p5), .val (.int p6), .val (.int (p1 &&& (3 : Int32))), .val (.int (512 : Int32)), .val (.int x68), .val (.int y70), .val (.int z72), .val (.int c74), .val (.int c76), .val (.int c78), .val (.int t80), .val (.int r83), .val (.ref b85), .unset, .unset, .unset, .unset, .unset, .unset] [(.int r83), (.ref b85)])) rfl (by rw [hml]; rfl) (Steps.refl _) (argsL := [(.int r83)]) (rest := []) (lenOf pd__28I_29J rfl) rfl (by show 2 * 0 + _ ≤ _; exact Nat.le_of_eq rfl) (hb hby at_199) (fun _ _ => ⟨rfl, e91, (by decide : 2 + 0 ≤ _), (by decide : 516 + 0 ≤ _)⟩)
          dsimp only [Pt.U, Pt.locs, Pt.cells, Pt.slots] at X93 l93 y93 z93 st93 hQ93
          subst l93 y93 z93
          obtain ⟨pl93, rk93, M93, rfl, N93q, e93, I93⟩ := hQ93
          have N93 := Fr.app N91 N93q
          have c94 : ∀ t, Steps p.tables e below (T93.setTop (mkF m 208 #[.val (.int p1), .val (.int p2), .val (.int p3), .val (.int p4), .val (.int p5), .val (.int p6), .val (.int (p1 &&& (3 : Int32))), .val (.int (512 : Int32)), .val (.int x68), .val (.int y70), .val (.int z72), .val (.int c74), .val (.int c76), .val (.int c78), .val (.int t80), .val (.int r83), .val (.ref b85), .val (.long (((pl93.toInt64) <<< ((32 : Int32) &&& 0x3f).toInt64) ||| (rk93.toInt64))), .second, .unset, .unset, .unset, .unset] [(.int c74), (.int r83)])) t → Steps p.tables e below (s₁.setTop (mkF m 157 #[.val (.int p1), .val (.int p2), .val (.int p3), .val (.int p4), .val (.int p5), .val (.int p6), .val (.int (p1 &&& (3 : Int32))), .val (.int (512 : Int32)), .val (.int x68), .val (.int y70), .val (.int z72), .val (.int c74), .val (.int c76), .val (.int c78), .val (.int t80), .val (.int r83), .unset, .unset, .unset, .unset, .unset, .unset, .unset] [])) t := by
            intro t kt
            show Steps p.tables e below (s₁.setTop (mkF m 157 #[.val (.int p1), .val (.int p2), .val (.int p3), .val (.int p4), .val (.int p5), .val (.int p6), .val (.int (p1 &&& (3 : Int32))), .val (.int (512 : Int32)), .val (.int x68), .val (.int y70), .val (.int z72), .val (.int c74), .val (.int c76), .val (.int c78), .val (.int t80), .val (.int r83), .unset, .unset, .unset, .unset, .unset, .unset, .unset] [])) _
            refine st85 _ ?_
            refine XS.dup X85.here hx rfl (hb hby at_160) rfl rfl ?_
            refine XS.iload X85.here hx rfl (hb hby at_161) rfl ?_
            show Steps p.tables e below (T85.setTop (mkF m 163 #[.val (.int p1), .val (.int p2), .val (.int p3), .val (.int p4), .val (.int p5), .val (.int p6), .val (.int (p1 &&& (3 : Int32))), .val (.int (512 : Int32)), .val (.int x68), .val (.int y70), .val (.int z72), .val (.int c74), .val (.int c76), .val (.int c78), .val (.int t80), .val (.int r83), .unset, .unset, .unset, .unset, .unset, .unset, .unset] [(.int (512 : Int32)), (.ref b85), (.ref b85)])) _
            refine st86.trans ?_
            refine XS.astore X86.here hx rfl (hb hby at_166) rfl rfl (l' := #[.val (.int p1), .val (.int p2), .val (.int p3), .val (.int p4), .val (.int p5), .val (.int p6), .val (.int (p1 &&& (3 : Int32))), .val (.int (512 : Int32)), .val (.int x68), .val (.int y70), .val (.int z72), .val (.int c74), .val (.int c76), .val (.int c78), .val (.int t80), .val (.int r83), .val (.ref b85), .unset, .unset, .unset, .unset, .unset, .unset]) rfl ?_
            refine XS.aload X86.here hx rfl (hb hby at_168) rfl rfl ?_
            show Steps p.tables e below (T86.setTop (mkF m 170 #[.val (.int p1), .val (.int p2), .val (.int p3), .val (.int p4), .val (.int p5), .val (.int p6), .val (.int (p1 &&& (3 : Int32))), .val (.int (512 : Int32)), .val (.int x68), .val (.int y70), .val (.int z72), .val (.int c74), .val (.int c76), .val (.int c78), .val (.int t80), .val (.int r83), .val (.ref b85), .unset, .unset, .unset, .unset, .unset, .unset] [(.ref b85)])) _
            refine XS.iload X86.here hx rfl (hb hby at_170) rfl ?_
            refine XS.iload X86.here hx rfl (hb hby at_172) rfl ?_
            show Steps p.tables e below (T86.setTop (mkF m 174 #[.val (.int p1), .val (.int p2), .val (.int p3), .val (.int p4), .val (.int p5), .val (.int p6), .val (.int (p1 &&& (3 : Int32))), .val (.int (512 : Int32)), .val (.int x68), .val (.int y70), .val (.int z72), .val (.int c74), .val (.int c76), .val (.int c78), .val (.int t80), .val (.int r83), .val (.ref b85), .unset, .unset, .unset, .unset, .unset, .unset] [(.int c74), (.int x68), (.ref b85)])) _
            refine st87.trans ?_
            refine XS.aload X87.here hx rfl (hb hby at_177) rfl rfl ?_
            refine XS.iload X87.here hx rfl (hb hby at_179) rfl ?_
            show Steps p.tables e below (T87.setTop (mkF m 181 #[.val (.int p1), .val (.int p2), .val (.int p3), .val (.int p4), .val (.int p5), .val (.int p6), .val (.int (p1 &&& (3 : Int32))), .val (.int (512 : Int32)), .val (.int x68), .val (.int y70), .val (.int z72), .val (.int c74), .val (.int c76), .val (.int c78), .val (.int t80), .val (.int r83), .val (.ref b85), .unset, .unset, .unset, .unset, .unset, .unset] [(.int y70), (.ref b85)])) _
            refine XS.iload X87.here hx rfl (hb hby at_181) rfl ?_
            show Steps p.tables e below (T87.setTop (mkF m 183 #[.val (.int p1), .val (.int p2), .val (.int p3), .val (.int p4), .val (.int p5), .val (.int p6), .val (.int (p1 &&& (3 : Int32))), .val (.int (512 : Int32)), .val (.int x68), .val (.int y70), .val (.int z72), .val (.int c74), .val (.int c76), .val (.int c78), .val (.int t80), .val (.int r83), .val (.ref b85), .unset, .unset, .unset, .unset, .unset, .unset] [(.int c76), (.int y70), (.ref b85)])) _
            refine st89.trans ?_
            refine XS.aload X89.here hx rfl (hb hby at_186) rfl rfl ?_
            refine XS.iload X89.here hx rfl (hb hby at_188) rfl ?_
            show Steps p.tables e below (T89.setTop (mkF m 190 #[.val (.int p1), .val (.int p2), .val (.int p3), .val (.int p4), .val (.int p5), .val (.int p6), .val (.int (p1 &&& (3 : Int32))), .val (.int (512 : Int32)), .val (.int x68), .val (.int y70), .val (.int z72), .val (.int c74), .val (.int c76), .val (.int c78), .val (.int t80), .val (.int r83), .val (.ref b85), .unset, .unset, .unset, .unset, .unset, .unset] [(.int z72), (.ref b85)])) _
            refine XS.iload X89.here hx rfl (hb hby at_190) rfl ?_
            show Steps p.tables e below (T89.setTop (mkF m 192 #[.val (.int p1), .val (.int p2), .val (.int p3), .val (.int p4), .val (.int p5), .val (.int p6), .val (.int (p1 &&& (3 : Int32))), .val (.int (512 : Int32)), .val (.int x68), .val (.int y70), .val (.int z72), .val (.int c74), .val (.int c76), .val (.int c78), .val (.int t80), .val (.int r83), .val (.ref b85), .unset, .unset, .unset, .unset, .unset, .unset] [(.int c78), (.int z72), (.ref b85)])) _
            refine st91.trans ?_
            refine XS.aload X91.here hx rfl (hb hby at_195) rfl rfl ?_
            refine XS.iload X91.here hx rfl (hb hby at_197) rfl ?_
            show Steps p.tables e below (T91.setTop (mkF m 199 #[.val (.int p1), .val (.int p2), .val (.int p3), .val (.int p4), .val (.int p5), .val (.int p6), .val (.int (p1 &&& (3 : Int32))), .val (.int (512 : Int32)), .val (.int x68), .val (.int y70), .val (.int z72), .val (.int c74), .val (.int c76), .val (.int c78), .val (.int t80), .val (.int r83), .val (.ref b85), .unset, .unset, .unset, .unset, .unset, .unset] [(.int r83), (.ref b85)])) _
            refine st93.trans ?_
            refine XS.lstore X93.here hx rfl (hb hby at_202) rfl (l' := #[.val (.int p1), .val (.int p2), .val (.int p3), .val (.int p4), .val (.int p5), .val (.int p6), .val (.int (p1 &&& (3 : Int32))), .val (.int (512 : Int32)), .val (.int x68), .val (.int y70), .val (.int z72), .val (.int c74), .val (.int c76), .val (.int c78), .val (.int t80), .val (.int r83), .val (.ref b85), .val (.long (((pl93.toInt64) <<< ((32 : Int32) &&& 0x3f).toInt64) ||| (rk93.toInt64))), .second, .unset, .unset, .unset, .unset]) rfl ?_
            refine XS.iload X93.here hx rfl (hb hby at_204) rfl ?_
            show Steps p.tables e below (T93.setTop (mkF m 206 #[.val (.int p1), .val (.int p2), .val (.int p3), .val (.int p4), .val (.int p5), .val (.int p6), .val (.int (p1 &&& (3 : Int32))), .val (.int (512 : Int32)), .val (.int x68), .val (.int y70), .val (.int z72), .val (.int c74), .val (.int c76), .val (.int c78), .val (.int t80), .val (.int r83), .val (.ref b85), .val (.long (((pl93.toInt64) <<< ((32 : Int32) &&& 0x3f).toInt64) ||| (rk93.toInt64))), .second, .unset, .unset, .unset, .unset] [(.int r83)])) _
            refine XS.iload X93.here hx rfl (hb hby at_206) rfl ?_
            exact kt
          obtain ⟨v97, hv97⟩ : ∃ z, z = (if r83 < c74 then x68 else (if r83 < (c74 + c76) then y70 else z72)) := ⟨_, rfl⟩
          obtain ⟨v98, hv98⟩ : ∃ z, z = (if r83 < c74 then r83 else (if r83 < (c74 + c76) then (r83 - c74) else ((r83 - c74) - c76))) := ⟨_, rfl⟩
          have c99 : ∀ t, Steps p.tables e below (T93.setTop (mkF m 260 #[.val (.int p1), .val (.int p2), .val (.int p3), .val (.int p4), .val (.int p5), .val (.int p6), .val (.int (p1 &&& (3 : Int32))), .val (.int (512 : Int32)), .val (.int x68), .val (.int y70), .val (.int z72), .val (.int c74), .val (.int c76), .val (.int c78), .val (.int t80), .val (.int r83), .val (.ref b85), .val (.long (((pl93.toInt64) <<< ((32 : Int32) &&& 0x3f).toInt64) ||| (rk93.toInt64))), .second, .val (.int v97), .val (.int v98), .unset, .unset] [])) t → Steps p.tables e below (T93.setTop (mkF m 208 #[.val (.int p1), .val (.int p2), .val (.int p3), .val (.int p4), .val (.int p5), .val (.int p6), .val (.int (p1 &&& (3 : Int32))), .val (.int (512 : Int32)), .val (.int x68), .val (.int y70), .val (.int z72), .val (.int c74), .val (.int c76), .val (.int c78), .val (.int t80), .val (.int r83), .val (.ref b85), .val (.long (((pl93.toInt64) <<< ((32 : Int32) &&& 0x3f).toInt64) ||| (rk93.toInt64))), .second, .unset, .unset, .unset, .unset] [(.int c74), (.int r83)])) t := by
            intro t kt
            by_cases j208_95 : r83 < c74
            · show Steps p.tables e below (T93.setTop (mkF m 208 #[.val (.int p1), .val (.int p2), .val (.int p3), .val (.int p4), .val (.int p5), .val (.int p6), .val (.int (p1 &&& (3 : Int32))), .val (.int (512 : Int32)), .val (.int x68), .val (.int y70), .val (.int z72), .val (.int c74), .val (.int c76), .val (.int c78), .val (.int t80), .val (.int r83), .val (.ref b85), .val (.long (((pl93.toInt64) <<< ((32 : Int32) &&& 0x3f).toInt64) ||| (rk93.toInt64))), .second, .unset, .unset, .unset, .unset] [(.int c74), (.int r83)])) _
              refine XS.icmpNo X93.here hx rfl (hb hby at_208) rfl (tlt j208_95).2.1 ?_
              refine XS.iload X93.here hx rfl (hb hby at_211) rfl ?_
              refine XS.istore X93.here hx rfl (hb hby at_213) rfl (l' := #[.val (.int p1), .val (.int p2), .val (.int p3), .val (.int p4), .val (.int p5), .val (.int p6), .val (.int (p1 &&& (3 : Int32))), .val (.int (512 : Int32)), .val (.int x68), .val (.int y70), .val (.int z72), .val (.int c74), .val (.int c76), .val (.int c78), .val (.int t80), .val (.int r83), .val (.ref b85), .val (.long (((pl93.toInt64) <<< ((32 : Int32) &&& 0x3f).toInt64) ||| (rk93.toInt64))), .second, .val (.int x68), .unset, .unset, .unset]) rfl ?_
              show Steps p.tables e below (T93.setTop (mkF m 215 #[.val (.int p1), .val (.int p2), .val (.int p3), .val (.int p4), .val (.int p5), .val (.int p6), .val (.int (p1 &&& (3 : Int32))), .val (.int (512 : Int32)), .val (.int x68), .val (.int y70), .val (.int z72), .val (.int c74), .val (.int c76), .val (.int c78), .val (.int t80), .val (.int r83), .val (.ref b85), .val (.long (((pl93.toInt64) <<< ((32 : Int32) &&& 0x3f).toInt64) ||| (rk93.toInt64))), .second, .val (.int x68), .unset, .unset, .unset] [])) _
              refine XS.iload X93.here hx rfl (hb hby at_215) rfl ?_
              refine XS.istore X93.here hx rfl (hb hby at_217) rfl (l' := #[.val (.int p1), .val (.int p2), .val (.int p3), .val (.int p4), .val (.int p5), .val (.int p6), .val (.int (p1 &&& (3 : Int32))), .val (.int (512 : Int32)), .val (.int x68), .val (.int y70), .val (.int z72), .val (.int c74), .val (.int c76), .val (.int c78), .val (.int t80), .val (.int r83), .val (.ref b85), .val (.long (((pl93.toInt64) <<< ((32 : Int32) &&& 0x3f).toInt64) ||| (rk93.toInt64))), .second, .val (.int x68), .val (.int r83), .unset, .unset]) rfl ?_
              refine XS.goto X93.here hx rfl (pc0 := 219) (pc' := 260) rfl (hb hby at_219) (by decide) (by decide) ?_
              obtain rfl : v97 = x68 := by rw [hv97, if_pos j208_95]
              obtain rfl : v98 = r83 := by rw [hv98, if_pos j208_95]
              exact kt
            · show Steps p.tables e below (T93.setTop (mkF m 208 #[.val (.int p1), .val (.int p2), .val (.int p3), .val (.int p4), .val (.int p5), .val (.int p6), .val (.int (p1 &&& (3 : Int32))), .val (.int (512 : Int32)), .val (.int x68), .val (.int y70), .val (.int z72), .val (.int c74), .val (.int c76), .val (.int c78), .val (.int t80), .val (.int r83), .val (.ref b85), .val (.long (((pl93.toInt64) <<< ((32 : Int32) &&& 0x3f).toInt64) ||| (rk93.toInt64))), .second, .unset, .unset, .unset, .unset] [(.int c74), (.int r83)])) _
              refine XS.icmpYes X93.here hx rfl (pc0 := 208) (pc' := 222) rfl (hb hby at_208) rfl (flt j208_95).2.1 (by decide) (by decide) ?_
              refine XS.iload X93.here hx rfl (hb hby at_222) rfl ?_
              refine XS.iload X93.here hx rfl (hb hby at_224) rfl ?_
              show Steps p.tables e below (T93.setTop (mkF m 226 #[.val (.int p1), .val (.int p2), .val (.int p3), .val (.int p4), .val (.int p5), .val (.int p6), .val (.int (p1 &&& (3 : Int32))), .val (.int (512 : Int32)), .val (.int x68), .val (.int y70), .val (.int z72), .val (.int c74), .val (.int c76), .val (.int c78), .val (.int t80), .val (.int r83), .val (.ref b85), .val (.long (((pl93.toInt64) <<< ((32 : Int32) &&& 0x3f).toInt64) ||| (rk93.toInt64))), .second, .unset, .unset, .unset, .unset] [(.int c74), (.int r83)])) _
              refine XS.iload X93.here hx rfl (hb hby at_226) rfl ?_
              refine XS.iadd X93.here hx rfl (hb hby at_228) rfl ?_
              by_cases j229_96 : r83 < (c74 + c76)
              · show Steps p.tables e below (T93.setTop (mkF m 229 #[.val (.int p1), .val (.int p2), .val (.int p3), .val (.int p4), .val (.int p5), .val (.int p6), .val (.int (p1 &&& (3 : Int32))), .val (.int (512 : Int32)), .val (.int x68), .val (.int y70), .val (.int z72), .val (.int c74), .val (.int c76), .val (.int c78), .val (.int t80), .val (.int r83), .val (.ref b85), .val (.long (((pl93.toInt64) <<< ((32 : Int32) &&& 0x3f).toInt64) ||| (rk93.toInt64))), .second, .unset, .unset, .unset, .unset] [(.int (c74 + c76)), (.int r83)])) _
                refine XS.icmpNo X93.here hx rfl (hb hby at_229) rfl (tlt j229_96).2.1 ?_
                refine XS.iload X93.here hx rfl (hb hby at_232) rfl ?_
                refine XS.istore X93.here hx rfl (hb hby at_234) rfl (l' := #[.val (.int p1), .val (.int p2), .val (.int p3), .val (.int p4), .val (.int p5), .val (.int p6), .val (.int (p1 &&& (3 : Int32))), .val (.int (512 : Int32)), .val (.int x68), .val (.int y70), .val (.int z72), .val (.int c74), .val (.int c76), .val (.int c78), .val (.int t80), .val (.int r83), .val (.ref b85), .val (.long (((pl93.toInt64) <<< ((32 : Int32) &&& 0x3f).toInt64) ||| (rk93.toInt64))), .second, .val (.int y70), .unset, .unset, .unset]) rfl ?_
                show Steps p.tables e below (T93.setTop (mkF m 236 #[.val (.int p1), .val (.int p2), .val (.int p3), .val (.int p4), .val (.int p5), .val (.int p6), .val (.int (p1 &&& (3 : Int32))), .val (.int (512 : Int32)), .val (.int x68), .val (.int y70), .val (.int z72), .val (.int c74), .val (.int c76), .val (.int c78), .val (.int t80), .val (.int r83), .val (.ref b85), .val (.long (((pl93.toInt64) <<< ((32 : Int32) &&& 0x3f).toInt64) ||| (rk93.toInt64))), .second, .val (.int y70), .unset, .unset, .unset] [])) _
                refine XS.iload X93.here hx rfl (hb hby at_236) rfl ?_
                refine XS.iload X93.here hx rfl (hb hby at_238) rfl ?_
                refine XS.isub X93.here hx rfl (hb hby at_240) rfl ?_
                show Steps p.tables e below (T93.setTop (mkF m 241 #[.val (.int p1), .val (.int p2), .val (.int p3), .val (.int p4), .val (.int p5), .val (.int p6), .val (.int (p1 &&& (3 : Int32))), .val (.int (512 : Int32)), .val (.int x68), .val (.int y70), .val (.int z72), .val (.int c74), .val (.int c76), .val (.int c78), .val (.int t80), .val (.int r83), .val (.ref b85), .val (.long (((pl93.toInt64) <<< ((32 : Int32) &&& 0x3f).toInt64) ||| (rk93.toInt64))), .second, .val (.int y70), .unset, .unset, .unset] [(.int (r83 - c74))])) _
                refine XS.istore X93.here hx rfl (hb hby at_241) rfl (l' := #[.val (.int p1), .val (.int p2), .val (.int p3), .val (.int p4), .val (.int p5), .val (.int p6), .val (.int (p1 &&& (3 : Int32))), .val (.int (512 : Int32)), .val (.int x68), .val (.int y70), .val (.int z72), .val (.int c74), .val (.int c76), .val (.int c78), .val (.int t80), .val (.int r83), .val (.ref b85), .val (.long (((pl93.toInt64) <<< ((32 : Int32) &&& 0x3f).toInt64) ||| (rk93.toInt64))), .second, .val (.int y70), .val (.int (r83 - c74)), .unset, .unset]) rfl ?_
                refine XS.goto X93.here hx rfl (pc0 := 243) (pc' := 260) rfl (hb hby at_243) (by decide) (by decide) ?_
                obtain rfl : v97 = y70 := by rw [hv97, if_neg j208_95, if_pos j229_96]
                obtain rfl : v98 = (r83 - c74) := by rw [hv98, if_neg j208_95, if_pos j229_96]
                exact kt
              · show Steps p.tables e below (T93.setTop (mkF m 229 #[.val (.int p1), .val (.int p2), .val (.int p3), .val (.int p4), .val (.int p5), .val (.int p6), .val (.int (p1 &&& (3 : Int32))), .val (.int (512 : Int32)), .val (.int x68), .val (.int y70), .val (.int z72), .val (.int c74), .val (.int c76), .val (.int c78), .val (.int t80), .val (.int r83), .val (.ref b85), .val (.long (((pl93.toInt64) <<< ((32 : Int32) &&& 0x3f).toInt64) ||| (rk93.toInt64))), .second, .unset, .unset, .unset, .unset] [(.int (c74 + c76)), (.int r83)])) _
                refine XS.icmpYes X93.here hx rfl (pc0 := 229) (pc' := 246) rfl (hb hby at_229) rfl (flt j229_96).2.1 (by decide) (by decide) ?_
                refine XS.iload X93.here hx rfl (hb hby at_246) rfl ?_
                refine XS.istore X93.here hx rfl (hb hby at_248) rfl (l' := #[.val (.int p1), .val (.int p2), .val (.int p3), .val (.int p4), .val (.int p5), .val (.int p6), .val (.int (p1 &&& (3 : Int32))), .val (.int (512 : Int32)), .val (.int x68), .val (.int y70), .val (.int z72), .val (.int c74), .val (.int c76), .val (.int c78), .val (.int t80), .val (.int r83), .val (.ref b85), .val (.long (((pl93.toInt64) <<< ((32 : Int32) &&& 0x3f).toInt64) ||| (rk93.toInt64))), .second, .val (.int z72), .unset, .unset, .unset]) rfl ?_
                show Steps p.tables e below (T93.setTop (mkF m 250 #[.val (.int p1), .val (.int p2), .val (.int p3), .val (.int p4), .val (.int p5), .val (.int p6), .val (.int (p1 &&& (3 : Int32))), .val (.int (512 : Int32)), .val (.int x68), .val (.int y70), .val (.int z72), .val (.int c74), .val (.int c76), .val (.int c78), .val (.int t80), .val (.int r83), .val (.ref b85), .val (.long (((pl93.toInt64) <<< ((32 : Int32) &&& 0x3f).toInt64) ||| (rk93.toInt64))), .second, .val (.int z72), .unset, .unset, .unset] [])) _
                refine XS.iload X93.here hx rfl (hb hby at_250) rfl ?_
                refine XS.iload X93.here hx rfl (hb hby at_252) rfl ?_
                refine XS.isub X93.here hx rfl (hb hby at_254) rfl ?_
                show Steps p.tables e below (T93.setTop (mkF m 255 #[.val (.int p1), .val (.int p2), .val (.int p3), .val (.int p4), .val (.int p5), .val (.int p6), .val (.int (p1 &&& (3 : Int32))), .val (.int (512 : Int32)), .val (.int x68), .val (.int y70), .val (.int z72), .val (.int c74), .val (.int c76), .val (.int c78), .val (.int t80), .val (.int r83), .val (.ref b85), .val (.long (((pl93.toInt64) <<< ((32 : Int32) &&& 0x3f).toInt64) ||| (rk93.toInt64))), .second, .val (.int z72), .unset, .unset, .unset] [(.int (r83 - c74))])) _
                refine XS.iload X93.here hx rfl (hb hby at_255) rfl ?_
                refine XS.isub X93.here hx rfl (hb hby at_257) rfl ?_
                refine XS.istore X93.here hx rfl (hb hby at_258) rfl (l' := #[.val (.int p1), .val (.int p2), .val (.int p3), .val (.int p4), .val (.int p5), .val (.int p6), .val (.int (p1 &&& (3 : Int32))), .val (.int (512 : Int32)), .val (.int x68), .val (.int y70), .val (.int z72), .val (.int c74), .val (.int c76), .val (.int c78), .val (.int t80), .val (.int r83), .val (.ref b85), .val (.long (((pl93.toInt64) <<< ((32 : Int32) &&& 0x3f).toInt64) ||| (rk93.toInt64))), .second, .val (.int z72), .val (.int ((r83 - c74) - c76)), .unset, .unset]) rfl ?_
                obtain rfl : v97 = z72 := by rw [hv97, if_neg j208_95, if_neg j229_96]
                obtain rfl : v98 = ((r83 - c74) - c76) := by rw [hv98, if_neg j208_95, if_neg j229_96]
                exact kt
          obtain ⟨fp, fw⟩ := own_final x68 y70 z72 c74 c76 c78 r83 pl93 rk93 v97 v98 M93 Rc74 Rc76 Rc78 Ry70.1 Rz72.1 Rr83.1 (by omega) I93 hv97 hv98
          obtain ⟨fs, hr, hrun, hended, hW, hsame⟩ := X93.leave (v := some (.int (1 : Int32))) (fun h => by rw [Bd.returns] at h; cases h)
          refine ⟨_, _, pre0 _ (c1 _ (c34 _ (c67 _ (c69 _ (c71 _ (c73 _ (c75 _ (c77 _ (c79 _ (c81 _ (c82 _ (c84 _ (c94 _ (c99 _ (?_))))))))))))))), hrun, hended, _, _, rfl, ?_, ⟨_, rfl⟩, hW, hsame.mono (by decide) (by decide)⟩
          · show Steps p.tables e below (T93.setTop (mkF m 260 #[.val (.int p1), .val (.int p2), .val (.int p3), .val (.int p4), .val (.int p5), .val (.int p6), .val (.int (p1 &&& (3 : Int32))), .val (.int (512 : Int32)), .val (.int x68), .val (.int y70), .val (.int z72), .val (.int c74), .val (.int c76), .val (.int c78), .val (.int t80), .val (.int r83), .val (.ref b85), .val (.long (((pl93.toInt64) <<< ((32 : Int32) &&& 0x3f).toInt64) ||| (rk93.toInt64))), .second, .val (.int v97), .val (.int v98), .unset, .unset] [])) _
            refine XS.iload X93.here hx rfl (hb hby at_260) rfl ?_
            refine XS.i2l X93.here hx rfl (hb hby at_262) rfl ?_
            refine XS.bipush X93.here hx rfl (hb hby at_263) ?_
            show Steps p.tables e below (T93.setTop (mkF m 265 #[.val (.int p1), .val (.int p2), .val (.int p3), .val (.int p4), .val (.int p5), .val (.int p6), .val (.int (p1 &&& (3 : Int32))), .val (.int (512 : Int32)), .val (.int x68), .val (.int y70), .val (.int z72), .val (.int c74), .val (.int c76), .val (.int c78), .val (.int t80), .val (.int r83), .val (.ref b85), .val (.long (((pl93.toInt64) <<< ((32 : Int32) &&& 0x3f).toInt64) ||| (rk93.toInt64))), .second, .val (.int v97), .val (.int v98), .unset, .unset] [(.int (32 : Int32)), (.long (v97.toInt64))])) _
            refine XS.lshl X93.here hx rfl (hb hby at_265) rfl ?_
            refine XS.iload X93.here hx rfl (hb hby at_266) rfl ?_
            refine XS.i2l X93.here hx rfl (hb hby at_268) rfl ?_
            show Steps p.tables e below (T93.setTop (mkF m 269 #[.val (.int p1), .val (.int p2), .val (.int p3), .val (.int p4), .val (.int p5), .val (.int p6), .val (.int (p1 &&& (3 : Int32))), .val (.int (512 : Int32)), .val (.int x68), .val (.int y70), .val (.int z72), .val (.int c74), .val (.int c76), .val (.int c78), .val (.int t80), .val (.int r83), .val (.ref b85), .val (.long (((pl93.toInt64) <<< ((32 : Int32) &&& 0x3f).toInt64) ||| (rk93.toInt64))), .second, .val (.int v97), .val (.int v98), .unset, .unset] [(.long (v98.toInt64)), (.long ((v97.toInt64) <<< ((32 : Int32) &&& 0x3f).toInt64))])) _
            refine XS.lor X93.here hx rfl (hb hby at_269) rfl ?_
            refine XS.lstore X93.here hx rfl (hb hby at_270) rfl (l' := #[.val (.int p1), .val (.int p2), .val (.int p3), .val (.int p4), .val (.int p5), .val (.int p6), .val (.int (p1 &&& (3 : Int32))), .val (.int (512 : Int32)), .val (.int x68), .val (.int y70), .val (.int z72), .val (.int c74), .val (.int c76), .val (.int c78), .val (.int t80), .val (.int r83), .val (.ref b85), .val (.long (((pl93.toInt64) <<< ((32 : Int32) &&& 0x3f).toInt64) ||| (rk93.toInt64))), .second, .val (.int v97), .val (.int v98), .val (.long (((v97.toInt64) <<< ((32 : Int32) &&& 0x3f).toInt64) ||| (v98.toInt64))), .second]) rfl ?_
            refine XS.lload X93.here hx rfl (hb hby at_272) rfl ?_
            show Steps p.tables e below (T93.setTop (mkF m 274 #[.val (.int p1), .val (.int p2), .val (.int p3), .val (.int p4), .val (.int p5), .val (.int p6), .val (.int (p1 &&& (3 : Int32))), .val (.int (512 : Int32)), .val (.int x68), .val (.int y70), .val (.int z72), .val (.int c74), .val (.int c76), .val (.int c78), .val (.int t80), .val (.int r83), .val (.ref b85), .val (.long (((pl93.toInt64) <<< ((32 : Int32) &&& 0x3f).toInt64) ||| (rk93.toInt64))), .second, .val (.int v97), .val (.int v98), .val (.long (((v97.toInt64) <<< ((32 : Int32) &&& 0x3f).toInt64) ||| (v98.toInt64))), .second] [(.long (((pl93.toInt64) <<< ((32 : Int32) &&& 0x3f).toInt64) ||| (rk93.toInt64)))])) _
            refine XS.lload X93.here hx rfl (hb hby at_274) rfl ?_
            refine XS.lcmp X93.here hx rfl (hb hby at_276) rfl ?_
            refine XS.ifNo X93.here hx rfl (hb hby at_277) rfl ((if0 _ _).trans (teq (by rw [fp, fw]; simp [lcmpW] : (lcmpW (((pl93.toInt64) <<< ((32 : Int32) &&& 0x3f).toInt64) ||| (rk93.toInt64)) (((v97.toInt64) <<< ((32 : Int32) &&& 0x3f).toInt64) ||| (v98.toInt64))) = (0 : Int32))).2) ?_
            show Steps p.tables e below (T93.setTop (mkF m 280 #[.val (.int p1), .val (.int p2), .val (.int p3), .val (.int p4), .val (.int p5), .val (.int p6), .val (.int (p1 &&& (3 : Int32))), .val (.int (512 : Int32)), .val (.int x68), .val (.int y70), .val (.int z72), .val (.int c74), .val (.int c76), .val (.int c78), .val (.int t80), .val (.int r83), .val (.ref b85), .val (.long (((pl93.toInt64) <<< ((32 : Int32) &&& 0x3f).toInt64) ||| (rk93.toInt64))), .second, .val (.int v97), .val (.int v98), .val (.long (((v97.toInt64) <<< ((32 : Int32) &&& 0x3f).toInt64) ||| (v98.toInt64))), .second] [])) _
            refine XS.iconst X93.here hx rfl (hb hby at_280) ?_
            refine XS.goto X93.here hx rfl (pc0 := 281) (pc' := 285) rfl (hb hby at_281) (by decide) (by decide) ?_
            show Steps p.tables e below (T93.setTop (mkF m 285 #[.val (.int p1), .val (.int p2), .val (.int p3), .val (.int p4), .val (.int p5), .val (.int p6), .val (.int (p1 &&& (3 : Int32))), .val (.int (512 : Int32)), .val (.int x68), .val (.int y70), .val (.int z72), .val (.int c74), .val (.int c76), .val (.int c78), .val (.int t80), .val (.int r83), .val (.ref b85), .val (.long (((pl93.toInt64) <<< ((32 : Int32) &&& 0x3f).toInt64) ||| (rk93.toInt64))), .second, .val (.int v97), .val (.int v98), .val (.long (((v97.toInt64) <<< ((32 : Int32) &&& 0x3f).toInt64) ||| (v98.toInt64))), .second] [(.int (1 : Int32))])) _
            exact retN X93 hx (t := .boolean) Bd.returns (by simp) (hb hby at_285) hr
          · show Qrm0 Z p1 p2 p3 p4 p5 p6 h0 n0 _ T93.heap _
            rw [e93]
            exact ⟨rfl, N93⟩
      · obtain ⟨x100, hx100⟩ : ∃ z, z = ((p2 &&& (2147483647 : Int32)) % (698 : Int32)) := ⟨_, rfl⟩
        have c101 : ∀ t, Steps p.tables e below (s₁.setTop (mkF m 62 #[.val (.int p1), .val (.int p2), .val (.int p3), .val (.int p4), .val (.int p5), .val (.int p6), .val (.int (p1 &&& (3 : Int32))), .val (.int (700 : Int32)), .val (.int x100), .unset, .unset, .unset, .unset, .unset, .unset, .unset, .unset, .unset, .unset, .unset, .unset, .unset, .unset] [])) t → Steps p.tables e below (s₁.setTop (mkF m 35 #[.val (.int p1), .val (.int p2), .val (.int p3), .val (.int p4), .val (.int p5), .val (.int p6), .val (.int (p1 &&& (3 : Int32))), .unset, .unset, .unset, .unset, .unset, .unset, .unset, .unset, .unset, .unset, .unset, .unset, .unset, .unset, .unset, .unset] [(.int (2 : Int32)), (.int (p1 &&& (3 : Int32)))])) t := by
          intro t kt
          subst hx100
          show Steps p.tables e below (s₁.setTop (mkF m 35 #[.val (.int p1), .val (.int p2), .val (.int p3), .val (.int p4), .val (.int p5), .val (.int p6), .val (.int (p1 &&& (3 : Int32))), .unset, .unset, .unset, .unset, .unset, .unset, .unset, .unset, .unset, .unset, .unset, .unset, .unset, .unset, .unset, .unset] [(.int (2 : Int32)), (.int (p1 &&& (3 : Int32)))])) _
          refine XS.icmpYes X0.here hx rfl (pc0 := 35) (pc' := 46) rfl (hb hby at_35) rfl (feq hc35).2 (by decide) (by decide) ?_
          refine XS.sipush X0.here hx rfl (hb hby at_46) ?_
          refine XS.istore X0.here hx rfl (hb hby at_49) rfl (l' := #[.val (.int p1), .val (.int p2), .val (.int p3), .val (.int p4), .val (.int p5), .val (.int p6), .val (.int (p1 &&& (3 : Int32))), .val (.int (700 : Int32)), .unset, .unset, .unset, .unset, .unset, .unset, .unset, .unset, .unset, .unset, .unset, .unset, .unset, .unset, .unset]) rfl ?_
          show Steps p.tables e below (s₁.setTop (mkF m 51 #[.val (.int p1), .val (.int p2), .val (.int p3), .val (.int p4), .val (.int p5), .val (.int p6), .val (.int (p1 &&& (3 : Int32))), .val (.int (700 : Int32)), .unset, .unset, .unset, .unset, .unset, .unset, .unset, .unset, .unset, .unset, .unset, .unset, .unset, .unset, .unset] [])) _
          refine XS.iloadN X0.here hx rfl (hb hby at_51) rfl ?_
          refine X0.ldcInt hx hown (mvT hZ (hw _ (List.mem_of_getElem? (i := 0) rfl))) (g := (mkF m 52 #[.val (.int p1), .val (.int p2), .val (.int p3), .val (.int p4), .val (.int p5), .val (.int p6), .val (.int (p1 &&& (3 : Int32))), .val (.int (700 : Int32)), .unset, .unset, .unset, .unset, .unset, .unset, .unset, .unset, .unset, .unset, .unset, .unset, .unset, .unset, .unset] [(.int p2)])) rfl (hb hby at_52) _ ?_
          refine XS.iand X0.here hx rfl (hb hby at_54) rfl ?_
          show Steps p.tables e below (s₁.setTop (mkF m 55 #[.val (.int p1), .val (.int p2), .val (.int p3), .val (.int p4), .val (.int p5), .val (.int p6), .val (.int (p1 &&& (3 : Int32))), .val (.int (700 : Int32)), .unset, .unset, .unset, .unset, .unset, .unset, .unset, .unset, .unset, .unset, .unset, .unset, .unset, .unset, .unset] [(.int (p2 &&& (2147483647 : Int32)))])) _
          refine XS.iload X0.here hx rfl (hb hby at_55) rfl ?_
          refine XS.iconst X0.here hx rfl (hb hby at_57) ?_
          refine XS.isub X0.here hx rfl (hb hby at_58) rfl ?_
          show Steps p.tables e below (s₁.setTop (mkF m 59 #[.val (.int p1), .val (.int p2), .val (.int p3), .val (.int p4), .val (.int p5), .val (.int p6), .val (.int (p1 &&& (3 : Int32))), .val (.int (700 : Int32)), .unset, .unset, .unset, .unset, .unset, .unset, .unset, .unset, .unset, .unset, .unset, .unset, .unset, .unset, .unset] [(.int (698 : Int32)), (.int (p2 &&& (2147483647 : Int32)))])) _
          refine Jvm.RoadKit.iremM (g := (mkF m 59 #[.val (.int p1), .val (.int p2), .val (.int p3), .val (.int p4), .val (.int p5), .val (.int p6), .val (.int (p1 &&& (3 : Int32))), .val (.int (700 : Int32)), .unset, .unset, .unset, .unset, .unset, .unset, .unset, .unset, .unset, .unset, .unset, .unset, .unset, .unset, .unset] [(.int (698 : Int32)), (.int (p2 &&& (2147483647 : Int32)))])) X0 hx rfl (hb hby at_59) rfl (by decide) ?_
          refine XS.istore X0.here hx rfl (hb hby at_60) rfl (l' := #[.val (.int p1), .val (.int p2), .val (.int p3), .val (.int p4), .val (.int p5), .val (.int p6), .val (.int (p1 &&& (3 : Int32))), .val (.int (700 : Int32)), .val (.int ((p2 &&& (2147483647 : Int32)) % (698 : Int32))), .unset, .unset, .unset, .unset, .unset, .unset, .unset, .unset, .unset, .unset, .unset, .unset, .unset, .unset]) rfl ?_
          exact kt
        have Rx100 : 0 ≤ x100.toInt ∧ x100.toInt < 698 := by rw [hx100]; exact own_mod _ _ (by decide)
        have Sx100 : ((698 : Int32) - x100).toInt = 698 - x100.toInt := Jvm.Kit.i32_sub (by show -2 ^ 31 ≤ (698 : Int) - _; omega) (by show (698 : Int) - _ < 2 ^ 31; omega)
        obtain ⟨y102, hy102⟩ : ∃ z, z = ((x100 + (1 : Int32)) + ((p3 &&& (2147483647 : Int32)) % ((698 : Int32) - x100))) := ⟨_, rfl⟩
        have c103 : ∀ t, Steps p.tables e below (s₁.setTop (mkF m 81 #[.val (.int p1), .val (.int p2), .val (.int p3), .val (.int p4), .val (.int p5), .val (.int p6), .val (.int (p1 &&& (3 : Int32))), .val (.int (700 : Int32)), .val (.int x100), .val (.int y102), .unset, .unset, .unset, .unset, .unset, .unset, .unset, .unset, .unset, .unset, .unset, .unset, .unset] [])) t → Steps p.tables e below (s₁.setTop (mkF m 62 #[.val (.int p1), .val (.int p2), .val (.int p3), .val (.int p4), .val (.int p5), .val (.int p6), .val (.int (p1 &&& (3 : Int32))), .val (.int (700 : Int32)), .val (.int x100), .unset, .unset, .unset, .unset, .unset, .unset, .unset, .unset, .unset, .unset, .unset, .unset, .unset, .unset] [])) t := by
          intro t kt
          subst hy102
          show Steps p.tables e below (s₁.setTop (mkF m 62 #[.val (.int p1), .val (.int p2), .val (.int p3), .val (.int p4), .val (.int p5), .val (.int p6), .val (.int (p1 &&& (3 : Int32))), .val (.int (700 : Int32)), .val (.int x100), .unset, .unset, .unset, .unset, .unset, .unset, .unset, .unset, .unset, .unset, .unset, .unset, .unset, .unset] [])) _
          refine XS.iload X0.here hx rfl (hb hby at_62) rfl ?_
          refine XS.iconst X0.here hx rfl (hb hby at_64) ?_
          refine XS.iadd X0.here hx rfl (hb hby at_65) rfl ?_
          show Steps p.tables e below (s₁.setTop (mkF m 66 #[.val (.int p1), .val (.int p2), .val (.int p3), .val (.int p4), .val (.int p5), .val (.int p6), .val (.int (p1 &&& (3 : Int32))), .val (.int (700 : Int32)), .val (.int x100), .unset, .unset, .unset, .unset, .unset, .unset, .unset, .unset, .unset, .unset, .unset, .unset, .unset, .unset] [(.int (x100 + (1 : Int32)))])) _
          refine XS.iloadN X0.here hx rfl (hb hby at_66) rfl ?_
          refine X0.ldcInt hx hown (mvT hZ (hw _ (List.mem_of_getElem? (i := 0) rfl))) (g := (mkF m 67 #[.val (.int p1), .val (.int p2), .val (.int p3), .val (.int p4), .val (.int p5), .val (.int p6), .val (.int (p1 &&& (3 : Int32))), .val (.int (700 : Int32)), .val (.int x100), .unset, .unset, .unset, .unset, .unset, .unset, .unset, .unset, .unset, .unset, .unset, .unset, .unset, .unset] [(.int p3), (.int (x100 + (1 : Int32)))])) rfl (hb hby at_67) _ ?_
          refine XS.iand X0.here hx rfl (hb hby at_69) rfl ?_
          show Steps p.tables e below (s₁.setTop (mkF m 70 #[.val (.int p1), .val (.int p2), .val (.int p3), .val (.int p4), .val (.int p5), .val (.int p6), .val (.int (p1 &&& (3 : Int32))), .val (.int (700 : Int32)), .val (.int x100), .unset, .unset, .unset, .unset, .unset, .unset, .unset, .unset, .unset, .unset, .unset, .unset, .unset, .unset] [(.int (p3 &&& (2147483647 : Int32))), (.int (x100 + (1 : Int32)))])) _
          refine XS.iload X0.here hx rfl (hb hby at_70) rfl ?_
          refine XS.iconst X0.here hx rfl (hb hby at_72) ?_
          refine XS.isub X0.here hx rfl (hb hby at_73) rfl ?_
          show Steps p.tables e below (s₁.setTop (mkF m 74 #[.val (.int p1), .val (.int p2), .val (.int p3), .val (.int p4), .val (.int p5), .val (.int p6), .val (.int (p1 &&& (3 : Int32))), .val (.int (700 : Int32)), .val (.int x100), .unset, .unset, .unset, .unset, .unset, .unset, .unset, .unset, .unset, .unset, .unset, .unset, .unset, .unset] [(.int (698 : Int32)), (.int (p3 &&& (2147483647 : Int32))), (.int (x100 + (1 : Int32)))])) _
          refine XS.iload X0.here hx rfl (hb hby at_74) rfl ?_
          refine XS.isub X0.here hx rfl (hb hby at_76) rfl ?_
          refine Jvm.RoadKit.iremM (g := (mkF m 77 #[.val (.int p1), .val (.int p2), .val (.int p3), .val (.int p4), .val (.int p5), .val (.int p6), .val (.int (p1 &&& (3 : Int32))), .val (.int (700 : Int32)), .val (.int x100), .unset, .unset, .unset, .unset, .unset, .unset, .unset, .unset, .unset, .unset, .unset, .unset, .unset, .unset] [(.int ((698 : Int32) - x100)), (.int (p3 &&& (2147483647 : Int32))), (.int (x100 + (1 : Int32)))])) X0 hx rfl (hb hby at_77) rfl (own_nz (by omega)) ?_
          show Steps p.tables e below (s₁.setTop (mkF m 78 #[.val (.int p1), .val (.int p2), .val (.int p3), .val (.int p4), .val (.int p5), .val (.int p6), .val (.int (p1 &&& (3 : Int32))), .val (.int (700 : Int32)), .val (.int x100), .unset, .unset, .unset, .unset, .unset, .unset, .unset, .unset, .unset, .unset, .unset, .unset, .unset, .unset] [(.int ((p3 &&& (2147483647 : Int32)) % ((698 : Int32) - x100))), (.int (x100 + (1 : Int32)))])) _
          refine XS.iadd X0.here hx rfl (hb hby at_78) rfl ?_
          refine XS.istore X0.here hx rfl (hb hby at_79) rfl (l' := #[.val (.int p1), .val (.int p2), .val (.int p3), .val (.int p4), .val (.int p5), .val (.int p6), .val (.int (p1 &&& (3 : Int32))), .val (.int (700 : Int32)), .val (.int x100), .val (.int ((x100 + (1 : Int32)) + ((p3 &&& (2147483647 : Int32)) % ((698 : Int32) - x100)))), .unset, .unset, .unset, .unset, .unset, .unset, .unset, .unset, .unset, .unset, .unset, .unset, .unset]) rfl ?_
          exact kt
        have My102 := own_mod p3 ((698 : Int32) - x100) (by omega)
        have Ry102 : x100.toInt < y102.toInt ∧ y102.toInt < 699 := by
          have o1 : (x100 + (1 : Int32)).toInt = x100.toInt + 1 := Jvm.Kit.i32_add (by show -2 ^ 31 ≤ x100.toInt + 1; omega) (by show x100.toInt + 1 < 2 ^ 31; omega)
          rw [hy102, Jvm.Kit.i32_add (by omega) (by omega), o1]; omega
        have Sy102 : ((699 : Int32) - y102).toInt = 699 - y102.toInt := Jvm.Kit.i32_sub (by show -2 ^ 31 ≤ (699 : Int) - _; omega) (by show (699 : Int) - _ < 2 ^ 31; omega)
        obtain ⟨z104, hz104⟩ : ∃ z, z = ((y102 + (1 : Int32)) + ((p4 &&& (2147483647 : Int32)) % ((699 : Int32) - y102))) := ⟨_, rfl⟩
        have c105 : ∀ t, Steps p.tables e below (s₁.setTop (mkF m 100 #[.val (.int p1), .val (.int p2), .val (.int p3), .val (.int p4), .val (.int p5), .val (.int p6), .val (.int (p1 &&& (3 : Int32))), .val (.int (700 : Int32)), .val (.int x100), .val (.int y102), .val (.int z104), .unset, .unset, .unset, .unset, .unset, .unset, .unset, .unset, .unset, .unset, .unset, .unset] [])) t → Steps p.tables e below (s₁.setTop (mkF m 81 #[.val (.int p1), .val (.int p2), .val (.int p3), .val (.int p4), .val (.int p5), .val (.int p6), .val (.int (p1 &&& (3 : Int32))), .val (.int (700 : Int32)), .val (.int x100), .val (.int y102), .unset, .unset, .unset, .unset, .unset, .unset, .unset, .unset, .unset, .unset, .unset, .unset, .unset] [])) t := by
          intro t kt
          subst hz104
          show Steps p.tables e below (s₁.setTop (mkF m 81 #[.val (.int p1), .val (.int p2), .val (.int p3), .val (.int p4), .val (.int p5), .val (.int p6), .val (.int (p1 &&& (3 : Int32))), .val (.int (700 : Int32)), .val (.int x100), .val (.int y102), .unset, .unset, .unset, .unset, .unset, .unset, .unset, .unset, .unset, .unset, .unset, .unset, .unset] [])) _
          refine XS.iload X0.here hx rfl (hb hby at_81) rfl ?_
          refine XS.iconst X0.here hx rfl (hb hby at_83) ?_
          refine XS.iadd X0.here hx rfl (hb hby at_84) rfl ?_
          show Steps p.tables e below (s₁.setTop (mkF m 85 #[.val (.int p1), .val (.int p2), .val (.int p3), .val (.int p4), .val (.int p5), .val (.int p6), .val (.int (p1 &&& (3 : Int32))), .val (.int (700 : Int32)), .val (.int x100), .val (.int y102), .unset, .unset, .unset, .unset, .unset, .unset, .unset, .unset, .unset, .unset, .unset, .unset, .unset] [(.int (y102 + (1 : Int32)))])) _
          refine XS.iloadN X0.here hx rfl (hb hby at_85) rfl ?_
          refine X0.ldcInt hx hown (mvT hZ (hw _ (List.mem_of_getElem? (i := 0) rfl))) (g := (mkF m 86 #[.val (.int p1), .val (.int p2), .val (.int p3), .val (.int p4), .val (.int p5), .val (.int p6), .val (.int (p1 &&& (3 : Int32))), .val (.int (700 : Int32)), .val (.int x100), .val (.int y102), .unset, .unset, .unset, .unset, .unset, .unset, .unset, .unset, .unset, .unset, .unset, .unset, .unset] [(.int p4), (.int (y102 + (1 : Int32)))])) rfl (hb hby at_86) _ ?_
          refine XS.iand X0.here hx rfl (hb hby at_88) rfl ?_
          show Steps p.tables e below (s₁.setTop (mkF m 89 #[.val (.int p1), .val (.int p2), .val (.int p3), .val (.int p4), .val (.int p5), .val (.int p6), .val (.int (p1 &&& (3 : Int32))), .val (.int (700 : Int32)), .val (.int x100), .val (.int y102), .unset, .unset, .unset, .unset, .unset, .unset, .unset, .unset, .unset, .unset, .unset, .unset, .unset] [(.int (p4 &&& (2147483647 : Int32))), (.int (y102 + (1 : Int32)))])) _
          refine XS.iload X0.here hx rfl (hb hby at_89) rfl ?_
          refine XS.iconst X0.here hx rfl (hb hby at_91) ?_
          refine XS.isub X0.here hx rfl (hb hby at_92) rfl ?_
          show Steps p.tables e below (s₁.setTop (mkF m 93 #[.val (.int p1), .val (.int p2), .val (.int p3), .val (.int p4), .val (.int p5), .val (.int p6), .val (.int (p1 &&& (3 : Int32))), .val (.int (700 : Int32)), .val (.int x100), .val (.int y102), .unset, .unset, .unset, .unset, .unset, .unset, .unset, .unset, .unset, .unset, .unset, .unset, .unset] [(.int (699 : Int32)), (.int (p4 &&& (2147483647 : Int32))), (.int (y102 + (1 : Int32)))])) _
          refine XS.iload X0.here hx rfl (hb hby at_93) rfl ?_
          refine XS.isub X0.here hx rfl (hb hby at_95) rfl ?_
          refine Jvm.RoadKit.iremM (g := (mkF m 96 #[.val (.int p1), .val (.int p2), .val (.int p3), .val (.int p4), .val (.int p5), .val (.int p6), .val (.int (p1 &&& (3 : Int32))), .val (.int (700 : Int32)), .val (.int x100), .val (.int y102), .unset, .unset, .unset, .unset, .unset, .unset, .unset, .unset, .unset, .unset, .unset, .unset, .unset] [(.int ((699 : Int32) - y102)), (.int (p4 &&& (2147483647 : Int32))), (.int (y102 + (1 : Int32)))])) X0 hx rfl (hb hby at_96) rfl (own_nz (by omega)) ?_
          show Steps p.tables e below (s₁.setTop (mkF m 97 #[.val (.int p1), .val (.int p2), .val (.int p3), .val (.int p4), .val (.int p5), .val (.int p6), .val (.int (p1 &&& (3 : Int32))), .val (.int (700 : Int32)), .val (.int x100), .val (.int y102), .unset, .unset, .unset, .unset, .unset, .unset, .unset, .unset, .unset, .unset, .unset, .unset, .unset] [(.int ((p4 &&& (2147483647 : Int32)) % ((699 : Int32) - y102))), (.int (y102 + (1 : Int32)))])) _
          refine XS.iadd X0.here hx rfl (hb hby at_97) rfl ?_
          refine XS.istore X0.here hx rfl (hb hby at_98) rfl (l' := #[.val (.int p1), .val (.int p2), .val (.int p3), .val (.int p4), .val (.int p5), .val (.int p6), .val (.int (p1 &&& (3 : Int32))), .val (.int (700 : Int32)), .val (.int x100), .val (.int y102), .val (.int ((y102 + (1 : Int32)) + ((p4 &&& (2147483647 : Int32)) % ((699 : Int32) - y102)))), .unset, .unset, .unset, .unset, .unset, .unset, .unset, .unset, .unset, .unset, .unset, .unset]) rfl ?_
          exact kt
        have Mz104 := own_mod p4 ((699 : Int32) - y102) (by omega)
        have Rz104 : y102.toInt < z104.toInt ∧ z104.toInt < 700 := by
          have o1 : (y102 + (1 : Int32)).toInt = y102.toInt + 1 := Jvm.Kit.i32_add (by show -2 ^ 31 ≤ y102.toInt + 1; omega) (by show y102.toInt + 1 < 2 ^ 31; omega)
          rw [hz104, Jvm.Kit.i32_add (by omega) (by omega), o1]; omega
        obtain ⟨c106, hc106⟩ : ∃ z, z = (p5 &&& (1023 : Int32)) := ⟨_, rfl⟩
        have c107 : ∀ t, Steps p.tables e below (s₁.setTop (mkF m 108 #[.val (.int p1), .val (.int p2), .val (.int p3), .val (.int p4), .val (.int p5), .val (.int p6), .val (.int (p1 &&& (3 : Int32))), .val (.int (700 : Int32)), .val (.int x100), .val (.int y102), .val (.int z104), .val (.int c106), .unset, .unset, .unset, .unset, .unset, .unset, .unset, .unset, .unset, .unset, .unset] [])) t → Steps p.tables e below (s₁.setTop (mkF m 100 #[.val (.int p1), .val (.int p2), .val (.int p3), .val (.int p4), .val (.int p5), .val (.int p6), .val (.int (p1 &&& (3 : Int32))), .val (.int (700 : Int32)), .val (.int x100), .val (.int y102), .val (.int z104), .unset, .unset, .unset, .unset, .unset, .unset, .unset, .unset, .unset, .unset, .unset, .unset] [])) t := by
          intro t kt
          subst hc106
          show Steps p.tables e below (s₁.setTop (mkF m 100 #[.val (.int p1), .val (.int p2), .val (.int p3), .val (.int p4), .val (.int p5), .val (.int p6), .val (.int (p1 &&& (3 : Int32))), .val (.int (700 : Int32)), .val (.int x100), .val (.int y102), .val (.int z104), .unset, .unset, .unset, .unset, .unset, .unset, .unset, .unset, .unset, .unset, .unset, .unset] [])) _
          refine XS.iload X0.here hx rfl (hb hby at_100) rfl ?_
          refine XS.sipush X0.here hx rfl (hb hby at_102) ?_
          refine XS.iand X0.here hx rfl (hb hby at_105) rfl ?_
          show Steps p.tables e below (s₁.setTop (mkF m 106 #[.val (.int p1), .val (.int p2), .val (.int p3), .val (.int p4), .val (.int p5), .val (.int p6), .val (.int (p1 &&& (3 : Int32))), .val (.int (700 : Int32)), .val (.int x100), .val (.int y102), .val (.int z104), .unset, .unset, .unset, .unset, .unset, .unset, .unset, .unset, .unset, .unset, .unset, .unset] [(.int (p5 &&& (1023 : Int32)))])) _
          refine XS.istore X0.here hx rfl (hb hby at_106) rfl (l' := #[.val (.int p1), .val (.int p2), .val (.int p3), .val (.int p4), .val (.int p5), .val (.int p6), .val (.int (p1 &&& (3 : Int32))), .val (.int (700 : Int32)), .val (.int x100), .val (.int y102), .val (.int z104), .val (.int (p5 &&& (1023 : Int32))), .unset, .unset, .unset, .unset, .unset, .unset, .unset, .unset, .unset, .unset, .unset]) rfl ?_
          exact kt
        have Rc106 : 0 ≤ c106.toInt ∧ c106.toInt ≤ 1023 := by rw [hc106]; exact own_1023 _
        obtain ⟨c108, hc108⟩ : ∃ z, z = (((p5.toUInt32 >>> ((10 : Int32) &&& 31).toUInt32).toInt32) &&& (1023 : Int32)) := ⟨_, rfl⟩
        have c109 : ∀ t, Steps p.tables e below (s₁.setTop (mkF m 119 #[.val (.int p1), .val (.int p2), .val (.int p3), .val (.int p4), .val (.int p5), .val (.int p6), .val (.int (p1 &&& (3 : Int32))), .val (.int (700 : Int32)), .val (.int x100), .val (.int y102), .val (.int z104), .val (.int c106), .val (.int c108), .unset, .unset, .unset, .unset, .unset, .unset, .unset, .unset, .unset, .unset] [])) t → Steps p.tables e below (s₁.setTop (mkF m 108 #[.val (.int p1), .val (.int p2), .val (.int p3), .val (.int p4), .val (.int p5), .val (.int p6), .val (.int (p1 &&& (3 : Int32))), .val (.int (700 : Int32)), .val (.int x100), .val (.int y102), .val (.int z104), .val (.int c106), .unset, .unset, .unset, .unset, .unset, .unset, .unset, .unset, .unset, .unset, .unset] [])) t := by
          intro t kt
          subst hc108
          show Steps p.tables e below (s₁.setTop (mkF m 108 #[.val (.int p1), .val (.int p2), .val (.int p3), .val (.int p4), .val (.int p5), .val (.int p6), .val (.int (p1 &&& (3 : Int32))), .val (.int (700 : Int32)), .val (.int x100), .val (.int y102), .val (.int z104), .val (.int c106), .unset, .unset, .unset, .unset, .unset, .unset, .unset, .unset, .unset, .unset, .unset] [])) _
          refine XS.iload X0.here hx rfl (hb hby at_108) rfl ?_
          refine XS.bipush X0.here hx rfl (hb hby at_110) ?_
          refine XS.iushr X0.here hx rfl (hb hby at_112) rfl ?_
          show Steps p.tables e below (s₁.setTop (mkF m 113 #[.val (.int p1), .val (.int p2), .val (.int p3), .val (.int p4), .val (.int p5), .val (.int p6), .val (.int (p1 &&& (3 : Int32))), .val (.int (700 : Int32)), .val (.int x100), .val (.int y102), .val (.int z104), .val (.int c106), .unset, .unset, .unset, .unset, .unset, .unset, .unset, .unset, .unset, .unset, .unset] [(.int ((p5.toUInt32 >>> ((10 : Int32) &&& 31).toUInt32).toInt32))])) _
          refine XS.sipush X0.here hx rfl (hb hby at_113) ?_
          refine XS.iand X0.here hx rfl (hb hby at_116) rfl ?_
          refine XS.istore X0.here hx rfl (hb hby at_117) rfl (l' := #[.val (.int p1), .val (.int p2), .val (.int p3), .val (.int p4), .val (.int p5), .val (.int p6), .val (.int (p1 &&& (3 : Int32))), .val (.int (700 : Int32)), .val (.int x100), .val (.int y102), .val (.int z104), .val (.int c106), .val (.int (((p5.toUInt32 >>> ((10 : Int32) &&& 31).toUInt32).toInt32) &&& (1023 : Int32))), .unset, .unset, .unset, .unset, .unset, .unset, .unset, .unset, .unset, .unset]) rfl ?_
          exact kt
        have Rc108 : 0 ≤ c108.toInt ∧ c108.toInt ≤ 1023 := by rw [hc108]; exact own_1023 _
        obtain ⟨c110, hc110⟩ : ∃ z, z = (((p5.toUInt32 >>> ((20 : Int32) &&& 31).toUInt32).toInt32) &&& (1023 : Int32)) := ⟨_, rfl⟩
        have c111 : ∀ t, Steps p.tables e below (s₁.setTop (mkF m 130 #[.val (.int p1), .val (.int p2), .val (.int p3), .val (.int p4), .val (.int p5), .val (.int p6), .val (.int (p1 &&& (3 : Int32))), .val (.int (700 : Int32)), .val (.int x100), .val (.int y102), .val (.int z104), .val (.int c106), .val (.int c108), .val (.int c110), .unset, .unset, .unset, .unset, .unset, .unset, .unset, .unset, .unset] [])) t → Steps p.tables e below (s₁.setTop (mkF m 119 #[.val (.int p1), .val (.int p2), .val (.int p3), .val (.int p4), .val (.int p5), .val (.int p6), .val (.int (p1 &&& (3 : Int32))), .val (.int (700 : Int32)), .val (.int x100), .val (.int y102), .val (.int z104), .val (.int c106), .val (.int c108), .unset, .unset, .unset, .unset, .unset, .unset, .unset, .unset, .unset, .unset] [])) t := by
          intro t kt
          subst hc110
          show Steps p.tables e below (s₁.setTop (mkF m 119 #[.val (.int p1), .val (.int p2), .val (.int p3), .val (.int p4), .val (.int p5), .val (.int p6), .val (.int (p1 &&& (3 : Int32))), .val (.int (700 : Int32)), .val (.int x100), .val (.int y102), .val (.int z104), .val (.int c106), .val (.int c108), .unset, .unset, .unset, .unset, .unset, .unset, .unset, .unset, .unset, .unset] [])) _
          refine XS.iload X0.here hx rfl (hb hby at_119) rfl ?_
          refine XS.bipush X0.here hx rfl (hb hby at_121) ?_
          refine XS.iushr X0.here hx rfl (hb hby at_123) rfl ?_
          show Steps p.tables e below (s₁.setTop (mkF m 124 #[.val (.int p1), .val (.int p2), .val (.int p3), .val (.int p4), .val (.int p5), .val (.int p6), .val (.int (p1 &&& (3 : Int32))), .val (.int (700 : Int32)), .val (.int x100), .val (.int y102), .val (.int z104), .val (.int c106), .val (.int c108), .unset, .unset, .unset, .unset, .unset, .unset, .unset, .unset, .unset, .unset] [(.int ((p5.toUInt32 >>> ((20 : Int32) &&& 31).toUInt32).toInt32))])) _
          refine XS.sipush X0.here hx rfl (hb hby at_124) ?_
          refine XS.iand X0.here hx rfl (hb hby at_127) rfl ?_
          refine XS.istore X0.here hx rfl (hb hby at_128) rfl (l' := #[.val (.int p1), .val (.int p2), .val (.int p3), .val (.int p4), .val (.int p5), .val (.int p6), .val (.int (p1 &&& (3 : Int32))), .val (.int (700 : Int32)), .val (.int x100), .val (.int y102), .val (.int z104), .val (.int c106), .val (.int c108), .val (.int (((p5.toUInt32 >>> ((20 : Int32) &&& 31).toUInt32).toInt32) &&& (1023 : Int32))), .unset, .unset, .unset, .unset, .unset, .unset, .unset, .unset, .unset]) rfl ?_
          exact kt
        have Rc110 : 0 ≤ c110.toInt ∧ c110.toInt ≤ 1023 := by rw [hc110]; exact own_1023 _
        obtain ⟨t112, ht112⟩ : ∃ z, z = ((c106 + c108) + c110) := ⟨_, rfl⟩
        have c113 : ∀ t, Steps p.tables e below (s₁.setTop (mkF m 140 #[.val (.int p1), .val (.int p2), .val (.int p3), .val (.int p4), .val (.int p5), .val (.int p6), .val (.int (p1 &&& (3 : Int32))), .val (.int (700 : Int32)), .val (.int x100), .val (.int y102), .val (.int z104), .val (.int c106), .val (.int c108), .val (.int c110), .val (.int t112), .unset, .unset, .unset, .unset, .unset, .unset, .unset, .unset] [])) t → Steps p.tables e below (s₁.setTop (mkF m 130 #[.val (.int p1), .val (.int p2), .val (.int p3), .val (.int p4), .val (.int p5), .val (.int p6), .val (.int (p1 &&& (3 : Int32))), .val (.int (700 : Int32)), .val (.int x100), .val (.int y102), .val (.int z104), .val (.int c106), .val (.int c108), .val (.int c110), .unset, .unset, .unset, .unset, .unset, .unset, .unset, .unset, .unset] [])) t := by
          intro t kt
          subst ht112
          show Steps p.tables e below (s₁.setTop (mkF m 130 #[.val (.int p1), .val (.int p2), .val (.int p3), .val (.int p4), .val (.int p5), .val (.int p6), .val (.int (p1 &&& (3 : Int32))), .val (.int (700 : Int32)), .val (.int x100), .val (.int y102), .val (.int z104), .val (.int c106), .val (.int c108), .val (.int c110), .unset, .unset, .unset, .unset, .unset, .unset, .unset, .unset, .unset] [])) _
          refine XS.iload X0.here hx rfl (hb hby at_130) rfl ?_
          refine XS.iload X0.here hx rfl (hb hby at_132) rfl ?_
          refine XS.iadd X0.here hx rfl (hb hby at_134) rfl ?_
          show Steps p.tables e below (s₁.setTop (mkF m 135 #[.val (.int p1), .val (.int p2), .val (.int p3), .val (.int p4), .val (.int p5), .val (.int p6), .val (.int (p1 &&& (3 : Int32))), .val (.int (700 : Int32)), .val (.int x100), .val (.int y102), .val (.int z104), .val (.int c106), .val (.int c108), .val (.int c110), .unset, .unset, .unset, .unset, .unset, .unset, .unset, .unset, .unset] [(.int (c106 + c108))])) _
          refine XS.iload X0.here hx rfl (hb hby at_135) rfl ?_
          refine XS.iadd X0.here hx rfl (hb hby at_137) rfl ?_
          refine XS.istore X0.here hx rfl (hb hby at_138) rfl (l' := #[.val (.int p1), .val (.int p2), .val (.int p3), .val (.int p4), .val (.int p5), .val (.int p6), .val (.int (p1 &&& (3 : Int32))), .val (.int (700 : Int32)), .val (.int x100), .val (.int y102), .val (.int z104), .val (.int c106), .val (.int c108), .val (.int c110), .val (.int ((c106 + c108) + c110)), .unset, .unset, .unset, .unset, .unset, .unset, .unset, .unset]) rfl ?_
          exact kt
        have Rt112 : t112.toInt = c106.toInt + c108.toInt + c110.toInt := by
          have o1 : (c106 + c108).toInt = c106.toInt + c108.toInt := Jvm.Kit.i32_add (by omega) (by omega)
          rw [ht112, Jvm.Kit.i32_add (by omega) (by omega), o1]
        have c114 : ∀ t, Steps p.tables e below (s₁.setTop (mkF m 142 #[.val (.int p1), .val (.int p2), .val (.int p3), .val (.int p4), .val (.int p5), .val (.int p6), .val (.int (p1 &&& (3 : Int32))), .val (.int (700 : Int32)), .val (.int x100), .val (.int y102), .val (.int z104), .val (.int c106), .val (.int c108), .val (.int c110), .val (.int t112), .unset, .unset, .unset, .unset, .unset, .unset, .unset, .unset] [(.int t112)])) t → Steps p.tables e below (s₁.setTop (mkF m 140 #[.val (.int p1), .val (.int p2), .val (.int p3), .val (.int p4), .val (.int p5), .val (.int p6), .val (.int (p1 &&& (3 : Int32))), .val (.int (700 : Int32)), .val (.int x100), .val (.int y102), .val (.int z104), .val (.int c106), .val (.int c108), .val (.int c110), .val (.int t112), .unset, .unset, .unset, .unset, .unset, .unset, .unset, .unset] [])) t := by
          intro t kt
          show Steps p.tables e below (s₁.setTop (mkF m 140 #[.val (.int p1), .val (.int p2), .val (.int p3), .val (.int p4), .val (.int p5), .val (.int p6), .val (.int (p1 &&& (3 : Int32))), .val (.int (700 : Int32)), .val (.int x100), .val (.int y102), .val (.int z104), .val (.int c106), .val (.int c108), .val (.int c110), .val (.int t112), .unset, .unset, .unset, .unset, .unset, .unset, .unset, .unset] [])) _
          refine XS.iload X0.here hx rfl (hb hby at_140) rfl ?_
          exact kt
        by_cases hc142 : t112 = (0 : Int32)
        · obtain ⟨fs, hr, hrun, hended, hW, hsame⟩ := X0.leave (v := some (.int (1 : Int32))) (fun h => by rw [Bd.returns] at h; cases h)
          refine ⟨_, _, pre0 _ (c1 _ (c34 _ (c67 _ (c101 _ (c103 _ (c105 _ (c107 _ (c109 _ (c111 _ (c113 _ (c114 _ (?_)))))))))))), hrun, hended, _, _, rfl, ?_, ⟨_, rfl⟩, hW, hsame.mono (by decide) (by decide)⟩
          · show Steps p.tables e below (s₁.setTop (mkF m 142 #[.val (.int p1), .val (.int p2), .val (.int p3), .val (.int p4), .val (.int p5), .val (.int p6), .val (.int (p1 &&& (3 : Int32))), .val (.int (700 : Int32)), .val (.int x100), .val (.int y102), .val (.int z104), .val (.int c106), .val (.int c108), .val (.int c110), .val (.int t112), .unset, .unset, .unset, .unset, .unset, .unset, .unset, .unset] [(.int t112)])) _
            refine XS.ifNo X0.here hx rfl (hb hby at_142) rfl ((if0 _ _).trans (teq hc142).2) ?_
            refine XS.iconst X0.here hx rfl (hb hby at_145) ?_
            show Steps p.tables e below (s₁.setTop (mkF m 146 #[.val (.int p1), .val (.int p2), .val (.int p3), .val (.int p4), .val (.int p5), .val (.int p6), .val (.int (p1 &&& (3 : Int32))), .val (.int (700 : Int32)), .val (.int x100), .val (.int y102), .val (.int z104), .val (.int c106), .val (.int c108), .val (.int c110), .val (.int t112), .unset, .unset, .unset, .unset, .unset, .unset, .unset, .unset] [(.int (1 : Int32))])) _
            exact retN X0 hx (t := .boolean) Bd.returns (by simp) (hb hby at_146) hr
          · show Qrm0 Z p1 p2 p3 p4 p5 p6 h0 n0 _ s₁.heap _
            rw [e0]
            exact ⟨rfl, N0⟩
        · have Pt112 : 0 < t112.toInt := by
            have nz : ¬ (t112.toInt = 0) := fun q => hc142 (Int32.toInt_inj.mp q)
            omega
          obtain ⟨r115, hr115⟩ : ∃ z, z = ((p6 &&& (2147483647 : Int32)) % t112) := ⟨_, rfl⟩
          have c116 : ∀ t, Steps p.tables e below (s₁.setTop (mkF m 157 #[.val (.int p1), .val (.int p2), .val (.int p3), .val (.int p4), .val (.int p5), .val (.int p6), .val (.int (p1 &&& (3 : Int32))), .val (.int (700 : Int32)), .val (.int x100), .val (.int y102), .val (.int z104), .val (.int c106), .val (.int c108), .val (.int c110), .val (.int t112), .val (.int r115), .unset, .unset, .unset, .unset, .unset, .unset, .unset] [])) t → Steps p.tables e below (s₁.setTop (mkF m 142 #[.val (.int p1), .val (.int p2), .val (.int p3), .val (.int p4), .val (.int p5), .val (.int p6), .val (.int (p1 &&& (3 : Int32))), .val (.int (700 : Int32)), .val (.int x100), .val (.int y102), .val (.int z104), .val (.int c106), .val (.int c108), .val (.int c110), .val (.int t112), .unset, .unset, .unset, .unset, .unset, .unset, .unset, .unset] [(.int t112)])) t := by
            intro t kt
            subst hr115
            show Steps p.tables e below (s₁.setTop (mkF m 142 #[.val (.int p1), .val (.int p2), .val (.int p3), .val (.int p4), .val (.int p5), .val (.int p6), .val (.int (p1 &&& (3 : Int32))), .val (.int (700 : Int32)), .val (.int x100), .val (.int y102), .val (.int z104), .val (.int c106), .val (.int c108), .val (.int c110), .val (.int t112), .unset, .unset, .unset, .unset, .unset, .unset, .unset, .unset] [(.int t112)])) _
            refine XS.ifYes X0.here hx rfl (pc0 := 142) (pc' := 147) rfl (hb hby at_142) rfl ((if0 _ _).trans (feq hc142).2) (by decide) (by decide) ?_
            refine XS.iload X0.here hx rfl (hb hby at_147) rfl ?_
            refine X0.ldcInt hx hown (mvT hZ (hw _ (List.mem_of_getElem? (i := 0) rfl))) (g := (mkF m 149 #[.val (.int p1), .val (.int p2), .val (.int p3), .val (.int p4), .val (.int p5), .val (.int p6), .val (.int (p1 &&& (3 : Int32))), .val (.int (700 : Int32)), .val (.int x100), .val (.int y102), .val (.int z104), .val (.int c106), .val (.int c108), .val (.int c110), .val (.int t112), .unset, .unset, .unset, .unset, .unset, .unset, .unset, .unset] [(.int p6)])) rfl (hb hby at_149) _ ?_
            show Steps p.tables e below (s₁.setTop (mkF m 151 #[.val (.int p1), .val (.int p2), .val (.int p3), .val (.int p4), .val (.int p5), .val (.int p6), .val (.int (p1 &&& (3 : Int32))), .val (.int (700 : Int32)), .val (.int x100), .val (.int y102), .val (.int z104), .val (.int c106), .val (.int c108), .val (.int c110), .val (.int t112), .unset, .unset, .unset, .unset, .unset, .unset, .unset, .unset] [(.int (2147483647 : Int32)), (.int p6)])) _
            refine XS.iand X0.here hx rfl (hb hby at_151) rfl ?_
            refine XS.iload X0.here hx rfl (hb hby at_152) rfl ?_
            refine Jvm.RoadKit.iremM (g := (mkF m 154 #[.val (.int p1), .val (.int p2), .val (.int p3), .val (.int p4), .val (.int p5), .val (.int p6), .val (.int (p1 &&& (3 : Int32))), .val (.int (700 : Int32)), .val (.int x100), .val (.int y102), .val (.int z104), .val (.int c106), .val (.int c108), .val (.int c110), .val (.int t112), .unset, .unset, .unset, .unset, .unset, .unset, .unset, .unset] [(.int t112), (.int (p6 &&& (2147483647 : Int32)))])) X0 hx rfl (hb hby at_154) rfl (own_nz Pt112) ?_
            show Steps p.tables e below (s₁.setTop (mkF m 155 #[.val (.int p1), .val (.int p2), .val (.int p3), .val (.int p4), .val (.int p5), .val (.int p6), .val (.int (p1 &&& (3 : Int32))), .val (.int (700 : Int32)), .val (.int x100), .val (.int y102), .val (.int z104), .val (.int c106), .val (.int c108), .val (.int c110), .val (.int t112), .unset, .unset, .unset, .unset, .unset, .unset, .unset, .unset] [(.int ((p6 &&& (2147483647 : Int32)) % t112))])) _
            refine XS.istore X0.here hx rfl (hb hby at_155) rfl (l' := #[.val (.int p1), .val (.int p2), .val (.int p3), .val (.int p4), .val (.int p5), .val (.int p6), .val (.int (p1 &&& (3 : Int32))), .val (.int (700 : Int32)), .val (.int x100), .val (.int y102), .val (.int z104), .val (.int c106), .val (.int c108), .val (.int c110), .val (.int t112), .val (.int ((p6 &&& (2147483647 : Int32)) % t112)), .unset, .unset, .unset, .unset, .unset, .unset, .unset]) rfl ?_
            exact kt
          have Rr115 : 0 ≤ r115.toInt ∧ r115.toInt < t112.toInt := by rw [hr115]; exact own_mod _ _ Pt112
          obtain ⟨T117, h117, X117, e117, E117, A117, D117, -, st117⟩ := newO X0 hx hZ hown (hw _ (List.mem_of_getElem? (i := 1) rfl)) (hw _ (List.mem_of_getElem? (i := 2) rfl)) (hw _ (List.mem_of_getElem? (i := 3) rfl)) e0 (g := (mkF m 157 #[.val (.int p1), .val (.int p2), .val (.int p3), .val (.int p4), .val (.int p5), .val (.int p6), .val (.int (p1 &&& (3 : Int32))), .val (.int (700 : Int32)), .val (.int x100), .val (.int y102), .val (.int z104), .val (.int c106), .val (.int c108), .val (.int c110), .val (.int t112), .val (.int r115), .unset, .unset, .unset, .unset, .unset, .unset, .unset] [])) rfl (hb hby at_157) (by decide) (by decide)
          obtain ⟨b117, g117⟩ : ∃ z, z = h0.size := ⟨_, rfl⟩
          rw [← g117] at A117 D117 st117
          have g_b117 : n0 ≤ b117 := Nat.le_trans Z0 (Nat.le_of_eq g117.symm)
          have sz_b117 : h0.size ≤ b117 := (Nat.le_trans (Keep.refl h0 []).1 (Nat.le_of_eq g117.symm))
          have F_top_b117 : Fld Z h117 b117 "com/example/ebbtide/ebbtide/cluster/PlaceCounts" "top" "I" (.int (0 : Int32)) := (D117 (Or.inr (hw _ (List.mem_of_getElem? (i := 11) rfl))) (ty := .int) (by decide))
          have F_sums_b117 : Fld Z h117 b117 "com/example/ebbtide/ebbtide/cluster/PlaceCounts" "sums" "[I" .null := (D117 (Or.inr (hw _ (List.mem_of_getElem? (i := 14) rfl))) (ty := (.array .int)) (by decide))
          have F_total_b117 : Fld Z h117 b117 "com/example/ebbtide/ebbtide/cluster/PlaceCounts" "total" "I" (.int (0 : Int32)) := (D117 (Or.inl (hw _ (List.mem_of_getElem? (i := 21) rfl))) (ty := .int) (by decide))
          have K117 : Keep h0 h117 [] := (Keep.refl h0 []).ext E117
          have Z117 : n0 ≤ h117.size := Nat.le_trans Z0 E117.1
          obtain ⟨_, _, ⟨T118, L118, k118, n118⟩, -, X118, ⟨Lc118, hQ118, l118, y118, z118⟩, st118⟩ := X117.specialBack hx (y := (⟨"com/example/ebbtide/ebbtide/cluster/PlaceCounts", "<init>", "(I)V"⟩ : MethodName)) rfl hown (mvT hZ (hw _ (List.mem_of_getElem? (i := 4) rfl))) (mvT hZ (hw _ (List.mem_of_getElem? (i := 5) rfl))) (mvT hZ (hw _ (List.mem_of_getElem? (i := 6) rfl))) (by decide) (backOf (W := 1) (rmI_700 l Z a0 hw [] b117 h117 n0 Z117 A117 F_sums_b117 F_top_b117 F_total_b117 g_b117) hZ (hw _ (List.mem_of_getElem? (i := 6) rfl)) (hw _ (List.mem_of_getElem? (i := 3) rfl)) (by decide) (by decide)) (g := (mkF m 163 #[.val (.int p1), .val (.int p2), .val (.int p3), .val (.int p4), .val (.int p5), .val (.int p6), .val (.int (p1 &&& (3 : Int32))), .val (.int (700 : Int32)), .val (.int x100), .val (.int y102), .val (.int z104), .val (.int c106), .val (.int c108), .val (.int c110), .val (.int t112), .val (.int r115), .unset, .unset, .unset, .unset, .unset, .unset, .unset] [(.int (700 : Int32)), (.ref b117), (.ref b117)])) rfl (by rw [hml]; rfl) (Steps.refl _) (a := b117) (argsL := [(.int (700 : Int32))]) (rest := [(.ref b117)]) (lenOf pd__28I_29V rfl) rfl (by show 2 * 0 + _ ≤ _; exact Nat.le_of_eq rfl) (hb hby at_163) (fun _ _ => ⟨rfl, e117, (by decide : 1 + 1 ≤ _), (by decide : 3 + 1025 ≤ _)⟩)
          dsimp only [Pt.U, Pt.locs, Pt.cells, Pt.slots] at X118 l118 y118 z118 st118 hQ118
          subst l118 y118 z118
          obtain ⟨h118, e118⟩ : ∃ h', T118.heap = h' := ⟨_, rfl⟩
          rw [e118] at hQ118
          obtain ⟨rfl, N118q, K118q, Eq118, ⟨bs118, gb118, ne118, Fs118, Ab118⟩, Ft118, Fn118⟩ := hQ118
          have K118 : Keep h0 h118 [] := K117.trans K118q (allS (Or.inr sz_b117) all0)
          have Z118 : n0 ≤ h118.size := Nat.le_trans Z117 K118q.1
          have N118 := Fr.app N0 N118q
          have sz_bs118 : h0.size ≤ bs118 := Nat.le_trans Z0' gb118
          have g_bs118 := gb118
          have e1_120 : (x100 + (1 : Int32)).toInt = x100.toInt + 1 := Jvm.Kit.i32_add (by show -2 ^ 31 ≤ x100.toInt + 1; omega) (by show x100.toInt + 1 < 2 ^ 31; omega)
          obtain ⟨cq119, kq119, q119a, q119b, q119c⟩ := isOf hZ e118 Eq118
          obtain ⟨_, _, ⟨T119, L119, k119, n119⟩, -, X119, ⟨Lc119, hQ119, l119, y119, z119⟩, st119⟩ := X118.virtualBack hx (y := (⟨"com/example/ebbtide/ebbtide/cluster/PlaceCounts", "add", "(II)V"⟩ : MethodName)) (z := (⟨"com/example/ebbtide/ebbtide/cluster/PlaceCounts", "add", "(II)V"⟩ : MethodName)) hown (mvT hZ (hw _ (List.mem_of_getElem? (i := 15) rfl))) (mvT hZ (hw _ (List.mem_of_getElem? (i := 16) rfl))) (notFace_of_selects (args := #[]) (mvT hZ (hw _ (List.mem_of_getElem? (i := 18) rfl)))) (mvT hZ (hw _ (List.mem_of_getElem? (i := 18) rfl))) (mvT hZ (hw _ (List.mem_of_getElem? (i := 17) rfl))) (by decide) (backOf (W := 0) (rmA_1024 l Z a0 hw [] b117 bs118 x100 c106 (0 : Int32) (fun _ => (0 : Int32)) h118 n0 Z118 Eq118 Fs118 Ft118 Fn118 Ab118 g_b117 g_bs118 ne118 (by omega)) hZ (hw _ (List.mem_of_getElem? (i := 19) rfl)) (hw _ (List.mem_of_getElem? (i := 3) rfl)) (by decide) (by decide)) q119a q119c (g := (mkF m 174 #[.val (.int p1), .val (.int p2), .val (.int p3), .val (.int p4), .val (.int p5), .val (.int p6), .val (.int (p1 &&& (3 : Int32))), .val (.int (700 : Int32)), .val (.int x100), .val (.int y102), .val (.int z104), .val (.int c106), .val (.int c108), .val (.int c110), .val (.int t112), .val (.int r115), .val (.ref b117), .unset, .unset, .unset, .unset, .unset, .unset] [(.int c106), (.int x100), (.ref b117)])) rfl (by rw [hml]; rfl) (Steps.refl _) (argsL := [(.int x100), (.int c106)]) (rest := []) (lenOf pd__28II_29V rfl) rfl (by show 2 * 0 + _ ≤ _; exact Nat.le_of_eq rfl) (hb hby at_174) (fun _ _ => ⟨rfl, e118, (by decide : 2 + 0 ≤ _), (by decide : 1028 + 0 ≤ _)⟩)
          dsimp only [Pt.U, Pt.locs, Pt.cells, Pt.slots] at X119 l119 y119 z119 st119 hQ119
          subst l119 y119 z119
          obtain ⟨h119, e119⟩ : ∃ h', T119.heap = h' := ⟨_, rfl⟩
          rw [e119] at hQ119
          obtain ⟨rfl, N119q, K119q, Eq119, Fs119, Ft119, Fn119, Ab119⟩ := hQ119
          have K119 : Keep h0 h119 [] := K118.trans K119q (allS (Or.inr sz_b117) (allS (Or.inr sz_bs118) all0))
          have Z119 : n0 ≤ h119.size := Nat.le_trans Z118 K119q.1
          have N119 := Fr.app N118 N119q
          have e1_122 : (y102 + (1 : Int32)).toInt = y102.toInt + 1 := Jvm.Kit.i32_add (by show -2 ^ 31 ≤ y102.toInt + 1; omega) (by show y102.toInt + 1 < 2 ^ 31; omega)
          obtain ⟨cq121, kq121, q121a, q121b, q121c⟩ := isOf hZ e119 Eq119
          obtain ⟨_, _, ⟨T121, L121, k121, n121⟩, -, X121, ⟨Lc121, hQ121, l121, y121, z121⟩, st121⟩ := X119.virtualBack hx (y := (⟨"com/example/ebbtide/ebbtide/cluster/PlaceCounts", "add", "(II)V"⟩ : MethodName)) (z := (⟨"com/example/ebbtide/ebbtide/cluster/PlaceCounts", "add", "(II)V"⟩ : MethodName)) hown (mvT hZ (hw _ (List.mem_of_getElem? (i := 15) rfl))) (mvT hZ (hw _ (List.mem_of_getElem? (i := 16) rfl))) (notFace_of_selects (args := #[]) (mvT hZ (hw _ (List.mem_of_getElem? (i := 18) rfl)))) (mvT hZ (hw _ (List.mem_of_getElem? (i := 18) rfl))) (mvT hZ (hw _ (List.mem_of_getElem? (i := 17) rfl))) (by decide) (backOf (W := 0) (rmA_1024 l Z a0 hw [] b117 bs118 y102 c108 ((0 : Int32) + c106) (own_fen (fun _ => (0 : Int32)) (x100 + (1 : Int32)).toNatClampNeg c106) h119 n0 Z119 Eq119 Fs119 Ft119 Fn119 Ab119 g_b117 g_bs118 ne118 (by omega)) hZ (hw _ (List.mem_of_getElem? (i := 19) rfl)) (hw _ (List.mem_of_getElem? (i := 3) rfl)) (by decide) (by decide)) q121a q121c (g := (mkF m 183 #[.val (.int p1), .val (.int p2), .val (.int p3), .val (.int p4), .val (.int p5), .val (.int p6), .val (.int (p1 &&& (3 : Int32))), .val (.int (700 : Int32)), .val (.int x100), .val (.int y102), .val (.int z104), .val (.int c106), .val (.int c108), .val (.int c110), .val (.int t112), .val (.int r115), .val (.ref b117), .unset, .unset, .unset, .unset, .unset, .unset] [(.int c108), (.int y102), (.ref b117)])) rfl (by rw [hml]; rfl) (Steps.refl _) (argsL := [(.int y102), (.int c108)]) (rest := []) (lenOf pd__28II_29V rfl) rfl (by show 2 * 0 + _ ≤ _; exact Nat.le_of_eq rfl) (hb hby at_183) (fun _ _ => ⟨rfl, e119, (by decide : 2 + 0 ≤ _), (by decide : 1028 + 0 ≤ _)⟩)
          dsimp only [Pt.U, Pt.locs, Pt.cells, Pt.slots] at X121 l121 y121 z121 st121 hQ121
          subst l121 y121 z121
          obtain ⟨h121, e121⟩ : ∃ h', T121.heap = h' := ⟨_, rfl⟩
          rw [e121] at hQ121
          obtain ⟨rfl, N121q, K121q, Eq121, Fs121, Ft121, Fn121, Ab121⟩ := hQ121
          have K121 : Keep h0 h121 [] := K119.trans K121q (allS (Or.inr sz_b117) (allS (Or.inr sz_bs118) all0))
          have Z121 : n0 ≤ h121.size := Nat.le_trans Z119 K121q.1
          have N121 := Fr.app N119 N121q
          have e1_124 : (z104 + (1 : Int32)).toInt = z104.toInt + 1 := Jvm.Kit.i32_add (by show -2 ^ 31 ≤ z104.toInt + 1; omega) (by show z104.toInt + 1 < 2 ^ 31; omega)
          obtain ⟨cq123, kq123, q123a, q123b, q123c⟩ := isOf hZ e121 Eq121
          obtain ⟨_, _, ⟨T123, L123, k123, n123⟩, -, X123, ⟨Lc123, hQ123, l123, y123, z123⟩, st123⟩ := X121.virtualBack hx (y := (⟨"com/example/ebbtide/ebbtide/cluster/PlaceCounts", "add", "(II)V"⟩ : MethodName)) (z := (⟨"com/example/ebbtide/ebbtide/cluster/PlaceCounts", "add", "(II)V"⟩ : MethodName)) hown (mvT hZ (hw _ (List.mem_of_getElem? (i := 15) rfl))) (mvT hZ (hw _ (List.mem_of_getElem? (i := 16) rfl))) (notFace_of_selects (args := #[]) (mvT hZ (hw _ (List.mem_of_getElem? (i := 18) rfl)))) (mvT hZ (hw _ (List.mem_of_getElem? (i := 18) rfl))) (mvT hZ (hw _ (List.mem_of_getElem? (i := 17) rfl))) (by decide) (backOf (W := 0) (rmA_1024 l Z a0 hw [] b117 bs118 z104 c110 (((0 : Int32) + c106) + c108) (own_fen (own_fen (fun _ => (0 : Int32)) (x100 + (1 : Int32)).toNatClampNeg c106) (y102 + (1 : Int32)).toNatClampNeg c108) h121 n0 Z121 Eq121 Fs121 Ft121 Fn121 Ab121 g_b117 g_bs118 ne118 (by omega)) hZ (hw _ (List.mem_of_getElem? (i := 19) rfl)) (hw _ (List.mem_of_getElem? (i := 3) rfl)) (by decide) (by decide)) q123a q123c (g := (mkF m 192 #[.val (.int p1), .val (.int p2), .val (.int p3), .val (.int p4), .val (.int p5), .val (.int p6), .val (.int (p1 &&& (3 : Int32))), .val (.int (700 : Int32)), .val (.int x100), .val (.int y102), .val (.int z104), .val (.int c106), .val (.int c108), .val (.int c110), .val (.int t112), .val (.int r115), .val (.ref b117), .unset, .unset, .unset, .unset, .unset, .unset] [(.int c110), (.int z104), (.ref b117)])) rfl (by rw [hml]; rfl) (Steps.refl _) (argsL := [(.int z104), (.int c110)]) (rest := []) (lenOf pd__28II_29V rfl) rfl (by show 2 * 0 + _ ≤ _; exact Nat.le_of_eq rfl) (hb hby at_192) (fun _ _ => ⟨rfl, e121, (by decide : 2 + 0 ≤ _), (by decide : 1028 + 0 ≤ _)⟩)
          dsimp only [Pt.U, Pt.locs, Pt.cells, Pt.slots] at X123 l123 y123 z123 st123 hQ123
          subst l123 y123 z123
          obtain ⟨h123, e123⟩ : ∃ h', T123.heap = h' := ⟨_, rfl⟩
          rw [e123] at hQ123
          obtain ⟨rfl, N123q, K123q, Eq123, Fs123, Ft123, Fn123, Ab123⟩ := hQ123
          have K123 : Keep h0 h123 [] := K121.trans K123q (allS (Or.inr sz_b117) (allS (Or.inr sz_bs118) all0))
          have Z123 : n0 ≤ h123.size := Nat.le_trans Z121 K123q.1
          have N123 := Fr.app N121 N123q
          obtain ⟨cq125, kq125, q125a, q125b, q125c⟩ := isOf hZ e123 Eq123
          obtain ⟨_, _, ⟨T125, L125, k125, n125⟩, -, X125, ⟨Lc125, hQ125, l125, y125, z125⟩, st125⟩ := X123.virtualBack hx (y := (⟨"com/example/ebbtide/ebbtide/cluster/PlaceCounts", "locate", "(I)J"⟩ : MethodName)) (z := (⟨"com/example/ebbtide/ebbtide/cluster/PlaceCounts", "locate", "(I)J"⟩ : MethodName)) hown (mvT hZ (hw _ (List.mem_of_getElem? (i := 22) rfl))) (mvT hZ (hw _ (List.mem_of_getElem? (i := 23) rfl))) (notFace_of_selects (args := #[]) (mvT hZ (hw _ (List.mem_of_getElem? (i := 25) rfl)))) (mvT hZ (hw _ (List.mem_of_getElem? (i := 25) rfl))) (mvT hZ (hw _ (List.mem_of_getElem? (i := 24) rfl))) (by decide) (backOf (W := 0) (rmL_1024 l Z a0 hw [] b117 bs118 r115 (own_fen (own_fen (own_fen (fun _ => (0 : Int32)) (x100 + (1 : Int32)).toNatClampNeg c106) (y102 + (1 : Int32)).toNatClampNeg c108) (z104 + (1 : Int32)).toNatClampNeg c110) (own_P x100.toInt y102.toInt z104.toInt c106.toInt c108.toInt c110.toInt) h123 n0 Z123 Fs123 Ft123 Ab123 (fun u w q => own_P_mono x100.toInt y102.toInt z104.toInt c106.toInt c108.toInt c110.toInt Rc106.1 Rc108.1 Rc110.1 u w q) (fun u => own_P_lo x100.toInt y102.toInt z104.toInt c106.toInt c108.toInt c110.toInt Rc106.1 Rc108.1 Rc110.1 u) (fun u => Int.le_trans (own_P_hi x100.toInt y102.toInt z104.toInt c106.toInt c108.toInt c110.toInt Rc106.1 Rc108.1 Rc110.1 u) (by omega)) (own_P_zero x100.toInt y102.toInt z104.toInt c106.toInt c108.toInt c110.toInt (by omega) (by omega) (by omega)) Rr115.1 (by omega) (by rw [own_P_all x100.toInt y102.toInt z104.toInt c106.toInt c108.toInt c110.toInt 1024 (by omega) (by omega) (by omega)]; omega) (fun k hk q u w => own_nodeI x100 y102 z104 c106 c108 c110 (show 0 ≤ x100.toInt ∧ x100.toInt ≤ 2000 from by omega) (show 0 ≤ y102.toInt ∧ y102.toInt ≤ 2000 from by omega) (show 0 ≤ z104.toInt ∧ z104.toInt ≤ 2000 from by omega) Rc106 Rc108 Rc110 k hk q u w)) hZ (hw _ (List.mem_of_getElem? (i := 26) rfl)) (hw _ (List.mem_of_getElem? (i := 3) rfl)) (by decide) (by decide)) q125a q125c (g := (mkF m 199 #[.val (.int p1), .val (.int p2), .val (.int p3), .val (.int p4), .val (.int p5), .val (.int p6), .val (.int (p1 &&& (3 : Int32))), .val (.int (700 : Int32)), .val (.int x100), .val (.int y102), .val (.int z104), .val (.int c106), .val (.int c108), .val (.int c110), .val (.int t112), .val (.int r115), .val (.ref b117), .unset, .unset, .unset, .unset, .unset, .unset] [(.int r115), (.ref b117)])) rfl (by rw [hml]; rfl) (Steps.refl _) (argsL := [(.int r115)]) (rest := []) (lenOf pd__28I_29J rfl) rfl (by show 2 * 0 + _ ≤ _; exact Nat.le_of_eq rfl) (hb hby at_199) (fun _ _ => ⟨rfl, e123, (by decide : 2 + 0 ≤ _), (by decide : 1028 + 0 ≤ _)⟩)
          dsimp only [Pt.U, Pt.locs, Pt.cells, Pt.slots] at X125 l125 y125 z125 st125 hQ125
          subst l125 y125 z125
          obtain ⟨pl125, rk125, M125, rfl, N125q, e125, I125⟩ := hQ125
          have N125 := Fr.app N123 N125q
          have c126 : ∀ t, Steps p.tables e below (T125.setTop (mkF m 208 #[.val (.int p1), .val (.int p2), .val (.int p3), .val (.int p4), .val (.int p5), .val (.int p6), .val (.int (p1 &&& (3 : Int32))), .val (.int (700 : Int32)), .val (.int x100), .val (.int y102), .val (.int z104), .val (.int c106), .val (.int c108), .val (.int c110), .val (.int t112), .val (.int r115), .val (.ref b117), .val (.long (((pl125.toInt64) <<< ((32 : Int32) &&& 0x3f).toInt64) ||| (rk125.toInt64))), .second, .unset, .unset, .unset, .unset] [(.int c106), (.int r115)])) t → Steps p.tables e below (s₁.setTop (mkF m 157 #[.val (.int p1), .val (.int p2), .val (.int p3), .val (.int p4), .val (.int p5), .val (.int p6), .val (.int (p1 &&& (3 : Int32))), .val (.int (700 : Int32)), .val (.int x100), .val (.int y102), .val (.int z104), .val (.int c106), .val (.int c108), .val (.int c110), .val (.int t112), .val (.int r115), .unset, .unset, .unset, .unset, .unset, .unset, .unset] [])) t := by
            intro t kt
            show Steps p.tables e below (s₁.setTop (mkF m 157 #[.val (.int p1), .val (.int p2), .val (.int p3), .val (.int p4), .val (.int p5), .val (.int p6), .val (.int (p1 &&& (3 : Int32))), .val (.int (700 : Int32)), .val (.int x100), .val (.int y102), .val (.int z104), .val (.int c106), .val (.int c108), .val (.int c110), .val (.int t112), .val (.int r115), .unset, .unset, .unset, .unset, .unset, .unset, .unset] [])) _
            refine st117 _ ?_
            refine XS.dup X117.here hx rfl (hb hby at_160) rfl rfl ?_
            refine XS.iload X117.here hx rfl (hb hby at_161) rfl ?_
            show Steps p.tables e below (T117.setTop (mkF m 163 #[.val (.int p1), .val (.int p2), .val (.int p3), .val (.int p4), .val (.int p5), .val (.int p6), .val (.int (p1 &&& (3 : Int32))), .val (.int (700 : Int32)), .val (.int x100), .val (.int y102), .val (.int z104), .val (.int c106), .val (.int c108), .val (.int c110), .val (.int t112), .val (.int r115), .unset, .unset, .unset, .unset, .unset, .unset, .unset] [(.int (700 : Int32)), (.ref b117), (.ref b117)])) _
            refine st118.trans ?_
            refine XS.astore X118.here hx rfl (hb hby at_166) rfl rfl (l' := #[.val (.int p1), .val (.int p2), .val (.int p3), .val (.int p4), .val (.int p5), .val (.int p6), .val (.int (p1 &&& (3 : Int32))), .val (.int (700 : Int32)), .val (.int x100), .val (.int y102), .val (.int z104), .val (.int c106), .val (.int c108), .val (.int c110), .val (.int t112), .val (.int r115), .val (.ref b117), .unset, .unset, .unset, .unset, .unset, .unset]) rfl ?_
            refine XS.aload X118.here hx rfl (hb hby at_168) rfl rfl ?_
            show Steps p.tables e below (T118.setTop (mkF m 170 #[.val (.int p1), .val (.int p2), .val (.int p3), .val (.int p4), .val (.int p5), .val (.int p6), .val (.int (p1 &&& (3 : Int32))), .val (.int (700 : Int32)), .val (.int x100), .val (.int y102), .val (.int z104), .val (.int c106), .val (.int c108), .val (.int c110), .val (.int t112), .val (.int r115), .val (.ref b117), .unset, .unset, .unset, .unset, .unset, .unset] [(.ref b117)])) _
            refine XS.iload X118.here hx rfl (hb hby at_170) rfl ?_
            refine XS.iload X118.here hx rfl (hb hby at_172) rfl ?_
            show Steps p.tables e below (T118.setTop (mkF m 174 #[.val (.int p1), .val (.int p2), .val (.int p3), .val (.int p4), .val (.int p5), .val (.int p6), .val (.int (p1 &&& (3 : Int32))), .val (.int (700 : Int32)), .val (.int x100), .val (.int y102), .val (.int z104), .val (.int c106), .val (.int c108), .val (.int c110), .val (.int t112), .val (.int r115), .val (.ref b117), .unset, .unset, .unset, .unset, .unset, .unset] [(.int c106), (.int x100), (.ref b117)])) _
            refine st119.trans ?_
            refine XS.aload X119.here hx rfl (hb hby at_177) rfl rfl ?_
            refine XS.iload X119.here hx rfl (hb hby at_179) rfl ?_
            show Steps p.tables e below (T119.setTop (mkF m 181 #[.val (.int p1), .val (.int p2), .val (.int p3), .val (.int p4), .val (.int p5), .val (.int p6), .val (.int (p1 &&& (3 : Int32))), .val (.int (700 : Int32)), .val (.int x100), .val (.int y102), .val (.int z104), .val (.int c106), .val (.int c108), .val (.int c110), .val (.int t112), .val (.int r115), .val (.ref b117), .unset, .unset, .unset, .unset, .unset, .unset] [(.int y102), (.ref b117)])) _
            refine XS.iload X119.here hx rfl (hb hby at_181) rfl ?_
            show Steps p.tables e below (T119.setTop (mkF m 183 #[.val (.int p1), .val (.int p2), .val (.int p3), .val (.int p4), .val (.int p5), .val (.int p6), .val (.int (p1 &&& (3 : Int32))), .val (.int (700 : Int32)), .val (.int x100), .val (.int y102), .val (.int z104), .val (.int c106), .val (.int c108), .val (.int c110), .val (.int t112), .val (.int r115), .val (.ref b117), .unset, .unset, .unset, .unset, .unset, .unset] [(.int c108), (.int y102), (.ref b117)])) _
            refine st121.trans ?_
            refine XS.aload X121.here hx rfl (hb hby at_186) rfl rfl ?_
            refine XS.iload X121.here hx rfl (hb hby at_188) rfl ?_
            show Steps p.tables e below (T121.setTop (mkF m 190 #[.val (.int p1), .val (.int p2), .val (.int p3), .val (.int p4), .val (.int p5), .val (.int p6), .val (.int (p1 &&& (3 : Int32))), .val (.int (700 : Int32)), .val (.int x100), .val (.int y102), .val (.int z104), .val (.int c106), .val (.int c108), .val (.int c110), .val (.int t112), .val (.int r115), .val (.ref b117), .unset, .unset, .unset, .unset, .unset, .unset] [(.int z104), (.ref b117)])) _
            refine XS.iload X121.here hx rfl (hb hby at_190) rfl ?_
            show Steps p.tables e below (T121.setTop (mkF m 192 #[.val (.int p1), .val (.int p2), .val (.int p3), .val (.int p4), .val (.int p5), .val (.int p6), .val (.int (p1 &&& (3 : Int32))), .val (.int (700 : Int32)), .val (.int x100), .val (.int y102), .val (.int z104), .val (.int c106), .val (.int c108), .val (.int c110), .val (.int t112), .val (.int r115), .val (.ref b117), .unset, .unset, .unset, .unset, .unset, .unset] [(.int c110), (.int z104), (.ref b117)])) _
            refine st123.trans ?_
            refine XS.aload X123.here hx rfl (hb hby at_195) rfl rfl ?_
            refine XS.iload X123.here hx rfl (hb hby at_197) rfl ?_
            show Steps p.tables e below (T123.setTop (mkF m 199 #[.val (.int p1), .val (.int p2), .val (.int p3), .val (.int p4), .val (.int p5), .val (.int p6), .val (.int (p1 &&& (3 : Int32))), .val (.int (700 : Int32)), .val (.int x100), .val (.int y102), .val (.int z104), .val (.int c106), .val (.int c108), .val (.int c110), .val (.int t112), .val (.int r115), .val (.ref b117), .unset, .unset, .unset, .unset, .unset, .unset] [(.int r115), (.ref b117)])) _
            refine st125.trans ?_
            refine XS.lstore X125.here hx rfl (hb hby at_202) rfl (l' := #[.val (.int p1), .val (.int p2), .val (.int p3), .val (.int p4), .val (.int p5), .val (.int p6), .val (.int (p1 &&& (3 : Int32))), .val (.int (700 : Int32)), .val (.int x100), .val (.int y102), .val (.int z104), .val (.int c106), .val (.int c108), .val (.int c110), .val (.int t112), .val (.int r115), .val (.ref b117), .val (.long (((pl125.toInt64) <<< ((32 : Int32) &&& 0x3f).toInt64) ||| (rk125.toInt64))), .second, .unset, .unset, .unset, .unset]) rfl ?_
            refine XS.iload X125.here hx rfl (hb hby at_204) rfl ?_
            show Steps p.tables e below (T125.setTop (mkF m 206 #[.val (.int p1), .val (.int p2), .val (.int p3), .val (.int p4), .val (.int p5), .val (.int p6), .val (.int (p1 &&& (3 : Int32))), .val (.int (700 : Int32)), .val (.int x100), .val (.int y102), .val (.int z104), .val (.int c106), .val (.int c108), .val (.int c110), .val (.int t112), .val (.int r115), .val (.ref b117), .val (.long (((pl125.toInt64) <<< ((32 : Int32) &&& 0x3f).toInt64) ||| (rk125.toInt64))), .second, .unset, .unset, .unset, .unset] [(.int r115)])) _
            refine XS.iload X125.here hx rfl (hb hby at_206) rfl ?_
            exact kt
          obtain ⟨v129, hv129⟩ : ∃ z, z = (if r115 < c106 then x100 else (if r115 < (c106 + c108) then y102 else z104)) := ⟨_, rfl⟩
          obtain ⟨v130, hv130⟩ : ∃ z, z = (if r115 < c106 then r115 else (if r115 < (c106 + c108) then (r115 - c106) else ((r115 - c106) - c108))) := ⟨_, rfl⟩
          have c131 : ∀ t, Steps p.tables e below (T125.setTop (mkF m 260 #[.val (.int p1), .val (.int p2), .val (.int p3), .val (.int p4), .val (.int p5), .val (.int p6), .val (.int (p1 &&& (3 : Int32))), .val (.int (700 : Int32)), .val (.int x100), .val (.int y102), .val (.int z104), .val (.int c106), .val (.int c108), .val (.int c110), .val (.int t112), .val (.int r115), .val (.ref b117), .val (.long (((pl125.toInt64) <<< ((32 : Int32) &&& 0x3f).toInt64) ||| (rk125.toInt64))), .second, .val (.int v129), .val (.int v130), .unset, .unset] [])) t → Steps p.tables e below (T125.setTop (mkF m 208 #[.val (.int p1), .val (.int p2), .val (.int p3), .val (.int p4), .val (.int p5), .val (.int p6), .val (.int (p1 &&& (3 : Int32))), .val (.int (700 : Int32)), .val (.int x100), .val (.int y102), .val (.int z104), .val (.int c106), .val (.int c108), .val (.int c110), .val (.int t112), .val (.int r115), .val (.ref b117), .val (.long (((pl125.toInt64) <<< ((32 : Int32) &&& 0x3f).toInt64) ||| (rk125.toInt64))), .second, .unset, .unset, .unset, .unset] [(.int c106), (.int r115)])) t := by
            intro t kt
            by_cases j208_127 : r115 < c106
            · show Steps p.tables e below (T125.setTop (mkF m 208 #[.val (.int p1), .val (.int p2), .val (.int p3), .val (.int p4), .val (.int p5), .val (.int p6), .val (.int (p1 &&& (3 : Int32))), .val (.int (700 : Int32)), .val (.int x100), .val (.int y102), .val (.int z104), .val (.int c106), .val (.int c108), .val (.int c110), .val (.int t112), .val (.int r115), .val (.ref b117), .val (.long (((pl125.toInt64) <<< ((32 : Int32) &&& 0x3f).toInt64) ||| (rk125.toInt64))), .second, .unset, .unset, .unset, .unset] [(.int c106), (.int r115)])) _
              refine XS.icmpNo X125.here hx rfl (hb hby at_208) rfl (tlt j208_127).2.1 ?_
              refine XS.iload X125.here hx rfl (hb hby at_211) rfl ?_
              refine XS.istore X125.here hx rfl (hb hby at_213) rfl (l' := #[.val (.int p1), .val (.int p2), .val (.int p3), .val (.int p4), .val (.int p5), .val (.int p6), .val (.int (p1 &&& (3 : Int32))), .val (.int (700 : Int32)), .val (.int x100), .val (.int y102), .val (.int z104), .val (.int c106), .val (.int c108), .val (.int c110), .val (.int t112), .val (.int r115), .val (.ref b117), .val (.long (((pl125.toInt64) <<< ((32 : Int32) &&& 0x3f).toInt64) ||| (rk125.toInt64))), .second, .val (.int x100), .unset, .unset, .unset]) rfl ?_
              show Steps p.tables e below (T125.setTop (mkF m 215 #[.val (.int p1), .val (.int p2), .val (.int p3), .val (.int p4), .val (.int p5), .val (.int p6), .val (.int (p1 &&& (3 : Int32))), .val (.int (700 : Int32)), .val (.int x100), .val (.int y102), .val (.int z104), .val (.int c106), .val (.int c108), .val (.int c110), .val (.int t112), .val (.int r115), .val (.ref b117), .val (.long (((pl125.toInt64) <<< ((32 : Int32) &&& 0x3f).toInt64) ||| (rk125.toInt64))), .second, .val (.int x100), .unset, .unset, .unset] [])) _
              refine XS.iload X125.here hx rfl (hb hby at_215) rfl ?_
              refine XS.istore X125.here hx rfl (hb hby at_217) rfl (l' := #[.val (.int p1), .val (.int p2), .val (.int p3), .val (.int p4), .val (.int p5), .val (.int p6), .val (.int (p1 &&& (3 : Int32))), .val (.int (700 : Int32)), .val (.int x100), .val (.int y102), .val (.int z104), .val (.int c106), .val (.int c108), .val (.int c110), .val (.int t112), .val (.int r115), .val (.ref b117), .val (.long (((pl125.toInt64) <<< ((32 : Int32) &&& 0x3f).toInt64) ||| (rk125.toInt64))), .second, .val (.int x100), .val (.int r115), .unset, .unset]) rfl ?_
              refine XS.goto X125.here hx rfl (pc0 := 219) (pc' := 260) rfl (hb hby at_219) (by decide) (by decide) ?_
              obtain rfl : v129 = x100 := by rw [hv129, if_pos j208_127]
              obtain rfl : v130 = r115 := by rw [hv130, if_pos j208_127]
              exact kt
            · show Steps p.tables e below (T125.setTop (mkF m 208 #[.val (.int p1), .val (.int p2), .val (.int p3), .val (.int p4), .val (.int p5), .val (.int p6), .val (.int (p1 &&& (3 : Int32))), .val (.int (700 : Int32)), .val (.int x100), .val (.int y102), .val (.int z104), .val (.int c106), .val (.int c108), .val (.int c110), .val (.int t112), .val (.int r115), .val (.ref b117), .val (.long (((pl125.toInt64) <<< ((32 : Int32) &&& 0x3f).toInt64) ||| (rk125.toInt64))), .second, .unset, .unset, .unset, .unset] [(.int c106), (.int r115)])) _
              refine XS.icmpYes X125.here hx rfl (pc0 := 208) (pc' := 222) rfl (hb hby at_208) rfl (flt j208_127).2.1 (by decide) (by decide) ?_
              refine XS.iload X125.here hx rfl (hb hby at_222) rfl ?_
              refine XS.iload X125.here hx rfl (hb hby at_224) rfl ?_
              show Steps p.tables e below (T125.setTop (mkF m 226 #[.val (.int p1), .val (.int p2), .val (.int p3), .val (.int p4), .val (.int p5), .val (.int p6), .val (.int (p1 &&& (3 : Int32))), .val (.int (700 : Int32)), .val (.int x100), .val (.int y102), .val (.int z104), .val (.int c106), .val (.int c108), .val (.int c110), .val (.int t112), .val (.int r115), .val (.ref b117), .val (.long (((pl125.toInt64) <<< ((32 : Int32) &&& 0x3f).toInt64) ||| (rk125.toInt64))), .second, .unset, .unset, .unset, .unset] [(.int c106), (.int r115)])) _
              refine XS.iload X125.here hx rfl (hb hby at_226) rfl ?_
              refine XS.iadd X125.here hx rfl (hb hby at_228) rfl ?_
              by_cases j229_128 : r115 < (c106 + c108)
              · show Steps p.tables e below (T125.setTop (mkF m 229 #[.val (.int p1), .val (.int p2), .val (.int p3), .val (.int p4), .val (.int p5), .val (.int p6), .val (.int (p1 &&& (3 : Int32))), .val (.int (700 : Int32)), .val (.int x100), .val (.int y102), .val (.int z104), .val (.int c106), .val (.int c108), .val (.int c110), .val (.int t112), .val (.int r115), .val (.ref b117), .val (.long (((pl125.toInt64) <<< ((32 : Int32) &&& 0x3f).toInt64) ||| (rk125.toInt64))), .second, .unset, .unset, .unset, .unset] [(.int (c106 + c108)), (.int r115)])) _
                refine XS.icmpNo X125.here hx rfl (hb hby at_229) rfl (tlt j229_128).2.1 ?_
                refine XS.iload X125.here hx rfl (hb hby at_232) rfl ?_
                refine XS.istore X125.here hx rfl (hb hby at_234) rfl (l' := #[.val (.int p1), .val (.int p2), .val (.int p3), .val (.int p4), .val (.int p5), .val (.int p6), .val (.int (p1 &&& (3 : Int32))), .val (.int (700 : Int32)), .val (.int x100), .val (.int y102), .val (.int z104), .val (.int c106), .val (.int c108), .val (.int c110), .val (.int t112), .val (.int r115), .val (.ref b117), .val (.long (((pl125.toInt64) <<< ((32 : Int32) &&& 0x3f).toInt64) ||| (rk125.toInt64))), .second, .val (.int y102), .unset, .unset, .unset]) rfl ?_
                show Steps p.tables e below (T125.setTop (mkF m 236 #[.val (.int p1), .val (.int p2), .val (.int p3), .val (.int p4), .val (.int p5), .val (.int p6), .val (.int (p1 &&& (3 : Int32))), .val (.int (700 : Int32)), .val (.int x100), .val (.int y102), .val (.int z104), .val (.int c106), .val (.int c108), .val (.int c110), .val (.int t112), .val (.int r115), .val (.ref b117), .val (.long (((pl125.toInt64) <<< ((32 : Int32) &&& 0x3f).toInt64) ||| (rk125.toInt64))), .second, .val (.int y102), .unset, .unset, .unset] [])) _
                refine XS.iload X125.here hx rfl (hb hby at_236) rfl ?_
                refine XS.iload X125.here hx rfl (hb hby at_238) rfl ?_
                refine XS.isub X125.here hx rfl (hb hby at_240) rfl ?_
                show Steps p.tables e below (T125.setTop (mkF m 241 #[.val (.int p1), .val (.int p2), .val (.int p3), .val (.int p4), .val (.int p5), .val (.int p6), .val (.int (p1 &&& (3 : Int32))), .val (.int (700 : Int32)), .val (.int x100), .val (.int y102), .val (.int z104), .val (.int c106), .val (.int c108), .val (.int c110), .val (.int t112), .val (.int r115), .val (.ref b117), .val (.long (((pl125.toInt64) <<< ((32 : Int32) &&& 0x3f).toInt64) ||| (rk125.toInt64))), .second, .val (.int y102), .unset, .unset, .unset] [(.int (r115 - c106))])) _
                refine XS.istore X125.here hx rfl (hb hby at_241) rfl (l' := #[.val (.int p1), .val (.int p2), .val (.int p3), .val (.int p4), .val (.int p5), .val (.int p6), .val (.int (p1 &&& (3 : Int32))), .val (.int (700 : Int32)), .val (.int x100), .val (.int y102), .val (.int z104), .val (.int c106), .val (.int c108), .val (.int c110), .val (.int t112), .val (.int r115), .val (.ref b117), .val (.long (((pl125.toInt64) <<< ((32 : Int32) &&& 0x3f).toInt64) ||| (rk125.toInt64))), .second, .val (.int y102), .val (.int (r115 - c106)), .unset, .unset]) rfl ?_
                refine XS.goto X125.here hx rfl (pc0 := 243) (pc' := 260) rfl (hb hby at_243) (by decide) (by decide) ?_
                obtain rfl : v129 = y102 := by rw [hv129, if_neg j208_127, if_pos j229_128]
                obtain rfl : v130 = (r115 - c106) := by rw [hv130, if_neg j208_127, if_pos j229_128]
                exact kt
              · show Steps p.tables e below (T125.setTop (mkF m 229 #[.val (.int p1), .val (.int p2), .val (.int p3), .val (.int p4), .val (.int p5), .val (.int p6), .val (.int (p1 &&& (3 : Int32))), .val (.int (700 : Int32)), .val (.int x100), .val (.int y102), .val (.int z104), .val (.int c106), .val (.int c108), .val (.int c110), .val (.int t112), .val (.int r115), .val (.ref b117), .val (.long (((pl125.toInt64) <<< ((32 : Int32) &&& 0x3f).toInt64) ||| (rk125.toInt64))), .second, .unset, .unset, .unset, .unset] [(.int (c106 + c108)), (.int r115)])) _
                refine XS.icmpYes X125.here hx rfl (pc0 := 229) (pc' := 246) rfl (hb hby at_229) rfl (flt j229_128).2.1 (by decide) (by decide) ?_
                refine XS.iload X125.here hx rfl (hb hby at_246) rfl ?_
                refine XS.istore X125.here hx rfl (hb hby at_248) rfl (l' := #[.val (.int p1), .val (.int p2), .val (.int p3), .val (.int p4), .val (.int p5), .val (.int p6), .val (.int (p1 &&& (3 : Int32))), .val (.int (700 : Int32)), .val (.int x100), .val (.int y102), .val (.int z104), .val (.int c106), .val (.int c108), .val (.int c110), .val (.int t112), .val (.int r115), .val (.ref b117), .val (.long (((pl125.toInt64) <<< ((32 : Int32) &&& 0x3f).toInt64) ||| (rk125.toInt64))), .second, .val (.int z104), .unset, .unset, .unset]) rfl ?_
                show Steps p.tables e below (T125.setTop (mkF m 250 #[.val (.int p1), .val (.int p2), .val (.int p3), .val (.int p4), .val (.int p5), .val (.int p6), .val (.int (p1 &&& (3 : Int32))), .val (.int (700 : Int32)), .val (.int x100), .val (.int y102), .val (.int z104), .val (.int c106), .val (.int c108), .val (.int c110), .val (.int t112), .val (.int r115), .val (.ref b117), .val (.long (((pl125.toInt64) <<< ((32 : Int32) &&& 0x3f).toInt64) ||| (rk125.toInt64))), .second, .val (.int z104), .unset, .unset, .unset] [])) _
                refine XS.iload X125.here hx rfl (hb hby at_250) rfl ?_
                refine XS.iload X125.here hx rfl (hb hby at_252) rfl ?_
                refine XS.isub X125.here hx rfl (hb hby at_254) rfl ?_
                show Steps p.tables e below (T125.setTop (mkF m 255 #[.val (.int p1), .val (.int p2), .val (.int p3), .val (.int p4), .val (.int p5), .val (.int p6), .val (.int (p1 &&& (3 : Int32))), .val (.int (700 : Int32)), .val (.int x100), .val (.int y102), .val (.int z104), .val (.int c106), .val (.int c108), .val (.int c110), .val (.int t112), .val (.int r115), .val (.ref b117), .val (.long (((pl125.toInt64) <<< ((32 : Int32) &&& 0x3f).toInt64) ||| (rk125.toInt64))), .second, .val (.int z104), .unset, .unset, .unset] [(.int (r115 - c106))])) _
                refine XS.iload X125.here hx rfl (hb hby at_255) rfl ?_
                refine XS.isub X125.here hx rfl (hb hby at_257) rfl ?_
                refine XS.istore X125.here hx rfl (hb hby at_258) rfl (l' := #[.val (.int p1), .val (.int p2), .val (.int p3), .val (.int p4), .val (.int p5), .val (.int p6), .val (.int (p1 &&& (3 : Int32))), .val (.int (700 : Int32)), .val (.int x100), .val (.int y102), .val (.int z104), .val (.int c106), .val (.int c108), .val (.int c110), .val (.int t112), .val (.int r115), .val (.ref b117), .val (.long (((pl125.toInt64) <<< ((32 : Int32) &&& 0x3f).toInt64) ||| (rk125.toInt64))), .second, .val (.int z104), .val (.int ((r115 - c106) - c108)), .unset, .unset]) rfl ?_
                obtain rfl : v129 = z104 := by rw [hv129, if_neg j208_127, if_neg j229_128]
                obtain rfl : v130 = ((r115 - c106) - c108) := by rw [hv130, if_neg j208_127, if_neg j229_128]
                exact kt
          obtain ⟨fp, fw⟩ := own_final x100 y102 z104 c106 c108 c110 r115 pl125 rk125 v129 v130 M125 Rc106 Rc108 Rc110 Ry102.1 Rz104.1 Rr115.1 (by omega) I125 hv129 hv130
          obtain ⟨fs, hr, hrun, hended, hW, hsame⟩ := X125.leave (v := some (.int (1 : Int32))) (fun h => by rw [Bd.returns] at h; cases h)
          refine ⟨_, _, pre0 _ (c1 _ (c34 _ (c67 _ (c101 _ (c103 _ (c105 _ (c107 _ (c109 _ (c111 _ (c113 _ (c114 _ (c116 _ (c126 _ (c131 _ (?_))))))))))))))), hrun, hended, _, _, rfl, ?_, ⟨_, rfl⟩, hW, hsame.mono (by decide) (by decide)⟩
          · show Steps p.tables e below (T125.setTop (mkF m 260 #[.val (.int p1), .val (.int p2), .val (.int p3), .val (.int p4), .val (.int p5), .val (.int p6), .val (.int (p1 &&& (3 : Int32))), .val (.int (700 : Int32)), .val (.int x100), .val (.int y102), .val (.int z104), .val (.int c106), .val (.int c108), .val (.int c110), .val (.int t112), .val (.int r115), .val (.ref b117), .val (.long (((pl125.toInt64) <<< ((32 : Int32) &&& 0x3f).toInt64) ||| (rk125.toInt64))), .second, .val (.int v129), .val (.int v130), .unset, .unset] [])) _
            refine XS.iload X125.here hx rfl (hb hby at_260) rfl ?_
            refine XS.i2l X125.here hx rfl (hb hby at_262) rfl ?_
            refine XS.bipush X125.here hx rfl (hb hby at_263) ?_
            show Steps p.tables e below (T125.setTop (mkF m 265 #[.val (.int p1), .val (.int p2), .val (.int p3), .val (.int p4), .val (.int p5), .val (.int p6), .val (.int (p1 &&& (3 : Int32))), .val (.int (700 : Int32)), .val (.int x100), .val (.int y102), .val (.int z104), .val (.int c106), .val (.int c108), .val (.int c110), .val (.int t112), .val (.int r115), .val (.ref b117), .val (.long (((pl125.toInt64) <<< ((32 : Int32) &&& 0x3f).toInt64) ||| (rk125.toInt64))), .second, .val (.int v129), .val (.int v130), .unset, .unset] [(.int (32 : Int32)), (.long (v129.toInt64))])) _
            refine XS.lshl X125.here hx rfl (hb hby at_265) rfl ?_
            refine XS.iload X125.here hx rfl (hb hby at_266) rfl ?_
            refine XS.i2l X125.here hx rfl (hb hby at_268) rfl ?_
            show Steps p.tables e below (T125.setTop (mkF m 269 #[.val (.int p1), .val (.int p2), .val (.int p3), .val (.int p4), .val (.int p5), .val (.int p6), .val (.int (p1 &&& (3 : Int32))), .val (.int (700 : Int32)), .val (.int x100), .val (.int y102), .val (.int z104), .val (.int c106), .val (.int c108), .val (.int c110), .val (.int t112), .val (.int r115), .val (.ref b117), .val (.long (((pl125.toInt64) <<< ((32 : Int32) &&& 0x3f).toInt64) ||| (rk125.toInt64))), .second, .val (.int v129), .val (.int v130), .unset, .unset] [(.long (v130.toInt64)), (.long ((v129.toInt64) <<< ((32 : Int32) &&& 0x3f).toInt64))])) _
            refine XS.lor X125.here hx rfl (hb hby at_269) rfl ?_
            refine XS.lstore X125.here hx rfl (hb hby at_270) rfl (l' := #[.val (.int p1), .val (.int p2), .val (.int p3), .val (.int p4), .val (.int p5), .val (.int p6), .val (.int (p1 &&& (3 : Int32))), .val (.int (700 : Int32)), .val (.int x100), .val (.int y102), .val (.int z104), .val (.int c106), .val (.int c108), .val (.int c110), .val (.int t112), .val (.int r115), .val (.ref b117), .val (.long (((pl125.toInt64) <<< ((32 : Int32) &&& 0x3f).toInt64) ||| (rk125.toInt64))), .second, .val (.int v129), .val (.int v130), .val (.long (((v129.toInt64) <<< ((32 : Int32) &&& 0x3f).toInt64) ||| (v130.toInt64))), .second]) rfl ?_
            refine XS.lload X125.here hx rfl (hb hby at_272) rfl ?_
            show Steps p.tables e below (T125.setTop (mkF m 274 #[.val (.int p1), .val (.int p2), .val (.int p3), .val (.int p4), .val (.int p5), .val (.int p6), .val (.int (p1 &&& (3 : Int32))), .val (.int (700 : Int32)), .val (.int x100), .val (.int y102), .val (.int z104), .val (.int c106), .val (.int c108), .val (.int c110), .val (.int t112), .val (.int r115), .val (.ref b117), .val (.long (((pl125.toInt64) <<< ((32 : Int32) &&& 0x3f).toInt64) ||| (rk125.toInt64))), .second, .val (.int v129), .val (.int v130), .val (.long (((v129.toInt64) <<< ((32 : Int32) &&& 0x3f).toInt64) ||| (v130.toInt64))), .second] [(.long (((pl125.toInt64) <<< ((32 : Int32) &&& 0x3f).toInt64) ||| (rk125.toInt64)))])) _
            refine XS.lload X125.here hx rfl (hb hby at_274) rfl ?_
            refine XS.lcmp X125.here hx rfl (hb hby at_276) rfl ?_
            refine XS.ifNo X125.here hx rfl (hb hby at_277) rfl ((if0 _ _).trans (teq (by rw [fp, fw]; simp [lcmpW] : (lcmpW (((pl125.toInt64) <<< ((32 : Int32) &&& 0x3f).toInt64) ||| (rk125.toInt64)) (((v129.toInt64) <<< ((32 : Int32) &&& 0x3f).toInt64) ||| (v130.toInt64))) = (0 : Int32))).2) ?_
            show Steps p.tables e below (T125.setTop (mkF m 280 #[.val (.int p1), .val (.int p2), .val (.int p3), .val (.int p4), .val (.int p5), .val (.int p6), .val (.int (p1 &&& (3 : Int32))), .val (.int (700 : Int32)), .val (.int x100), .val (.int y102), .val (.int z104), .val (.int c106), .val (.int c108), .val (.int c110), .val (.int t112), .val (.int r115), .val (.ref b117), .val (.long (((pl125.toInt64) <<< ((32 : Int32) &&& 0x3f).toInt64) ||| (rk125.toInt64))), .second, .val (.int v129), .val (.int v130), .val (.long (((v129.toInt64) <<< ((32 : Int32) &&& 0x3f).toInt64) ||| (v130.toInt64))), .second] [])) _
            refine XS.iconst X125.here hx rfl (hb hby at_280) ?_
            refine XS.goto X125.here hx rfl (pc0 := 281) (pc' := 285) rfl (hb hby at_281) (by decide) (by decide) ?_
            show Steps p.tables e below (T125.setTop (mkF m 285 #[.val (.int p1), .val (.int p2), .val (.int p3), .val (.int p4), .val (.int p5), .val (.int p6), .val (.int (p1 &&& (3 : Int32))), .val (.int (700 : Int32)), .val (.int x100), .val (.int y102), .val (.int z104), .val (.int c106), .val (.int c108), .val (.int c110), .val (.int t112), .val (.int r115), .val (.ref b117), .val (.long (((pl125.toInt64) <<< ((32 : Int32) &&& 0x3f).toInt64) ||| (rk125.toInt64))), .second, .val (.int v129), .val (.int v130), .val (.long (((v129.toInt64) <<< ((32 : Int32) &&& 0x3f).toInt64) ||| (v130.toInt64))), .second] [(.int (1 : Int32))])) _
            exact retN X125 hx (t := .boolean) Bd.returns (by simp) (hb hby at_285) hr
          · show Qrm0 Z p1 p2 p3 p4 p5 p6 h0 n0 _ T125.heap _
            rw [e125]
            exact ⟨rfl, N125⟩
set_option maxRecDepth 65536 in
set_option maxHeartbeats 40000000 in
theorem comes_1 {Post : Tables → Env → Array Value → State → Outcome → State → Prop} (hpost : ∀ tb e args s v u, (limb_1_1.after args s (.returned v) u = true ∧ limb_1_2.after args s (.returned v) u = true ∧ True) → FrameEnd s (.returned v) u (Jvm.fieldLocs frame_1_writes args s ++ Jvm.arrayLocs frame_1_arrays args s ++ Jvm.staticLocs frame_1_statics s) 16 2176 → Post tb e args s (.returned v) u) :
    ArmFor flags0 classFile x code maxLocals ret World_1 tables_1 room_1 Calls_1 rest_1 Pre_1 Post := by
  intro l hfl _ _ p e ha hc hk s m args below hf hA hF happ hP
  obtain ⟨hcalls, hrest, hpre⟩ := hP
  obtain ⟨-, -, -, hnamed, -, -, -, hat⟩ := (Spec.applies_iff hf).mp happ
  obtain ⟨hg, hn⟩ := and_e (Cond.before_iff.mp (show (Jvm.Cond.and given_1 narrow_1).before args s = true from hpre))
  obtain ⟨gc, r0⟩ := and_e hg
  obtain ⟨g0, r1⟩ := and_e r0
  obtain ⟨g1, r2⟩ := and_e r1
  obtain ⟨g2, r3⟩ := and_e r2
  obtain ⟨g3, r4⟩ := and_e r3
  obtain ⟨g4, r5⟩ := and_e r4
  have g5 := r5
  obtain ⟨w0, w1, w2, w3, w4, w5, rfl⟩ : ∃ w0 w1 w2 w3 w4 w5 : Value, args = #[w0, w1, w2, w3, w4, w5] := by
    have hs : args.size = 6 := by simpa [Cond.value, given_1] using gc
    obtain ⟨L⟩ := args
    match L, hs with
    | [w0, w1, w2, w3, w4, w5], _ => exact ⟨w0, w1, w2, w3, w4, w5, rfl⟩
  have hw := fun d (hd : d ∈ tables_1) => atoms_spec (ws := Jvm.Cond.code x code maxLocals ret :: tables_1) hat d (List.mem_cons_of_mem _ hd)
  have hfit : Fit s := fun {y c} hc i hi => by
    obtain ⟨ha, rfl⟩ := Array.getElem?_eq_some_iff.mp hc
    have q := List.all_eq_true.mp ((Array.all_eq_true_iff_forall_mem.mp hF) _ (Array.getElem_mem ha)) i (List.mem_range.mpr hi)
    simpa [Array.getElem?_eq_getElem hi] using q
  obtain ⟨i0, ei0⟩ := is_v g0
  obtain rfl : w0 = (.int i0) := Option.some.inj ei0
  obtain ⟨i1, ei1⟩ := is_v g1
  obtain rfl : w1 = (.int i1) := Option.some.inj ei1
  obtain ⟨i2, ei2⟩ := is_v g2
  obtain rfl : w2 = (.int i2) := Option.some.inj ei2
  obtain ⟨i3, ei3⟩ := is_v g3
  obtain rfl : w3 = (.int i3) := Option.some.inj ei3
  obtain ⟨i4, ei4⟩ := is_v g4
  obtain rfl : w4 = (.int i4) := Option.some.inj ei4
  obtain ⟨i5, ei5⟩ := is_v g5
  obtain rfl : w5 = (.int i5) := Option.some.inj ei5
  obtain ⟨n, o, h1, h2, h3, _, L, rfl, ⟨rfl, N⟩, hq⟩ := rm0 l s _ hw tables_1 i0 i1 i2 i3 i4 i5 s.heap s.heap.size (Nat.le_refl _) (Nat.le_refl _) p e ha hc hk s m _ below hf ((Spec.applies_iff_loose hf).mp happ).1 ⟨rfl, State.Warmed39.refl s, rfl⟩ trivial
  refine ⟨n, _, h1, h2, h3, hpost _ _ _ _ _ _ ⟨Cond.after_iff.mpr rfl, Cond.after_iff.mpr (eq_i res_at (Term.int_eval (1)) rfl), trivial⟩ ⟨hq.1, hq.2.1, (hq.2.2.sift fun y hy => Or.inr (N y hy)).mono (by decide) (by decide)⟩⟩
theorem main_1_1 : Claimed_1_1 := comes_1 fun _ _ _ _ _ _ h hF => ⟨h.1, hF⟩
theorem main_1_2 : Claimed_1_2 := comes_1 fun _ _ _ _ _ _ h hF => ⟨h.2.1, hF⟩
end Jvm.Pilot.@@N@@
namespace Jvm.Pilot.@@N@@
open Jvm Jvm.ClassFile Sem Op Lib Jvm.Free Jvm.Stand Jvm.Pilot.@@N@@.Jvm.D
/-! MADE BY PROGRAM (witnessworld.py) out of the Statement's table words and the real class files: 14 classes; the members and pool entries that the words name. The judged class is class 1, her method 1. -/
namespace start1
open Jvm.ClassFile
def u (s : String) : CpInfo := .utf8 (stringToUtf16 s)
/-- a pool by its gaps: so many unusable entries, then the entry; so many at the end -/
def gap : Nat → List CpInfo → List CpInfo
  | 0, r => r
  | n + 1, r => .unusable :: gap n r
def poolList (es : List (Nat × CpInfo)) (last : Nat) : List CpInfo := es.foldr (fun e r => gap e.1 (e.2 :: r)) (gap last [])
def pool (es : List (Nat × CpInfo)) (last : Nat) : Array CpInfo := ⟨poolList es last⟩
def fileOf (pool : Array CpInfo) (this : Nat) (attrs : Array Attribute := #[]) (ms : Array MethodInfo := #[]) (fl : Nat := 33) (sup : Nat := 0) (ifs : Array Nat := #[]) (fds : Array FieldInfo := #[]) : ClassFile where
  minorVersion := 0
  majorVersion := 65
  constantPool := pool
  accessFlags := fl
  thisClass := this
  superClass := sup
  interfaces := ifs
  fields := fds
  methods := ms
  attributes := attrs
def plain (name : String) (sup : Option ClassId) : Class where
  name := name
  kind := .ordinary
  loader := none
  accessFlags := 33
  super := sup
  interfaces := #[]
  cf := none
  fields := #[]
  methods := #[]
  instanceTypes := #[]
  staticTypes := #[]
  resolved := #[]
  callSites := []
  init := .initialized
  statics := none
  mirror := none

def pool0 : Array CpInfo := pool [(5, u "<init>"), (0, u "()V"), (1, .class_ 10), (1, u "java/lang/Object")] 113

def k0c0 : Code := { maxStack := 0, maxLocals := 1, code := object_method_1_code, exceptionTable := #[], attributes := #[] }
def k0m0 : Method := { name := "<init>", desc := "()V", sig := { parameters := [], returnType := none }, accessFlags := 1, code := some k0c0 }
/-- java/lang/Object -/
def k0 : Class := { plain "java/lang/Object" none with
  accessFlags := 33
  interfaces := #[]
  cf := some (fileOf pool0 8 #[] #[{ accessFlags := 1, nameIndex := 5, descriptorIndex := 6, attributes := #[] }] 33 0 #[] #[])
  fields := #[]
  methods := #[k0m0]
  instanceTypes := #[]
  staticTypes := #[]
  resolved := Array.replicate 124 none
  statics := none }

def pool1 : Array CpInfo := pool [(2, .class_ 4), (1, u "java/lang/Object"), (0, u "<init>"), (0, u "()V"), (0, .integer 2147483647), (0, .class_ 9), (0, u "com/example/ebbtide/ebbtide/cluster/PlaceCounts"), (0, .methodref 8 11), (0, .nameAndType 5 12), (0, u "(I)V"), (0, .methodref 8 14), (0, .nameAndType 15 16), (0, u "add"), (0, u "(II)V"), (0, .methodref 8 18), (0, .nameAndType 19 20), (0, u "locate"), (0, u "(I)J"), (0, .class_ 22), (0, u "com/example/ebbtide/ebbtide/cluster/PlaceCountsLocatePinLaw"), (2, u "law"), (0, u "(IIIIII)Z")] 3

def k1m0 : Method := { name := "<init>", desc := "()V", sig := { parameters := [], returnType := none }, accessFlags := 1, code := none }
def k1c1 : Code := { maxStack := 4, maxLocals := 23, code := code, exceptionTable := #[], attributes := #[] }
def k1m1 : Method := { name := "law", desc := "(IIIIII)Z", sig := { parameters := [.int, .int, .int, .int, .int, .int], returnType := some .boolean }, accessFlags := 9, code := some k1c1 }
/-- com/example/ebbtide/ebbtide/cluster/PlaceCountsLocatePinLaw -/
def k1 : Class := { plain "com/example/ebbtide/ebbtide/cluster/PlaceCountsLocatePinLaw" (some 0) with
  accessFlags := 49
  interfaces := #[]
  cf := some (fileOf pool1 21 #[] #[{ accessFlags := 1, nameIndex := 5, descriptorIndex := 6, attributes := #[] }, { accessFlags := 9, nameIndex := 25, descriptorIndex := 26, attributes := #[] }] 49 2 #[] #[])
  fields := #[]
  methods := #[k1m0, k1m1]
  instanceTypes := #[]
  staticTypes := #[]
  resolved := Array.replicate 30 none
  statics := none }

def pool2 : Array CpInfo := pool [(1, .methodref 2 3), (0, .class_ 4), (0, .nameAndType 5 6), (0, u "java/lang/Object"), (0, u "<init>"), (0, u "()V"), (0, .class_ 8), (0, u "com/example/ebbtide/ebbtide/cluster/PlaceCounts"), (0, .fieldref 7 10), (0, .nameAndType 11 12), (0, u "top"), (0, u "I"), (0, .methodref 14 15), (0, .class_ 16), (0, .nameAndType 17 18), (0, u "java/lang/Integer"), (0, u "highestOneBit"), (0, u "(I)I"), (0, .fieldref 7 20), (0, .nameAndType 21 22), (0, u "sums"), (0, u "[I"), (0, .fieldref 7 24), (0, .nameAndType 25 12), (0, u "total"), (0, u "FEW"), (2, u "(I)V"), (4, u "add"), (0, u "(II)V"), (1, u "locate"), (0, u "(I)J")] 5

def k2c0 : Code := { maxStack := 3, maxLocals := 2, code := prog_77_method_1_code, exceptionTable := #[], attributes := #[] }
def k2m0 : Method := { name := "<init>", desc := "(I)V", sig := { parameters := [.int], returnType := none }, accessFlags := 0, code := some k2c0 }
def k2c1 : Code := { maxStack := 4, maxLocals := 4, code := prog_77_method_3_code, exceptionTable := #[], attributes := #[] }
def k2m1 : Method := { name := "add", desc := "(II)V", sig := { parameters := [.int, .int], returnType := none }, accessFlags := 0, code := some k2c1 }
def k2c2 : Code := { maxStack := 4, maxLocals := 6, code := prog_77_method_5_code, exceptionTable := #[], attributes := #[] }
def k2m2 : Method := { name := "locate", desc := "(I)J", sig := { parameters := [.int], returnType := some .long }, accessFlags := 0, code := some k2c2 }
/-- com/example/ebbtide/ebbtide/cluster/PlaceCounts -/
def k2 : Class := { plain "com/example/ebbtide/ebbtide/cluster/PlaceCounts" (some 0) with
  accessFlags := 48
  interfaces := #[]
  cf := some (fileOf pool2 7 #[] #[{ accessFlags := 0, nameIndex := 5, descriptorIndex := 29, attributes := #[] }, { accessFlags := 0, nameIndex := 34, descriptorIndex := 35, attributes := #[] }, { accessFlags := 0, nameIndex := 37, descriptorIndex := 38, attributes := #[] }] 48 2 #[] #[{ accessFlags := 26, nameIndex := 26, descriptorIndex := 12, attributes := #[] }, { accessFlags := 18, nameIndex := 21, descriptorIndex := 22, attributes := #[] }, { accessFlags := 18, nameIndex := 11, descriptorIndex := 12, attributes := #[] }, { accessFlags := 2, nameIndex := 25, descriptorIndex := 12, attributes := #[] }])
  fields := #[{ name := "FEW", type := .int, accessFlags := 26, slot := 0, constantValue := 0 }, { name := "sums", type := (.array .int), accessFlags := 18, slot := 0, constantValue := 0 }, { name := "top", type := .int, accessFlags := 18, slot := 1, constantValue := 0 }, { name := "total", type := .int, accessFlags := 2, slot := 2, constantValue := 0 }]
  methods := #[k2m0, k2m1, k2m2]
  instanceTypes := #[(.array .int), .int, .int]
  staticTypes := #[.int]
  resolved := Array.replicate 44 none
  statics := none }

def pool3 : Array CpInfo := pool [(1, .class_ 2), (0, u "java/io/Serializable"), (0, .class_ 4), (0, u "java/lang/Object")] 2

/-- java/io/Serializable -/
def k3 : Class := { plain "java/io/Serializable" (some 0) with
  accessFlags := 1537
  interfaces := #[]
  cf := some (fileOf pool3 1 #[] #[] 1537 3 #[] #[])
  fields := #[]
  methods := #[]
  instanceTypes := #[]
  staticTypes := #[]
  resolved := Array.replicate 7 none
  statics := none }

def pool4 : Array CpInfo := pool [(2, .class_ 4), (1, u "java/lang/Object"), (0, u "<init>"), (0, u "()V"), (1, .class_ 10), (1, u "java/lang/Number"), (2, .class_ 14), (0, u "java/io/Serializable"), (0, u "serialVersionUID"), (0, u "J")] 20

def k4m0 : Method := { name := "<init>", desc := "()V", sig := { parameters := [], returnType := none }, accessFlags := 1, code := none }
/-- java/lang/Number -/
def k4 : Class := { plain "java/lang/Number" (some 0) with
  accessFlags := 1057
  interfaces := #[3]
  cf := some (fileOf pool4 8 #[] #[{ accessFlags := 1, nameIndex := 5, descriptorIndex := 6, attributes := #[] }] 1057 2 #[13] #[{ accessFlags := 26, nameIndex := 15, descriptorIndex := 16, attributes := #[] }])
  fields := #[{ name := "serialVersionUID", type := .long, accessFlags := 26, slot := 0, constantValue := 0 }]
  methods := #[k4m0]
  instanceTypes := #[]
  staticTypes := #[.long]
  resolved := Array.replicate 37 none
  statics := none }

def pool5 : Array CpInfo := pool [(1, .class_ 2), (0, u "java/lang/Comparable"), (0, .class_ 4), (0, u "java/lang/Object")] 7

/-- java/lang/Comparable -/
def k5 : Class := { plain "java/lang/Comparable" (some 0) with
  accessFlags := 1537
  interfaces := #[]
  cf := some (fileOf pool5 1 #[] #[] 1537 3 #[] #[])
  fields := #[]
  methods := #[]
  instanceTypes := #[]
  staticTypes := #[]
  resolved := Array.replicate 12 none
  statics := none }

def pool6 : Array CpInfo := pool [(1, .class_ 2), (0, u "java/lang/constant/Constable"), (0, .class_ 4), (0, u "java/lang/Object")] 6

/-- java/lang/constant/Constable -/
def k6 : Class := { plain "java/lang/constant/Constable" (some 0) with
  accessFlags := 1537
  interfaces := #[]
  cf := some (fileOf pool6 1 #[] #[] 1537 3 #[] #[])
  fields := #[]
  methods := #[]
  instanceTypes := #[]
  staticTypes := #[]
  resolved := Array.replicate 11 none
  statics := none }

def pool7 : Array CpInfo := pool [(1, .class_ 2), (0, u "java/lang/constant/ConstantDesc"), (0, .class_ 4), (0, u "java/lang/Object")] 32

/-- java/lang/constant/ConstantDesc -/
def k7 : Class := { plain "java/lang/constant/ConstantDesc" (some 0) with
  accessFlags := 1537
  interfaces := #[]
  cf := some (fileOf pool7 1 #[] #[] 1537 3 #[] #[])
  fields := #[]
  methods := #[]
  instanceTypes := #[]
  staticTypes := #[]
  resolved := Array.replicate 37 none
  statics := none }

def pool8 : Array CpInfo := pool [(1, .class_ 2), (0, u "java/lang/Integer"), (16, u "digits"), (0, u "[C"), (30, .methodref 1 52), (0, .nameAndType 53 54), (0, u "numberOfLeadingZeros"), (0, u "(I)I"), (30, u "DigitOnes"), (0, u "[B"), (2, u "DigitTens"), (37, .integer 2147483648), (61, .class_ 190), (0, u "java/lang/Integer$IntegerCache"), (3, u "I"), (8, .class_ 204), (0, u "java/lang/Number"), (2, u "value"), (56, .integer 65536), (37, u "TYPE"), (0, u "Ljava/lang/Class;"), (0, .class_ 305), (0, u "java/lang/Comparable"), (0, .class_ 307), (0, u "java/lang/constant/Constable"), (0, .class_ 309), (0, u "java/lang/constant/ConstantDesc"), (0, u "MIN_VALUE"), (1, u "MAX_VALUE"), (3, u "SIZE"), (1, u "BYTES"), (1, u "serialVersionUID"), (0, u "J"), (81, u "highestOneBit")] 49

def k8c0 : Code := { maxStack := 3, maxLocals := 1, code := jdk_33_method_45_code, exceptionTable := #[], attributes := #[] }
def k8m0 : Method := { name := "highestOneBit", desc := "(I)I", sig := { parameters := [.int], returnType := some .int }, accessFlags := 9, code := some k8c0 }
def k8c1 : Code := { maxStack := 3, maxLocals := 2, code := jdk_33_method_47_code, exceptionTable := #[], attributes := #[] }
def k8m1 : Method := { name := "numberOfLeadingZeros", desc := "(I)I", sig := { parameters := [.int], returnType := some .int }, accessFlags := 9, code := some k8c1 }
/-- java/lang/Integer -/
def k8 : Class := { plain "java/lang/Integer" (some 4) with
  accessFlags := 49
  interfaces := #[5, 6, 7]
  cf := some (fileOf pool8 1 #[.nestMembers #[189]] #[{ accessFlags := 9, nameIndex := 403, descriptorIndex := 54, attributes := #[] }, { accessFlags := 9, nameIndex := 53, descriptorIndex := 54, attributes := #[] }] 49 203 #[304, 306, 308] #[{ accessFlags := 25, nameIndex := 310, descriptorIndex := 194, attributes := #[] }, { accessFlags := 25, nameIndex := 312, descriptorIndex := 194, attributes := #[] }, { accessFlags := 25, nameIndex := 302, descriptorIndex := 303, attributes := #[] }, { accessFlags := 24, nameIndex := 19, descriptorIndex := 20, attributes := #[] }, { accessFlags := 24, nameIndex := 89, descriptorIndex := 86, attributes := #[] }, { accessFlags := 24, nameIndex := 85, descriptorIndex := 86, attributes := #[] }, { accessFlags := 18, nameIndex := 207, descriptorIndex := 194, attributes := #[] }, { accessFlags := 25, nameIndex := 316, descriptorIndex := 194, attributes := #[] }, { accessFlags := 25, nameIndex := 318, descriptorIndex := 194, attributes := #[] }, { accessFlags := 26, nameIndex := 320, descriptorIndex := 321, attributes := #[] }])
  fields := #[{ name := "MIN_VALUE", type := .int, accessFlags := 25, slot := 0, constantValue := 0 }, { name := "MAX_VALUE", type := .int, accessFlags := 25, slot := 1, constantValue := 0 }, { name := "TYPE", type := (.object "java/lang/Class"), accessFlags := 25, slot := 2, constantValue := 0 }, { name := "digits", type := (.array .char), accessFlags := 24, slot := 3, constantValue := 0 }, { name := "DigitTens", type := (.array .byte), accessFlags := 24, slot := 4, constantValue := 0 }, { name := "DigitOnes", type := (.array .byte), accessFlags := 24, slot := 5, constantValue := 0 }, { name := "value", type := .int, accessFlags := 18, slot := 0, constantValue := 0 }, { name := "SIZE", type := .int, accessFlags := 25, slot := 6, constantValue := 0 }, { name := "BYTES", type := .int, accessFlags := 25, slot := 7, constantValue := 0 }, { name := "serialVersionUID", type := .long, accessFlags := 26, slot := 8, constantValue := 0 }]
  methods := #[k8m0, k8m1]
  instanceTypes := #[.int]
  staticTypes := #[.int, .int, (.object "java/lang/Class"), (.array .char), (.array .byte), (.array .byte), .int, .int, .long]
  resolved := Array.replicate 453 none
  statics := none }

def pool9 : Array CpInfo := pool [(1, u "java/lang/Cloneable"), (0, .class_ 1), (0, u "java/lang/Object"), (0, .class_ 3)] 3

/-- java/lang/Cloneable -/
def k9 : Class := { plain "java/lang/Cloneable" (some 0) with
  accessFlags := 1537
  interfaces := #[]
  cf := some (fileOf pool9 2 #[] #[] 1537 4 #[] #[])
  fields := #[]
  methods := #[]
  instanceTypes := #[]
  staticTypes := #[]
  resolved := Array.replicate 8 none
  statics := none }

/-- the primitive byte -/
def k10 : Class := { plain "byte" none with kind := .primitive 'B', accessFlags := 0x411 }
/-- [B -/
def k11 : Class := { plain "[B" (some 0) with kind := .array 10 .byte, interfaces := #[9, 3], accessFlags := 1041 }

/-- the primitive int -/
def k12 : Class := { plain "int" none with kind := .primitive 'I', accessFlags := 0x411 }
/-- [I -/
def k13 : Class := { plain "[I" (some 0) with kind := .array 12 .int, interfaces := #[9, 3], accessFlags := 1041 }

def heap : Heap := #[]
def classes : Array Class := #[k0, k1, k2, k3, k4, k5, k6, k7, k8, k9, k10, k11, k12, k13]
def interned : List (Array UInt16 × Addr) := []
def slotsUsed : Nat := 0
def theMethod : MethodId := ⟨1, 1⟩
def args0 : Array Value := #[.int 5, .int 5, .int 5, .int 5, .int 5, .int 5]
def aboutOver (below : List Frame) : State where
  vm := { classes := classes, interned := interned.toArray }
  heap := heap
  slotsUsed := slotsUsed
  threads := #[{ frames := .invoking theMethod args0 :: below }]
def below0 : List Frame := [.native { method := ⟨0, 0⟩, args := #[] }]
def about1 : State := aboutOver below0
def p0 : Program := .bare "" "" ""
def e0 : Env := launch0.env 0 0 0
theorem w_frames : about1.frames = Frame.invoking theMethod args0 :: below0 := rfl
set_option maxRecDepth 65536 in
theorem w_args : argsFit about1.vm theMethod args0 = true := by decide +kernel
set_option maxRecDepth 65536 in
theorem w_heap : heapFits about1 = true := by decide +kernel
set_option maxRecDepth 65536 in
theorem w_runnable : about1.curStatus? = some .runnable := by decide +kernel
set_option maxRecDepth 65536 in
theorem w_alone : about1.alone = true := by decide +kernel
set_option maxRecDepth 65536 in
theorem w_named : about1.methodNamed? x = some theMethod := by decide +kernel
set_option maxRecDepth 65536 in
theorem w_hears : about1.hears theMethod below0 = true := by decide +kernel
set_option maxRecDepth 65536 in
theorem w_ripe : about1.ripe theMethod args0 below0 = true := by decide +kernel
theorem w_running : about1.status = .running := rfl
set_option maxRecDepth 65536 in
theorem w_room : about1.hasRoom e0.platform room_1 = true :=
  launch0.hasRoom_least _ room_1 (by decide +kernel) (by decide +kernel) (by decide +kernel) (by decide +kernel) (by decide +kernel) (by decide +kernel)
theorem allAtoms_all (ts : List Jvm.Cond) (a : Array Jvm.Value) (st : Jvm.State) : (allAtoms ts).before a st = ts.all (fun c => c.before a st) := by
  induction ts with
  | nil => rfl
  | cons c t ih =>
    show (Jvm.Cond.and c (allAtoms t)).before a st = _
    rw [Jvm.Cond.before_and, ih, List.all_cons]
def words1 : List Jvm.Cond := Jvm.Cond.code x code maxLocals ret :: tables_1
/-- a 'code' word, met by the world's own term for the bytes: nothing is compared byte by byte -/
theorem code_word {y : MethodName} {bytes : ByteArray} {mx : Nat} {rt : Option FieldType} {a : Array Value} {s : State} {m : MethodId} {meth : Method} {c : Code} (h1 : s.methodNamed? y = some m) (h2 : s.vm.method? m = some meth) (h3 : meth.code = some c) (h4 : c.code = bytes)
    (h5 : (c.maxLocals == mx && c.exceptionTable.isEmpty && decide (c.maxStack ≤ mostOperands) && decide (meth.sig.returnType = rt) && !meth.locks && decide (parseMethodDescriptor y.desc = some meth.sig)) = true) : (Jvm.Cond.code y bytes mx rt).before a s = true := by
  simp only [Bool.and_eq_true, beq_iff_eq, Bool.not_eq_true', decide_eq_true_eq] at h5
  obtain ⟨⟨⟨⟨⟨g1, g2⟩, g3⟩, g4⟩, g5⟩, g6⟩ := h5
  simp [Cond.before, Cond.holds, Cond.value, h1, h2, h3, h4, g1, g2, g3, g4, g5, g6]
def isCode : Jvm.Cond → Bool
  | .code _ _ _ _ => true
  | _ => false
theorem all_split {L : List Jvm.Cond} {P : Jvm.Cond → Bool} (h1 : L.all (fun c => isCode c || P c) = true) (h2 : ∀ c ∈ L.filter isCode, P c = true) : L.all P = true := by
  refine List.all_eq_true.mpr fun c hc => ?_
  have h := List.all_eq_true.mp h1 c hc
  rcases Bool.eq_false_or_eq_true (isCode c) with hi | hi
  · exact h2 c (List.mem_filter.mpr ⟨hc, hi⟩)
  · simpa [hi] using h
set_option maxRecDepth 65536 in
theorem w_c0 : (Jvm.Cond.code x code maxLocals ret).before args0 about1 = true := code_word (m := ⟨1, 1⟩) (meth := k1m1) (c := k1c1) (by decide +kernel) rfl rfl rfl (by decide +kernel)
set_option maxRecDepth 65536 in
theorem w_c1 : (Jvm.Cond.code ({ cls := "com/example/ebbtide/ebbtide/cluster/PlaceCounts", name := "<init>", desc := "(I)V" } : Jvm.MethodName) prog_77_method_1_code (2 : Nat) (Option.none : Option Jvm.ClassFile.FieldType)).before args0 about1 = true := code_word (m := ⟨2, 0⟩) (meth := k2m0) (c := k2c0) (by decide +kernel) rfl rfl rfl (by decide +kernel)
set_option maxRecDepth 65536 in
theorem w_c2 : (Jvm.Cond.code ({ cls := "java/lang/Object", name := "<init>", desc := "()V" } : Jvm.MethodName) object_method_1_code (1 : Nat) (Option.none : Option Jvm.ClassFile.FieldType)).before args0 about1 = true := code_word (m := ⟨0, 0⟩) (meth := k0m0) (c := k0c0) (by decide +kernel) rfl rfl rfl (by decide +kernel)
set_option maxRecDepth 65536 in
theorem w_c3 : (Jvm.Cond.code ({ cls := "com/example/ebbtide/ebbtide/cluster/PlaceCounts", name := "add", desc := "(II)V" } : Jvm.MethodName) prog_77_method_3_code (4 : Nat) (Option.none : Option Jvm.ClassFile.FieldType)).before args0 about1 = true := code_word (m := ⟨2, 1⟩) (meth := k2m1) (c := k2c1) (by decide +kernel) rfl rfl rfl (by decide +kernel)
set_option maxRecDepth 65536 in
theorem w_c4 : (Jvm.Cond.code ({ cls := "com/example/ebbtide/ebbtide/cluster/PlaceCounts", name := "locate", desc := "(I)J" } : Jvm.MethodName) prog_77_method_5_code (6 : Nat) (Option.some Jvm.ClassFile.FieldType.long)).before args0 about1 = true := code_word (m := ⟨2, 2⟩) (meth := k2m2) (c := k2c2) (by decide +kernel) rfl rfl rfl (by decide +kernel)
set_option maxRecDepth 65536 in
theorem w_c5 : (Jvm.Cond.code ({ cls := "java/lang/Integer", name := "highestOneBit", desc := "(I)I" } : Jvm.MethodName) jdk_33_method_45_code (1 : Nat) (Option.some Jvm.ClassFile.FieldType.int)).before args0 about1 = true := code_word (m := ⟨8, 0⟩) (meth := k8m0) (c := k8c0) (by decide +kernel) rfl rfl rfl (by decide +kernel)
set_option maxRecDepth 65536 in
theorem w_c6 : (Jvm.Cond.code ({ cls := "java/lang/Integer", name := "numberOfLeadingZeros", desc := "(I)I" } : Jvm.MethodName) jdk_33_method_47_code (2 : Nat) (Option.some Jvm.ClassFile.FieldType.int)).before args0 about1 = true := code_word (m := ⟨8, 1⟩) (meth := k8m1) (c := k8c1) (by decide +kernel) rfl rfl rfl (by decide +kernel)
def codes1 : List Jvm.Cond := [Jvm.Cond.code x code maxLocals ret, Jvm.Cond.code ({ cls := "com/example/ebbtide/ebbtide/cluster/PlaceCounts", name := "<init>", desc := "(I)V" } : Jvm.MethodName) prog_77_method_1_code (2 : Nat) (Option.none : Option Jvm.ClassFile.FieldType), Jvm.Cond.code ({ cls := "java/lang/Object", name := "<init>", desc := "()V" } : Jvm.MethodName) object_method_1_code (1 : Nat) (Option.none : Option Jvm.ClassFile.FieldType), Jvm.Cond.code ({ cls := "com/example/ebbtide/ebbtide/cluster/PlaceCounts", name := "add", desc := "(II)V" } : Jvm.MethodName) prog_77_method_3_code (4 : Nat) (Option.none : Option Jvm.ClassFile.FieldType), Jvm.Cond.code ({ cls := "com/example/ebbtide/ebbtide/cluster/PlaceCounts", name := "locate", desc := "(I)J" } : Jvm.MethodName) prog_77_method_5_code (6 : Nat) (Option.some Jvm.ClassFile.FieldType.long), Jvm.Cond.code ({ cls := "java/lang/Integer", name := "highestOneBit", desc := "(I)I" } : Jvm.MethodName) jdk_33_method_45_code (1 : Nat) (Option.some Jvm.ClassFile.FieldType.int), Jvm.Cond.code ({ cls := "java/lang/Integer", name := "numberOfLeadingZeros", desc := "(I)I" } : Jvm.MethodName) jdk_33_method_47_code (2 : Nat) (Option.some Jvm.ClassFile.FieldType.int)]
set_option maxRecDepth 65536 in
theorem codes_eq : words1.filter isCode = codes1 := rfl
theorem w_codes : ∀ c ∈ words1.filter isCode, c.before args0 about1 = true := by
  rw [codes_eq]
  intro c hc
  simp only [codes1, List.mem_cons, List.not_mem_nil, or_false] at hc
  rcases hc with rfl | rfl | rfl | rfl | rfl | rfl | rfl
  · exact w_c0
  · exact w_c1
  · exact w_c2
  · exact w_c3
  · exact w_c4
  · exact w_c5
  · exact w_c6
set_option maxRecDepth 65536 in
theorem w_t1 : (words1.take 24).all (fun c => isCode c || c.before args0 about1) = true := by decide +kernel
set_option maxRecDepth 65536 in
theorem w_t2 : (words1.drop 24).all (fun c => isCode c || c.before args0 about1) = true := by decide +kernel
theorem w_tables : (allAtoms (Jvm.Cond.code x code maxLocals ret :: tables_1)).before args0 about1 = true := by
  rw [allAtoms_all]
  show words1.all (fun c => c.before args0 about1) = true
  refine all_split ?_ w_codes
  rw [← List.take_append_drop 24 words1, List.all_append, w_t1, w_t2]
  rfl
set_option maxRecDepth 65536 in
theorem w_case : (Jvm.Cond.and given_1 narrow_1).before args0 about1 = true := by decide +kernel
theorem w_applies : (headSpec (Jvm.Cond.code x code maxLocals ret :: tables_1) room_1).applies x e0.platform about1 = true :=
  (Spec.applies_iff w_frames).mpr ⟨w_running, w_runnable, w_alone, w_named, w_hears, w_ripe, w_room, w_tables⟩
theorem atStart : AtStart classFile x code maxLocals ret World_1 tables_1 room_1 Calls_1 rest_1 Pre_1 launch0 p0 e0 about1 theMethod args0 below0 :=
  ⟨lists_1, trivial, launch0.admits_env _ _ _, launch0.least_env, fairChoices_fair.cas, fairChoices_fair.clock, w_frames, w_args, w_heap, w_applies, trivial, trivial, w_case⟩
end start1
theorem witness_1 : WitnessClaimed_1 := ⟨start1.p0, start1.e0, start1.about1, start1.theMethod, start1.args0, start1.below0, start1.atStart⟩
end Jvm.Pilot.@@N@@
