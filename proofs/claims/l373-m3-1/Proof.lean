import JvmDerived
import JvmDerived.Pilot.@@N@@Statement
import JvmDerived.Pilot.@@N@@Code
set_option linter.unusedVariables false
set_option linter.unusedSimpArgs false
@@BLOCK:NumsL.lean.txt@@
namespace Jvm.RoadKit
open Sem ClassFile Op Lib Jvm.Stand Jvm.Free Jvm.LawKit
section New
variable {p : Program} {l : Launch} {e : Env} {R : Room} {s : State} {m : MethodId} {args : Array Value} {below : List Frame} {meth : Method} {c : Code} {T : State} {locs : List Loc} {cells slots : Nat}
theorem retI (X : Stand p l e R s m args below meth c T locs cells slots) (hx : p.tables.exec = Jvm.exec) {pc : Nat} {Ls : Array Slot} {z : Int32} {rest : List Value} (hret : meth.sig.returnType = some .int) (hd : decode c.code pc = .ok (.ireturn, 1)) {fs : List Frame}
    (hl : ∀ (f : JFrame) (acts : List Action), f.method = m → f.locked = none → f.entered = [] → (doReturn e (T.setTop f) acts (some (.int z))).1 = T.setFrames fs) : Steps p.tables e below (T.setTop (mkF m pc Ls (.int z :: rest))) (T.setFrames fs) := by
  have hm' : T.vm.method? m = some meth := X.method'
  have hn : narrow .int (.int z) = .int z := rfl
  show Steps p.tables e below (T.setTop { method := m, pc := pc, locals := Ls, stack := _ :: rest, locked := none }) _
  jvm_step X.here [X.here.top, hx, hd, hm', hret, hn]
  first | (intro acts; rw [hl _ acts rfl rfl rfl]) | rw [hl _ _ rfl rfl rfl]
  exact Steps.refl _
end New
end Jvm.RoadKit
namespace Jvm.RoadKit
open Sem ClassFile Op Lib Jvm.Stand Jvm.Free Jvm.LawKit
def fup (f : Nat → Value) (j : Nat) (v : Value) : Nat → Value := fun i => if i = j then v else f i
def AR (Z : State) (h : Heap) (a : Addr) (ty : FieldType) (n : Nat) (f : Nat → Value) : Prop := n < 2147483648 ∧ ∃ c : Cell, Arr Z h a c ty ∧ c.slots.size = n ∧ ∀ i, i < n → c.slots[i]? = some (f i)
section Own
variable {p : Program} {l : Launch} {e : Env} {R : Room} {s : State} {m : MethodId} {args : Array Value} {below : List Frame} {meth : Method} {c : Code} {T : State} {locs : List Loc} {cells slots : Nat}
variable {Z : State} {h h' : Heap} {a b : Addr} {ty : FieldType} {n : Nat} {f f' : Nat → Value} {v : Value} {sl : Nat} {ws : List Addr}
theorem AR.lt (F : AR Z h a ty n f) : a < h.size := by obtain ⟨-, c, A, -⟩ := F; exact A.lt
theorem AR.ext (F : AR Z h a ty n f) (E : Ext h h') : AR Z h' a ty n f := by obtain ⟨q, c, A, r⟩ := F; exact ⟨q, c, A.ext E, r⟩
theorem AR.other (F : AR Z h b ty n f) (W : Wr h h' a sl v) (q : b ≠ a) : AR Z h' b ty n f := by obtain ⟨k, c, A, r⟩ := F; exact ⟨k, c, A.other W q, r⟩
theorem AR.keep (F : AR Z h a ty n f) (K : Keep h h' ws) (q : a ∉ ws) : AR Z h' a ty n f := by obtain ⟨k, c, A, r⟩ := F; exact ⟨k, c, ⟨K.2.1 a c A.1 q, A.2⟩, r⟩
theorem AR.same (F : AR Z h a ty n f) (W : Wr h h' a sl v) : AR Z h' a ty n (fup f sl v) := by
  obtain ⟨k, c, A, S, H⟩ := F
  refine ⟨k, c.setSlot sl v, A.same W, by simpa [Cell.setSlot] using S, fun i hi => ?_⟩
  obtain ⟨c', e1, -, -, -, -, e6, e7⟩ := wr_at W A.1
  obtain ⟨e8, e9, -⟩ := e7 rfl
  unfold fup
  by_cases q : i = sl
  · rw [if_pos q, q, ← e8]; exact e9
  · rw [if_neg q, ← e8, e6 i q]; exact H i hi
theorem AR.eq (F : AR Z h a ty n f) (q : ∀ i, i < n → f' i = f i) : AR Z h a ty n f' := by
  obtain ⟨k, c, A, S, H⟩ := F
  exact ⟨k, c, A, S, fun i hi => by rw [q i hi]; exact H i hi⟩
theorem own_fupI {g : Nat → Int32} {i : Nat} {x : Int32} (F : AR Z h a ty n (fup (fun j => .int (g j)) i (.int x))) : AR Z h a ty n (fun j => .int (if j = i then x else g j)) :=
  F.eq fun j _ => by unfold fup; split <;> rfl
theorem AR.new {k : ClassId} {z : Int32} (A : Arr Z h a (newA k ty z) ty) (q : ¬ z < 0) {n : Nat} (hn : z.toNatClampNeg = n) : AR Z h a ty n (fun _ => defaultValue ty) := by
  obtain ⟨c, A', -, S, -, H, -⟩ := Arv.new A q
  subst hn
  refine ⟨?_, c, A', S, fun i hi => ?_⟩
  · have h1 := z.toInt_lt; have h2 := nat_of q; omega
  · have := H i (by rw [S]; exact hi); simpa using this
theorem ar_in {c : Cell} {j : Int32} (S : c.slots.size = n) (q : ¬ j < 0 ∧ j.toNatClampNeg < n) : ¬ (j < 0 ∨ c.slots.size ≤ j.toNatClampNeg) := by
  rintro (u | u)
  · exact q.1 u
  · rw [S] at u; exact absurd q.2 (Nat.not_lt.mpr u)
theorem own_ldI (X : Stand p l e R s m args below meth c T locs cells slots) (hx : p.tables.exec = Jvm.exec) (hZ : Z.Warmed39 s.vm) (eT : T.heap = h) (A : AR Z h a .int n f) {j x : Int32} (hj : ¬ j < 0 ∧ j.toNatClampNeg < n) (hf : f j.toNatClampNeg = .int x) {g : JFrame} (hg : g.method = m) {rest : List Value} (hs : g.stack = .int j :: .ref a :: rest) (hd : decode c.code g.pc = .ok (.iaload, 1)) (target : State)
    (hr : Steps p.tables e below (T.setTop { g with pc := g.pc + 1, stack := .int x :: rest }) target) : Steps p.tables e below (T.setTop g) target := by
  obtain ⟨k, cl, A', S, H⟩ := A
  exact X.iaload hx (j := j) (v := .int x) (by rw [eT]; exact A'.1) (State.isArrayOf_alike hZ.alike A'.2.1) A'.2.2 (ar_in S hj) (by rw [H _ hj.2, hf]) hg hs hd target hr
theorem own_ldJ (X : Stand p l e R s m args below meth c T locs cells slots) (hx : p.tables.exec = Jvm.exec) (hZ : Z.Warmed39 s.vm) (eT : T.heap = h) (A : AR Z h a .long n f) {j : Int32} {x : Int64} (hj : ¬ j < 0 ∧ j.toNatClampNeg < n) (hf : f j.toNatClampNeg = .long x) {g : JFrame} (hg : g.method = m) {rest : List Value} (hs : g.stack = .int j :: .ref a :: rest) (hd : decode c.code g.pc = .ok (.laload, 1)) (target : State)
    (hr : Steps p.tables e below (T.setTop { g with pc := g.pc + 1, stack := .long x :: rest }) target) : Steps p.tables e below (T.setTop g) target := by
  obtain ⟨k, cl, A', S, H⟩ := A
  exact X.laload hx (j := j) (v := .long x) (by rw [eT]; exact A'.1) (State.isArrayOf_alike hZ.alike A'.2.1) A'.2.2 (ar_in S hj) (by rw [H _ hj.2, hf]) hg hs hd target hr
theorem own_ldD (X : Stand p l e R s m args below meth c T locs cells slots) (hx : p.tables.exec = Jvm.exec) (hZ : Z.Warmed39 s.vm) (eT : T.heap = h) (A : AR Z h a .double n f) {j : Int32} {x : UInt64} (hj : ¬ j < 0 ∧ j.toNatClampNeg < n) (hf : f j.toNatClampNeg = .double x) {g : JFrame} (hg : g.method = m) {rest : List Value} (hs : g.stack = .int j :: .ref a :: rest) (hd : decode c.code g.pc = .ok (.daload, 1)) (target : State)
    (hr : Steps p.tables e below (T.setTop { g with pc := g.pc + 1, stack := .double x :: rest }) target) : Steps p.tables e below (T.setTop g) target := by
  obtain ⟨k, cl, A', S, H⟩ := A
  exact X.daload hx (j := j) (v := .double x) (by rw [eT]; exact A'.1) (State.isArrayOf_alike hZ.alike A'.2.1) A'.2.2 (ar_in S hj) (by rw [H _ hj.2, hf]) hg hs hd target hr
theorem own_len (X : Stand p l e R s m args below meth c T locs cells slots) (hx : p.tables.exec = Jvm.exec) (hZ : Z.Warmed39 s.vm) (eT : T.heap = h) (A : AR Z h a ty n f) {z : Int32} (hz : n.toInt32 = z) {g : JFrame} (hg : g.method = m) {rest : List Value} (hs : g.stack = .ref a :: rest) (hd : decode c.code g.pc = .ok (.arraylength, 1)) (target : State)
    (hr : Steps p.tables e below (T.setTop { g with pc := g.pc + 1, stack := .int z :: rest }) target) : Steps p.tables e below (T.setTop g) target := by
  obtain ⟨k, cl, A', S, H⟩ := A
  exact X.arraylength hx (by rw [eT]; exact A'.1) (State.isArrayOf_alike hZ.alike A'.2.1) hg hs hd target (by rw [S, hz]; exact hr)
theorem own_stI (X : Stand p l e R s m args below meth c T locs cells slots) (hx : p.tables.exec = Jvm.exec) (hZ : Z.Warmed39 s.vm) (eT : T.heap = h) (A : AR Z h a .int n f) {j x : Int32} (hj : ¬ j < 0 ∧ j.toNatClampNeg < n) {g : JFrame} (hg : g.method = m) {rest : List Value} (hs : g.stack = .int x :: .int j :: .ref a :: rest) (hd : decode c.code g.pc = .ok (.iastore, 1)) :
    ∃ T' h', Stand p l e R s m args below meth c T' (locs ++ [⟨a, j.toNatClampNeg⟩]) cells slots ∧ T'.heap = h' ∧ Wr h h' a j.toNatClampNeg (.int x) ∧ AR Z h' a .int n (fup f j.toNatClampNeg (.int x)) ∧ ∀ target, Steps p.tables e below (T'.setTop { g with pc := g.pc + 1, stack := rest }) target → Steps p.tables e below (T.setTop g) target := by
  have A0 := A
  obtain ⟨k, cl, A', S, H⟩ := A
  obtain ⟨T', h', X', e', W', st⟩ := stI X hx hZ eT A' (ar_in S hj) hg hs hd
  exact ⟨T', h', X', e', W', A0.same W', st⟩
theorem own_stJ (X : Stand p l e R s m args below meth c T locs cells slots) (hx : p.tables.exec = Jvm.exec) (hZ : Z.Warmed39 s.vm) (eT : T.heap = h) (A : AR Z h a .long n f) {j : Int32} {x : Int64} (hj : ¬ j < 0 ∧ j.toNatClampNeg < n) {g : JFrame} (hg : g.method = m) {rest : List Value} (hs : g.stack = .long x :: .int j :: .ref a :: rest) (hd : decode c.code g.pc = .ok (.lastore, 1)) :
    ∃ T' h', Stand p l e R s m args below meth c T' (locs ++ [⟨a, j.toNatClampNeg⟩]) cells slots ∧ T'.heap = h' ∧ Wr h h' a j.toNatClampNeg (.long x) ∧ AR Z h' a .long n (fup f j.toNatClampNeg (.long x)) ∧ ∀ target, Steps p.tables e below (T'.setTop { g with pc := g.pc + 1, stack := rest }) target → Steps p.tables e below (T.setTop g) target := by
  have A0 := A
  obtain ⟨k, cl, A', S, H⟩ := A
  obtain ⟨T', h', X', e', W', st⟩ := stJ X hx hZ eT A' (ar_in S hj) hg hs hd
  exact ⟨T', h', X', e', W', A0.same W', st⟩
theorem own_stD (X : Stand p l e R s m args below meth c T locs cells slots) (hx : p.tables.exec = Jvm.exec) (hZ : Z.Warmed39 s.vm) (eT : T.heap = h) (A : AR Z h a .double n f) {j : Int32} {x : UInt64} (hj : ¬ j < 0 ∧ j.toNatClampNeg < n) {g : JFrame} (hg : g.method = m) {rest : List Value} (hs : g.stack = .double x :: .int j :: .ref a :: rest) (hd : decode c.code g.pc = .ok (.dastore, 1)) :
    ∃ T' h', Stand p l e R s m args below meth c T' (locs ++ [⟨a, j.toNatClampNeg⟩]) cells slots ∧ T'.heap = h' ∧ Wr h h' a j.toNatClampNeg (.double x) ∧ AR Z h' a .double n (fup f j.toNatClampNeg (.double x)) ∧ ∀ target, Steps p.tables e below (T'.setTop { g with pc := g.pc + 1, stack := rest }) target → Steps p.tables e below (T.setTop g) target := by
  have A0 := A
  obtain ⟨k, cl, A', S, H⟩ := A
  obtain ⟨T', h', X', e', W', st⟩ := stD X hx hZ eT A' (ar_in S hj) hg hs hd
  exact ⟨T', h', X', e', W', A0.same W', st⟩
end Own
end Jvm.RoadKit
namespace Jvm.RoadKit
open Sem ClassFile Op Lib Jvm.Stand Jvm.Free Jvm.LawKit
def KN (n : Nat) (h h' : Heap) : Prop := h.size ≤ h'.size ∧ ∀ (x : Addr) (c : Cell), x < n → h[x]? = some c → h'[x]? = some c
def u1 {α : Type} (c : Nat → α) (k : Nat) (x : α) : Nat → α := fun k' => if k' = k then x else c k'
def ui {α : Type} (I : Nat → Nat → α) (k j : Nat) (x : α) : Nat → Nat → α := u1 I k (u1 (I k) j x)
def ARo (Z : State) (h : Heap) (a : Addr) (n : Nat) (f : Nat → Value) : Prop := AR Z h a (.array .int) n f ∧ ∃ cl : Cell, h[a]? = some cl ∧ OvrA Z cl.cls .int "[I"
def lnm (k : Nat) : String := ["cpu", "place", "rootOf", "leafSize", "leafParent", "leafSlot", "freeLeaves", "child", "below", "mostCpu", "fromServer", "branchSize", "branchHeight", "branchParent", "branchSlot", "freeBranches", "memory", "leafHigh", "leafLow", "mostMemory", "fromHigh", "fromLow"].getD k ""
def snm (k : Nat) : String := ["leaves", "freeLeafCount", "branches", "freeBranchCount"].getD k ""
abbrev LTC : String := "com/example/ebbtide/ebbtide/cluster/LoadTrees"
def mref (M : Nat → Option Addr) (j : Nat) : Value := match M j with | none => .null | some b => .ref b
def LT (Z : State) (h : Heap) (n0 : Nat) (a : Addr) (A : Nat → Addr) (N : Nat → Nat) (I : Nat → Nat → Int32) (J : Nat → Nat → Int64) (c : Nat → Int32) (M : Nat → Option Addr) (B : Nat → Nat → Int32) : Prop :=
  Exa Z h a LTC ∧ n0 ≤ a ∧
  (∀ k, k < 16 → Fld Z h a LTC (lnm k) "[I" (.ref (A k)) ∧ AR Z h (A k) .int (N k) (fun j => .int (I k j))) ∧
  (∀ k, 16 ≤ k → k < 22 → Fld Z h a LTC (lnm k) "[J" (.ref (A k)) ∧ AR Z h (A k) .long (N k) (fun j => .long (J k j))) ∧
  (Fld Z h a LTC "members" "[[I" (.ref (A 22)) ∧ ARo Z h (A 22) (N 22) (mref M)) ∧
  (∀ k, k < 4 → Fld Z h a LTC (snm k) "I" (.int (c k))) ∧
  (∀ j b, j < N 22 → M j = some b → AR Z h b .int 4 (fun i => .int (B j i)) ∧ n0 ≤ b ∧ b ≠ a ∧ ∀ k, k < 23 → b ≠ A k) ∧
  (∀ j j' b, j < N 22 → j' < N 22 → M j = some b → M j' = some b → j = j') ∧
  (∀ k k', k < 23 → k' < 23 → A k = A k' → k = k') ∧ (∀ k, k < 23 → A k ≠ a ∧ n0 ≤ A k)
section OwnLT
variable {p : Program} {l : Launch} {e : Env} {R : Room} {s : State} {m : MethodId} {args : Array Value} {below : List Frame} {meth : Method} {c : Code} {T : State} {locs : List Loc} {cells slots : Nat}
variable {Z : State} {h h' h'' : Heap} {a b : Addr} {ty : FieldType} {n n0 : Nat} {f f' : Nat → Value} {v : Value} {sl : Nat} {ws : List Addr}
theorem KN.refl (n : Nat) (h : Heap) : KN n h h := ⟨Nat.le_refl _, fun _ _ _ q => q⟩
theorem KN.trans (K : KN n h h') (K' : KN n h' h'') : KN n h h'' := ⟨Nat.le_trans K.1 K'.1, fun x c u q => K'.2 x c u (K.2 x c u q)⟩
theorem KN.keep (K : Keep h h' ws) (q : ∀ x ∈ ws, n ≤ x) : KN n h h' := ⟨K.1, fun x c u r => K.2.1 x c r (fun hm => absurd (q x hm) (Nat.not_le.mpr u))⟩
theorem KN.wr (W : Wr h h' a sl v) (q : n ≤ a) : KN n h h' := KN.keep (Keep.of_wr W) (allS q all0)
theorem KN.ext (E : Ext h h') : KN n h h' := ⟨E.1, fun x c _ q => E.2 x c q⟩
theorem KN.down {n' : Nat} (K : KN n h h') (q : n' ≤ n) : KN n' h h' := ⟨K.1, fun x c u r => K.2 x c (Nat.lt_of_lt_of_le u q) r⟩
theorem AR.kn (F : AR Z h a ty sl f) (K : KN n h h') (q : a < n) : AR Z h' a ty sl f := by
  obtain ⟨k, c, A, r⟩ := F; exact ⟨k, c, ⟨K.2 a c q A.1, A.2⟩, r⟩
theorem ARo.lt (F : ARo Z h a n f) : a < h.size := F.1.lt
theorem ARo.ext (F : ARo Z h a n f) (E : Ext h h') : ARo Z h' a n f := by
  obtain ⟨F1, cl, h1, h2⟩ := F; exact ⟨F1.ext E, cl, E.2 _ _ h1, h2⟩
theorem ARo.other (F : ARo Z h b n f) (W : Wr h h' a sl v) (q : b ≠ a) : ARo Z h' b n f := by
  obtain ⟨F1, cl, h1, h2⟩ := F
  obtain ⟨c', e1, e2, -⟩ := wr_at W h1
  exact ⟨F1.other W q, c', e1, by rw [e2]; exact h2⟩
theorem ARo.keep (F : ARo Z h a n f) (K : Keep h h' ws) (q : a ∉ ws) : ARo Z h' a n f := by
  obtain ⟨F1, cl, h1, h2⟩ := F
  exact ⟨F1.keep K q, cl, K.2.1 a cl h1 q, h2⟩
theorem ARo.same (F : ARo Z h a n f) (W : Wr h h' a sl v) : ARo Z h' a n (fup f sl v) := by
  obtain ⟨F1, cl, h1, h2⟩ := F
  obtain ⟨c', e1, e2, -⟩ := wr_at W h1
  exact ⟨F1.same W, c', e1, by rw [e2]; exact h2⟩
variable {A : Nat → Addr} {N : Nat → Nat} {I : Nat → Nat → Int32} {J : Nat → Nat → Int64} {cc : Nat → Int32} {M : Nat → Option Addr} {B : Nat → Nat → Int32}
theorem LT.ext (L : LT Z h n0 a A N I J cc M B) (E : Ext h h') : LT Z h' n0 a A N I J cc M B := by
  obtain ⟨x, ga, fI, fJ, fM, fc, fB, r⟩ := L
  exact ⟨x.ext E, ga, fun k hk => ⟨(fI k hk).1.ext E, (fI k hk).2.ext E⟩, fun k h1 h2 => ⟨(fJ k h1 h2).1.ext E, (fJ k h1 h2).2.ext E⟩, ⟨fM.1.ext E, fM.2.ext E⟩, fun k hk => (fc k hk).ext E, fun j b hj hb => ⟨(fB j b hj hb).1.ext E, (fB j b hj hb).2⟩, r⟩
theorem LT.wrI (L : LT Z h n0 a A N I J cc M B) {k : Nat} (hk : k < 16) {j : Nat} {x : Int32} (W : Wr h h' (A k) j (.int x)) : LT Z h' n0 a A N (ui I k j x) J cc M B := by
  obtain ⟨x0, ga, fI, fJ, fM, fc, fB, inj2, inj, gA⟩ := L
  have na : a ≠ A k := fun q => (gA k (by omega)).1 q.symm
  refine ⟨x0.wr W, ga, fun k' hk' => ?_, fun k' h1 h2 => ?_, ?_, fun k' hk' => (fc k' hk').other W (Or.inl na), fun j' b hj hb => ?_, inj2, inj, gA⟩
  · obtain ⟨F, Ar⟩ := fI k' hk'
    refine ⟨F.other W (Or.inl na), ?_⟩
    by_cases q : k' = k
    · subst q
      refine (Ar.same W).eq fun i _ => ?_
      unfold ui u1 fup
      rw [if_pos rfl]
      by_cases r : i = j
      · rw [if_pos r, if_pos r]
      · rw [if_neg r, if_neg r]
    · refine (Ar.other W (fun z => q (inj _ _ (by omega) (by omega) z))).eq fun i _ => ?_
      unfold ui u1; rw [if_neg q]
  · obtain ⟨F, Ar⟩ := fJ k' h1 h2
    exact ⟨F.other W (Or.inl na), Ar.other W (fun z => by have := inj _ _ (by omega) (by omega) z; omega)⟩
  · exact ⟨fM.1.other W (Or.inl na), fM.2.other W (fun z => by have := inj _ _ (by omega) (by omega) z; omega)⟩
  · obtain ⟨Ar, r1, r2, r3⟩ := fB j' b hj hb
    exact ⟨Ar.other W (r3 k (by omega)), r1, r2, r3⟩
theorem LT.wrJ (L : LT Z h n0 a A N I J cc M B) {k : Nat} (hk1 : 16 ≤ k) (hk : k < 22) {j : Nat} {x : Int64} (W : Wr h h' (A k) j (.long x)) : LT Z h' n0 a A N I (ui J k j x) cc M B := by
  obtain ⟨x0, ga, fI, fJ, fM, fc, fB, inj2, inj, gA⟩ := L
  have na : a ≠ A k := fun q => (gA k (by omega)).1 q.symm
  refine ⟨x0.wr W, ga, fun k' hk' => ?_, fun k' h1 h2 => ?_, ?_, fun k' hk' => (fc k' hk').other W (Or.inl na), fun j' b hj hb => ?_, inj2, inj, gA⟩
  · obtain ⟨F, Ar⟩ := fI k' hk'
    exact ⟨F.other W (Or.inl na), Ar.other W (fun z => by have := inj _ _ (by omega) (by omega) z; omega)⟩
  · obtain ⟨F, Ar⟩ := fJ k' h1 h2
    refine ⟨F.other W (Or.inl na), ?_⟩
    by_cases q : k' = k
    · subst q
      refine (Ar.same W).eq fun i _ => ?_
      unfold ui u1 fup
      rw [if_pos rfl]
      by_cases r : i = j
      · rw [if_pos r, if_pos r]
      · rw [if_neg r, if_neg r]
    · refine (Ar.other W (fun z => q (inj _ _ (by omega) (by omega) z))).eq fun i _ => ?_
      unfold ui u1; rw [if_neg q]
  · exact ⟨fM.1.other W (Or.inl na), fM.2.other W (fun z => by have := inj _ _ (by omega) (by omega) z; omega)⟩
  · obtain ⟨Ar, r1, r2, r3⟩ := fB j' b hj hb
    exact ⟨Ar.other W (r3 k (by omega)), r1, r2, r3⟩
theorem LT.wrB (L : LT Z h n0 a A N I J cc M B) {j0 : Nat} (hj0 : j0 < N 22) (hb0 : M j0 = some b) {j : Nat} {x : Int32} (W : Wr h h' b j (.int x)) : LT Z h' n0 a A N I J cc M (ui B j0 j x) := by
  obtain ⟨x0, ga, fI, fJ, fM, fc, fB, inj2, inj, gA⟩ := L
  obtain ⟨-, r1, r2, r3⟩ := fB j0 b hj0 hb0
  refine ⟨x0.wr W, ga, fun k' hk' => ?_, fun k' h1 h2 => ?_, ?_, fun k' hk' => (fc k' hk').other W (Or.inl r2.symm), fun j' b' hj hb => ?_, inj2, inj, gA⟩
  · obtain ⟨F, Ar⟩ := fI k' hk'
    exact ⟨F.other W (Or.inl r2.symm), Ar.other W (fun z => r3 k' (by omega) z.symm)⟩
  · obtain ⟨F, Ar⟩ := fJ k' h1 h2
    exact ⟨F.other W (Or.inl r2.symm), Ar.other W (fun z => r3 k' (by omega) z.symm)⟩
  · exact ⟨fM.1.other W (Or.inl r2.symm), fM.2.other W (fun z => r3 22 (by omega) z.symm)⟩
  · obtain ⟨Ar, q1, q2, q3⟩ := fB j' b' hj hb
    refine ⟨?_, q1, q2, q3⟩
    by_cases q : j' = j0
    · subst q
      cases hb0.symm.trans hb
      refine (Ar.same W).eq fun i _ => ?_
      unfold ui u1 fup
      rw [if_pos rfl]
      by_cases r : i = j
      · rw [if_pos r, if_pos r]
      · rw [if_neg r, if_neg r]
    · refine (Ar.other W (fun z => q (inj2 _ _ b' hj hj0 hb (z ▸ hb0)))).eq fun i _ => ?_
      unfold ui u1; rw [if_neg q]
theorem LT.wrM (L : LT Z h n0 a A N I J cc M B) {j0 : Nat} (hj0 : j0 < N 22) {Bn : Nat → Int32} (Ab : AR Z h b .int 4 (fun i => .int (Bn i))) (gb : n0 ≤ b) (nb : b ≠ a) (nA : ∀ k, k < 23 → b ≠ A k) (nM : ∀ j, j < N 22 → M j ≠ some b) (W : Wr h h' (A 22) j0 (.ref b)) :
    LT Z h' n0 a A N I J cc (u1 M j0 (some b)) (fun j => if j = j0 then Bn else B j) := by
  obtain ⟨x0, ga, fI, fJ, fM, fc, fB, inj2, inj, gA⟩ := L
  have na : a ≠ A 22 := fun q => (gA 22 (by omega)).1 q.symm
  refine ⟨x0.wr W, ga, fun k' hk' => ?_, fun k' h1 h2 => ?_, ?_, fun k' hk' => (fc k' hk').other W (Or.inl na), fun j' b' hj hb => ?_, fun j j' b' hj hj' hb hb' => ?_, inj, gA⟩
  · obtain ⟨F, Ar⟩ := fI k' hk'
    exact ⟨F.other W (Or.inl na), Ar.other W (fun z => by have := inj _ _ (by omega) (by omega) z; omega)⟩
  · obtain ⟨F, Ar⟩ := fJ k' h1 h2
    exact ⟨F.other W (Or.inl na), Ar.other W (fun z => by have := inj _ _ (by omega) (by omega) z; omega)⟩
  · refine ⟨fM.1.other W (Or.inl na), ?_⟩
    obtain ⟨w1, w2⟩ := fM.2.same W
    refine ⟨w1.eq fun i _ => ?_, w2⟩
    unfold mref fup u1
    by_cases r : i = j0
    · rw [if_pos r, if_pos r]
    · rw [if_neg r, if_neg r]
  · unfold u1 at hb
    by_cases r : j' = j0
    · rw [if_pos r] at hb
      cases hb
      have e : (fun j => if j = j0 then Bn else B j) j' = Bn := if_pos r
      rw [e]
      exact ⟨Ab.other W (nA 22 (by omega)), gb, nb, nA⟩
    · rw [if_neg r] at hb
      have e : (fun j => if j = j0 then Bn else B j) j' = B j' := if_neg r
      rw [e]
      obtain ⟨Ar, q1, q2, q3⟩ := fB j' b' hj hb
      exact ⟨Ar.other W (q3 22 (by omega)), q1, q2, q3⟩
  · unfold u1 at hb hb'
    by_cases r : j = j0
    · rw [if_pos r] at hb
      cases hb
      by_cases r' : j' = j0
      · rw [r, r']
      · rw [if_neg r'] at hb'; exact absurd hb' (nM j' hj')
    · rw [if_neg r] at hb
      by_cases r' : j' = j0
      · rw [if_pos r'] at hb'; cases hb'; exact absurd hb (nM j hj)
      · rw [if_neg r'] at hb'; exact inj2 j j' b' hj hj' hb hb'
theorem LT.putC (L : LT Z h n0 a A N I J cc M B) {k0 : Nat} (hk0 : k0 < 4) {x : Int32} (W : Wr h h' a (slotOf Z LTC (snm k0) "I") (.int x))
    (hI : ∀ k, k < 16 → slotOf Z LTC (lnm k) "[I" ≠ slotOf Z LTC (snm k0) "I") (hJ : ∀ k, 16 ≤ k → k < 22 → slotOf Z LTC (lnm k) "[J" ≠ slotOf Z LTC (snm k0) "I") (hM : slotOf Z LTC "members" "[[I" ≠ slotOf Z LTC (snm k0) "I") (hc : ∀ k, k < 4 → k ≠ k0 → slotOf Z LTC (snm k) "I" ≠ slotOf Z LTC (snm k0) "I") :
    LT Z h' n0 a A N I J (u1 cc k0 x) M B := by
  obtain ⟨x0, ga, fI, fJ, fM, fc, fB, inj2, inj, gA⟩ := L
  refine ⟨x0.wr W, ga, fun k' hk' => ?_, fun k' h1 h2 => ?_, ?_, fun k' hk' => ?_, fun j' b' hj hb => ?_, inj2, inj, gA⟩
  · obtain ⟨F, Ar⟩ := fI k' hk'
    exact ⟨F.other W (Or.inr (hI k' hk')), Ar.other W (gA k' (by omega)).1⟩
  · obtain ⟨F, Ar⟩ := fJ k' h1 h2
    exact ⟨F.other W (Or.inr (hJ k' h1 h2)), Ar.other W (gA k' (by omega)).1⟩
  · exact ⟨fM.1.other W (Or.inr hM), fM.2.other W (gA 22 (by omega)).1⟩
  · unfold u1
    by_cases q : k' = k0
    · subst q; rw [if_pos rfl]; exact (fc k' hk').same W
    · rw [if_neg q]; exact (fc k' hk').other W (Or.inr (hc k' hk' q))
  · obtain ⟨Ar, q1, q2, q3⟩ := fB j' b' hj hb
    exact ⟨Ar.other W q2, q1, q2, q3⟩
theorem LT.cpI (L : LT Z h n0 a A N I J cc M B) {k : Nat} (hk : k < 16) {g : Nat → Int32} (K : Keep h h' [A k]) (V : AR Z h' (A k) .int (N k) (fun j => .int (g j))) : LT Z h' n0 a A N (u1 I k g) J cc M B := by
  obtain ⟨x0, ga, fI, fJ, fM, fc, fB, inj2, inj, gA⟩ := L
  have na : a ∉ [A k] := ninS (fun q => (gA k (by omega)).1 q.symm) nin0
  refine ⟨x0.keep K, ga, fun k' hk' => ?_, fun k' h1 h2 => ?_, ?_, fun k' hk' => (fc k' hk').keep K na, fun j' b hj hb => ?_, inj2, inj, gA⟩
  · obtain ⟨F, Ar⟩ := fI k' hk'
    refine ⟨F.keep K na, ?_⟩
    unfold u1
    by_cases q : k' = k
    · subst q; simp only [if_pos]; exact V
    · simp only [if_neg q]; exact Ar.keep K (ninS (fun z => q (inj _ _ (by omega) (by omega) z)) nin0)
  · obtain ⟨F, Ar⟩ := fJ k' h1 h2
    exact ⟨F.keep K na, Ar.keep K (ninS (fun z => by have := inj _ _ (by omega) (by omega) z; omega) nin0)⟩
  · exact ⟨fM.1.keep K na, fM.2.keep K (ninS (fun z => by have := inj _ _ (by omega) (by omega) z; omega) nin0)⟩
  · obtain ⟨Ar, r1, r2, r3⟩ := fB j' b hj hb
    exact ⟨Ar.keep K (ninS (r3 k (by omega)) nin0), r1, r2, r3⟩
theorem LT.cpJ (L : LT Z h n0 a A N I J cc M B) {k : Nat} (hk1 : 16 ≤ k) (hk : k < 22) {g : Nat → Int64} (K : Keep h h' [A k]) (V : AR Z h' (A k) .long (N k) (fun j => .long (g j))) : LT Z h' n0 a A N I (u1 J k g) cc M B := by
  obtain ⟨x0, ga, fI, fJ, fM, fc, fB, inj2, inj, gA⟩ := L
  have na : a ∉ [A k] := ninS (fun q => (gA k (by omega)).1 q.symm) nin0
  refine ⟨x0.keep K, ga, fun k' hk' => ?_, fun k' h1 h2 => ?_, ?_, fun k' hk' => (fc k' hk').keep K na, fun j' b hj hb => ?_, inj2, inj, gA⟩
  · obtain ⟨F, Ar⟩ := fI k' hk'
    exact ⟨F.keep K na, Ar.keep K (ninS (fun z => by have := inj _ _ (by omega) (by omega) z; omega) nin0)⟩
  · obtain ⟨F, Ar⟩ := fJ k' h1 h2
    refine ⟨F.keep K na, ?_⟩
    unfold u1
    by_cases q : k' = k
    · subst q; simp only [if_pos]; exact V
    · simp only [if_neg q]; exact Ar.keep K (ninS (fun z => q (inj _ _ (by omega) (by omega) z)) nin0)
  · exact ⟨fM.1.keep K na, fM.2.keep K (ninS (fun z => by have := inj _ _ (by omega) (by omega) z; omega) nin0)⟩
  · obtain ⟨Ar, r1, r2, r3⟩ := fB j' b hj hb
    exact ⟨Ar.keep K (ninS (r3 k (by omega)) nin0), r1, r2, r3⟩
theorem own_cl {i : Nat} (h : i < 2147483648) : (Int32.ofNat i).toNatClampNeg = i ∧ ¬ Int32.ofNat i < 0 := by
  have e : (Int32.ofNat i).toInt = i := Int32.toInt_ofNat_of_lt (by omega)
  refine ⟨by simp only [Int32.toNatClampNeg]; omega, ?_⟩
  rw [Int32.lt_iff_toInt_lt]; have : (0 : Int32).toInt = 0 := rfl; omega
theorem own_cli {i k : Nat} (hn : n < 2147483648) (hi : i < n) : ¬ Int32.ofNat i < 0 ∧ (Int32.ofNat i).toNatClampNeg < n := by
  obtain ⟨a, b⟩ := own_cl (i := i) (by omega); exact ⟨b, by omega⟩
theorem own_na (a b : Nat) : Int32.ofNat a + Int32.ofNat b = Int32.ofNat (a + b) := (Int32.ofNat_add a b).symm
theorem own_nm (a b : Nat) : Int32.ofNat a * Int32.ofNat b = Int32.ofNat (a * b) := (Int32.ofNat_mul a b).symm
theorem own_ns {a b : Nat} (q : b ≤ a) : Int32.ofNat a - Int32.ofNat b = Int32.ofNat (a - b) := (Int32.ofNat_sub a b q).symm
theorem own_dec1 (a : Nat) : Int32.ofNat (a + 1) - (1 : Int32) = Int32.ofNat a := (Int32.ofNat_sub (a + 1) 1 (by omega)).symm
theorem own_dec2 (a : Nat) : Int32.ofNat (a + 1) + (-1 : Int32) = Int32.ofNat a := by rw [← own_dec1 a, Int32.sub_eq_add_neg]
theorem own_ui {α : Type} (I : Nat → Nat → α) (k j : Nat) (x : α) : ui I k j x k j = x := by unfold ui u1; rw [if_pos rfl, if_pos rfl]
theorem own_ui_j {α : Type} (I : Nat → Nat → α) (k j j' : Nat) (x : α) (h : j' ≠ j) : ui I k j x k j' = I k j' := by unfold ui u1; rw [if_pos rfl, if_neg h]
theorem own_ui_k {α : Type} (I : Nat → Nat → α) (k k' j : Nat) (x : α) (h : k' ≠ k) : ui I k j x k' = I k' := by unfold ui u1; rw [if_neg h]
theorem own_toI {i : Nat} (h : i < 2147483648) : (Int32.ofNat i).toInt = i := Int32.toInt_ofNat_of_lt (by omega)
theorem own_nlt {a b : Nat} (q : a < b) (hb : b < 2147483648) : Int32.ofNat a < Int32.ofNat b := by rw [Int32.lt_iff_toInt_lt, own_toI (by omega), own_toI hb]; omega
theorem own_nge {a b : Nat} (q : b ≤ a) (ha : a < 2147483648) : ¬ Int32.ofNat a < Int32.ofNat b := by rw [Int32.lt_iff_toInt_lt, own_toI ha, own_toI (by omega)]; omega
theorem own_nne {a b : Nat} (q : a ≠ b) (ha : a < 2147483648) (hb : b < 2147483648) : ¬ Int32.ofNat a = Int32.ofNat b := fun z => by have := congrArg Int32.toInt z; rw [own_toI ha, own_toI hb] at this; omega
theorem own_ldIN (X : Stand p l e R s m args below meth c T locs cells slots) (hx : p.tables.exec = Jvm.exec) (hZ : Z.Warmed39 s.vm) (eT : T.heap = h) (A : AR Z h a .int n f) {i : Nat} {x : Int32} (hi : i < n) (hf : f i = .int x) {g : JFrame} (hg : g.method = m) {rest : List Value} (hs : g.stack = .int (Int32.ofNat i) :: .ref a :: rest) (hd : decode c.code g.pc = .ok (.iaload, 1)) (target : State)
    (hr : Steps p.tables e below (T.setTop { g with pc := g.pc + 1, stack := .int x :: rest }) target) : Steps p.tables e below (T.setTop g) target :=
  own_ldI X hx hZ eT A (own_cli (k := 0) A.1 hi) (by rw [(own_cl (Nat.lt_trans hi A.1)).1]; exact hf) hg hs hd target hr
theorem own_ldJN (X : Stand p l e R s m args below meth c T locs cells slots) (hx : p.tables.exec = Jvm.exec) (hZ : Z.Warmed39 s.vm) (eT : T.heap = h) (A : AR Z h a .long n f) {i : Nat} {x : Int64} (hi : i < n) (hf : f i = .long x) {g : JFrame} (hg : g.method = m) {rest : List Value} (hs : g.stack = .int (Int32.ofNat i) :: .ref a :: rest) (hd : decode c.code g.pc = .ok (.laload, 1)) (target : State)
    (hr : Steps p.tables e below (T.setTop { g with pc := g.pc + 1, stack := .long x :: rest }) target) : Steps p.tables e below (T.setTop g) target :=
  own_ldJ X hx hZ eT A (own_cli (k := 0) A.1 hi) (by rw [(own_cl (Nat.lt_trans hi A.1)).1]; exact hf) hg hs hd target hr
theorem own_ldAN (X : Stand p l e R s m args below meth c T locs cells slots) (hx : p.tables.exec = Jvm.exec) (hZ : Z.Warmed39 s.vm) (eT : T.heap = h) (A : AR Z h a ty n f) (hty : ty.isReference = true) {i : Nat} {v : Value} (hi : i < n) (hf : f i = v) {g : JFrame} (hg : g.method = m) {rest : List Value} (hs : g.stack = .int (Int32.ofNat i) :: .ref a :: rest) (hd : decode c.code g.pc = .ok (.aaload, 1)) (target : State)
    (hr : Steps p.tables e below (T.setTop { g with pc := g.pc + 1, stack := v :: rest }) target) : Steps p.tables e below (T.setTop g) target := by
  have hb := own_cli (k := 0) A.1 hi
  have hc := (own_cl (Nat.lt_trans hi A.1)).1
  obtain ⟨k, cl, A', S, H⟩ := A
  exact X.aaload hx (j := Int32.ofNat i) (v := v) (by rw [eT]; exact A'.1) (State.isArrayOf_alike hZ.alike A'.2.1) hty A'.2.2 (ar_in S hb) (by rw [hc, H _ hi, hf]) hg hs hd target hr
theorem own_stIN (X : Stand p l e R s m args below meth c T locs cells slots) (hx : p.tables.exec = Jvm.exec) (hZ : Z.Warmed39 s.vm) (eT : T.heap = h) (A : AR Z h a .int n f) {i : Nat} {x : Int32} (hi : i < n) {g : JFrame} (hg : g.method = m) {rest : List Value} (hs : g.stack = .int x :: .int (Int32.ofNat i) :: .ref a :: rest) (hd : decode c.code g.pc = .ok (.iastore, 1)) :
    ∃ T' h', Stand p l e R s m args below meth c T' (locs ++ [⟨a, i⟩]) cells slots ∧ T'.heap = h' ∧ Wr h h' a i (.int x) ∧ ∀ target, Steps p.tables e below (T'.setTop { g with pc := g.pc + 1, stack := rest }) target → Steps p.tables e below (T.setTop g) target := by
  have hc := (own_cl (Nat.lt_trans hi A.1)).1
  obtain ⟨T', h', X', e', W', -, st⟩ := own_stI X hx hZ eT A (own_cli (k := 0) A.1 hi) hg hs hd
  rw [hc] at X' W'
  exact ⟨T', h', X', e', W', st⟩
theorem own_stJN (X : Stand p l e R s m args below meth c T locs cells slots) (hx : p.tables.exec = Jvm.exec) (hZ : Z.Warmed39 s.vm) (eT : T.heap = h) (A : AR Z h a .long n f) {i : Nat} {x : Int64} (hi : i < n) {g : JFrame} (hg : g.method = m) {rest : List Value} (hs : g.stack = .long x :: .int (Int32.ofNat i) :: .ref a :: rest) (hd : decode c.code g.pc = .ok (.lastore, 1)) :
    ∃ T' h', Stand p l e R s m args below meth c T' (locs ++ [⟨a, i⟩]) cells slots ∧ T'.heap = h' ∧ Wr h h' a i (.long x) ∧ ∀ target, Steps p.tables e below (T'.setTop { g with pc := g.pc + 1, stack := rest }) target → Steps p.tables e below (T.setTop g) target := by
  have hc := (own_cl (Nat.lt_trans hi A.1)).1
  obtain ⟨T', h', X', e', W', -, st⟩ := own_stJ X hx hZ eT A (own_cli (k := 0) A.1 hi) hg hs hd
  rw [hc] at X' W'
  exact ⟨T', h', X', e', W', st⟩
theorem own_stAN (X : Stand p l e R s m args below meth c T locs cells slots) (hx : p.tables.exec = Jvm.exec) (hZ : Z.Warmed39 s.vm) (eT : T.heap = h) (A : ARo Z h a n f) {i : Nat} (hi : i < n) (Ib : Ins Z h b "[I" true) {g : JFrame} (hg : g.method = m) {rest : List Value} (hs : g.stack = .ref b :: .int (Int32.ofNat i) :: .ref a :: rest) (hd : decode c.code g.pc = .ok (.aastore, 1)) :
    ∃ T' h', Stand p l e R s m args below meth c T' (locs ++ [⟨a, i⟩]) cells slots ∧ T'.heap = h' ∧ Wr h h' a i (.ref b) ∧ ∀ target, Steps p.tables e below (T'.setTop { g with pc := g.pc + 1, stack := rest }) target → Steps p.tables e below (T.setTop g) target := by
  have hc := (own_cl (Nat.lt_trans hi A.1.1)).1
  have hin := own_cli (k := 0) A.1.1 hi
  obtain ⟨⟨k, cl, A', S, H⟩, cl', q1, q2⟩ := A
  cases A'.1.symm.trans q1
  obtain ⟨T', h', X', e', W', st⟩ := stR X hx hZ eT A' (j := Int32.ofNat i) (ar_in S hin) rfl (Sto.ofVA A' rfl q2 Ib) hg hs hd
  rw [hc] at X' W'
  exact ⟨T', h', X', e', W', st⟩
theorem own_arv {d : Value} (F : AR Z h a ty n f) (hf : ∀ i, i < n → fits ty (f i) = true) : ∃ k, Arv Z h a k ty (Int32.ofNat n) ((List.range n).map f) d := by
  have hc := own_cl F.1
  obtain ⟨k, c, A, S, H⟩ := F
  have g : ∀ i, i < n → ((List.range n).map f).getD i d = f i := fun i hi => by
    rw [List.getD_eq_getElem?_getD, List.getElem?_map, List.getElem?_range hi]; rfl
  exact ⟨c.cls, c, A, rfl, by rw [S, hc.1], hc.2, fun i hi => by rw [g i (S ▸ hi)]; exact H i (S ▸ hi), fun i hi => by rw [g i (S ▸ hi)]; exact hf i (S ▸ hi)⟩
def cpy {α : Type} (f : Nat → α) (sp dp nn : Nat) : Nat → α := fun j => if dp ≤ j ∧ j < dp + nn then f (j - dp + sp) else f j
theorem own_cp {a0 : Array Value} (X : Stand p l e R s m args below meth c T locs cells slots) (hx : p.tables.exec = Jvm.exec) (hZ : Z.Warmed39 s.vm) {own : String} {index : Nat} (hown : s.vm.findClass own = some m.cls)
    (w1 : (Cond.methodLink own index Jvm.Stand.acN).before a0 Z = true) (w2 : (Cond.native Jvm.Stand.acN).before a0 Z = true) (w3 : (Cond.static Jvm.Stand.acN).before a0 Z = true) (w4 : (Cond.initialized "java/lang/System").before a0 Z = true) (eT : T.heap = h)
    (A : AR Z h a ty n f) (hty : refKind ty = false) (hf : ∀ i, i < n → fits ty (f i) = true) {sp dp nn : Nat} (h1 : sp + nn ≤ n) (h2 : dp + nn ≤ n) (N : Fr n0 locs) (ge : n0 ≤ a)
    {g : JFrame} (hg : g.method = m) (hsize : g.locals.size = c.maxLocals) {rest : List Value} (hs : g.stack = .int (Int32.ofNat nn) :: .int (Int32.ofNat dp) :: .ref a :: .int (Int32.ofNat sp) :: .ref a :: rest) (hd : decode c.code g.pc = .ok (.invokestatic index, 3))
    (hfr : 1 ≤ R.frames) {W : Nat} (hW : 2 * g.monitorRoom + (rest.map fun v => v.category).sum ≤ W) (hlo : W + (nativeFrameWords "java/lang/System" "arraycopy" 5 + 11) ≤ R.locals) :
    ∃ T' h' L, Stand p l e R s m args below meth c T' L cells slots ∧ T'.heap = h' ∧ Fr n0 L ∧ Keep h h' [a] ∧ AR Z h' a ty n (cpy f sp dp nn) ∧
      ∀ target, Steps p.tables e below (T'.setTop { g with pc := g.pc + 3, stack := rest }) target → Steps p.tables e below (T.setTop g) target := by
  have hn := A.1
  obtain ⟨k, V⟩ := own_arv (d := f 0) A hf
  have cn := own_cl hn
  have c1 := own_cl (i := sp) (by omega)
  have c2 := own_cl (i := dp) (by omega)
  have c3 := own_cl (i := nn) (by omega)
  obtain ⟨T', h', L, X', e', N', K', V', st⟩ := cpA X hx hZ hown w1 w2 w3 w4 eT V V (Or.inl ⟨rfl, hty⟩) c1.2 c2.2 c3.2 (by rw [c1.1, c3.1, cn.1]; exact h1) (by rw [c2.1, c3.1, cn.1]; exact h2) rfl (by rw [c2.1, c3.1]; simpa using h2) N ge hg hsize hs hd hfr hW hlo
  refine ⟨T', h', L, X', e', N', K', ?_, st⟩
  rw [c1.1, c2.1, c3.1] at V'
  obtain ⟨cl, A', -, S, -, H, -⟩ := V'
  rw [cn.1] at S
  refine ⟨hn, cl, A', S, fun i hi => ?_⟩
  rw [H i (by omega)]
  congr 1
  unfold cpy
  have g : ∀ i, i < n → ((List.range n).map f).getD i (f 0) = f i := fun i hi => by
    rw [List.getD_eq_getElem?_getD, List.getElem?_map, List.getElem?_range hi]; rfl
  rw [List.getD_eq_getElem?_getD]
  by_cases q1 : i < dp
  · rw [if_neg (by omega), List.append_assoc, List.getElem?_append_left (by simp; omega), List.getElem?_take_of_lt q1, List.getElem?_map, List.getElem?_range hi]; rfl
  · by_cases q2 : i < dp + nn
    · rw [if_pos (by omega), List.append_assoc, List.getElem?_append_right (by simp; omega), List.getElem?_append_left (by simp; omega)]
      rw [List.getElem?_map, List.getElem?_range (by simp; omega)]
      have e1 : i - (((List.range n).map f).take dp).length = i - dp := by simp; omega
      simp only [Option.map_some, Option.getD_some]
      rw [e1, Nat.add_comm, g _ (by omega)]
    · rw [if_neg (by omega), List.getElem?_append_right (by simp; omega), List.getElem?_drop, List.getElem?_map]
      have e2 : dp + nn + (i - (((List.range n).map f).take dp ++ (List.range nn).map (fun i => ((List.range n).map f).getD (sp + i) (f 0))).length) = i := by simp; omega
      rw [e2, List.getElem?_range hi]; rfl
theorem LT.aI (L : LT Z h n0 a A N I J cc M B) (k : Nat) (hk : k < 16) : AR Z h (A k) .int (N k) (fun j => .int (I k j)) := (L.2.2.1 k hk).2
theorem LT.aJ (L : LT Z h n0 a A N I J cc M B) (k : Nat) (h1 : 16 ≤ k) (hk : k < 22) : AR Z h (A k) .long (N k) (fun j => .long (J k j)) := (L.2.2.2.1 k h1 hk).2
theorem LT.FI (L : LT Z h n0 a A N I J cc M B) (k : Nat) (hk : k < 16) {nm : String} (q : lnm k = nm) : Fld Z h a LTC nm "[I" (.ref (A k)) := q ▸ (L.2.2.1 k hk).1
theorem LT.FJ (L : LT Z h n0 a A N I J cc M B) (k : Nat) (h1 : 16 ≤ k) (hk : k < 22) {nm : String} (q : lnm k = nm) : Fld Z h a LTC nm "[J" (.ref (A k)) := q ▸ (L.2.2.2.1 k h1 hk).1
theorem LT.FM (L : LT Z h n0 a A N I J cc M B) : Fld Z h a LTC "members" "[[I" (.ref (A 22)) := L.2.2.2.2.1.1
theorem LT.Mo (L : LT Z h n0 a A N I J cc M B) : ARo Z h (A 22) (N 22) (mref M) := L.2.2.2.2.1.2
theorem LT.Fc (L : LT Z h n0 a A N I J cc M B) (k : Nat) (hk : k < 4) {nm : String} (q : snm k = nm) : Fld Z h a LTC nm "I" (.int (cc k)) := q ▸ L.2.2.2.2.2.1 k hk
theorem LT.Bo (L : LT Z h n0 a A N I J cc M B) {j : Nat} (hj : j < N 22) (hb : M j = some b) : AR Z h b .int 4 (fun i => .int (B j i)) := (L.2.2.2.2.2.2.1 j b hj hb).1
theorem LT.gB (L : LT Z h n0 a A N I J cc M B) {j : Nat} (hj : j < N 22) (hb : M j = some b) : n0 ≤ b := (L.2.2.2.2.2.2.1 j b hj hb).2.1
theorem LT.gA (L : LT Z h n0 a A N I J cc M B) (k : Nat) (hk : k < 23) : n0 ≤ A k := (L.2.2.2.2.2.2.2.2.2 k hk).2
theorem LT.ga (L : LT Z h n0 a A N I J cc M B) : n0 ≤ a := L.2.1
theorem LT.E (L : LT Z h n0 a A N I J cc M B) : Exa Z h a LTC := L.1
end OwnLT
end Jvm.RoadKit
namespace Jvm.RoadKit
open Sem ClassFile Op Lib Jvm.Stand Jvm.Free Jvm.LawKit
def fnm (k : Nat) : String := ["cpu", "place", "rootOf", "leafSize", "leafParent", "leafSlot", "freeLeaves", "child", "below", "mostCpu", "fromServer", "branchSize", "branchHeight", "branchParent", "branchSlot", "freeBranches", "memory", "leafHigh", "leafLow", "mostMemory", "fromHigh", "fromLow", "members", "leaves", "freeLeafCount", "branches", "freeBranchCount"].getD k ""
def fds (k : Nat) : String := if k < 16 then "[I" else if k < 22 then "[J" else if k = 22 then "[[I" else "I"
def fty (k : Nat) : FieldType := if k < 16 then .array .int else if k < 22 then .array .long else if k = 22 then .array (.array .int) else .int
def OB (Z : State) (h : Heap) (a : Addr) (val : Nat → Value) : Prop := Exa Z h a LTC ∧ ∀ k, k < 27 → Fld Z h a LTC (fnm k) (fds k) (val k)
section OwnOB
variable {Z : State} {h h' : Heap} {a b : Addr} {val : Nat → Value} {sl : Nat} {v : Value} {ws : List Addr}
theorem OB.ext (O : OB Z h a val) (E : Ext h h') : OB Z h' a val := ⟨O.1.ext E, fun k hk => (O.2 k hk).ext E⟩
theorem OB.keep (O : OB Z h a val) (K : Keep h h' ws) (q : a ∉ ws) : OB Z h' a val := ⟨O.1.keep K, fun k hk => (O.2 k hk).keep K q⟩
theorem OB.put (O : OB Z h a val) {k : Nat} (hs : ∀ k', k' < 27 → k' ≠ k → slotOf Z LTC (fnm k') (fds k') ≠ slotOf Z LTC (fnm k) (fds k)) (W : Wr h h' a (slotOf Z LTC (fnm k) (fds k)) v) : OB Z h' a (u1 val k v) := by
  refine ⟨O.1.wr W, fun k' hk' => ?_⟩
  unfold u1
  by_cases q : k' = k
  · subst q; rw [if_pos rfl]; exact (O.2 k' hk').same W
  · rw [if_neg q]; exact (O.2 k' hk').other W (Or.inr (hs k' hk' q))
theorem own_mono {G : Nat → Nat} {n : Nat} (h : ∀ i, i + 1 < n → G i < G (i + 1)) : ∀ i j, i < j → j < n → G i < G j := by
  intro i j hij
  induction j with
  | zero => omega
  | succ j ih =>
    intro hj
    by_cases q : i = j
    · subst q; exact h _ hj
    · exact Nat.lt_trans (ih (by omega) (by omega)) (h _ hj)
theorem own_minj {G : Nat → Nat} {n : Nat} (h : ∀ i, i + 1 < n → G i < G (i + 1)) : ∀ i j, i < n → j < n → G i = G j → i = j := by
  intro i j hi hj e
  rcases Nat.lt_trichotomy i j with q | q | q
  · exact absurd e (Nat.ne_of_lt (own_mono h i j q hj))
  · exact q
  · exact absurd e.symm (Nat.ne_of_lt (own_mono h j i q hi))
end OwnOB
end Jvm.RoadKit
namespace Jvm.Pilot.@@N@@
open Jvm Jvm.ClassFile Sem Op Lib Jvm.Free Jvm.Stand Jvm.LawKit Jvm.RoadKit Bundle Jvm.Pilot.@@N@@.Jvm.D
abbrev vN (n : Nat) : Slot := .val (.int (Int32.ofNat n))
theorem tw {Z : State} {a0 : Array Value} (hw : ∀ d ∈ tables_1, d.before a0 Z = true) (k : Nat) {d : Jvm.Cond} (h : tables_1[k]? = some d) : d.before a0 Z = true := hw d (List.mem_of_getElem? h)
abbrev vJ (x : Int64) : Slot := .val (.long x)
abbrev vI (x : Int32) : Slot := .val (.int x)
abbrev vR (a : Addr) : Slot := .val (.ref a)
abbrev uu : Slot := .unset
abbrev q0 := jdk_35_method_42_code
abbrev q1 := jdk_35_method_43_code
abbrev q2 := jdk_65_method_103_code
abbrev q3 := prog_74_method_14_code
abbrev q4 := prog_74_method_15_code
abbrev q5 := prog_74_method_16_code
abbrev q6 := prog_74_method_17_code
abbrev q7 := prog_74_method_18_code
abbrev q8 := prog_74_method_19_code
abbrev q9 := prog_74_method_1_code
abbrev q10 := prog_74_method_21_code
abbrev q11 := prog_74_method_22_code
abbrev q12 := prog_74_method_29_code
abbrev q13 := prog_74_method_2_code
abbrev q14 := prog_74_method_30_code
abbrev q15 := prog_74_method_31_code
abbrev q16 := prog_74_method_32_code
abbrev q17 := prog_74_method_33_code
abbrev q18 := prog_74_method_4_code
theorem own_selP {Z : State} {a0 : Array Value} (hw : ∀ d ∈ tables_1, d.before a0 Z = true) {y : MethodName} (hi : (Jvm.Cond.instanceMethod y).before a0 Z = true) (hp : (Jvm.Cond.privateMethod y).before a0 Z = true) (hy : y.cls = LTC := by rfl) : (Jvm.Cond.selects y.cls y y).before a0 Z = true := by
  have hsel : (Jvm.Cond.selects LTC (⟨LTC, "insert", "(IIJJ)V"⟩ : MethodName) (⟨LTC, "insert", "(IIJJ)V"⟩ : MethodName)).before a0 Z = true := (tw hw 77 rfl)
  obtain ⟨c, r, m, -, -, q3, -, mk, k1, k2⟩ := Cond.selects_spec hsel
  have hc : Z.vm.findClass y.cls = some m.cls := by rw [hy]; exact findClass_of_methodNamed q3
  exact selects_self_of_private hc k1 k2 (Cond.privateMethod_at hp) hi (by rw [hy]; decide)
theorem own_neg1 {n : Nat} (h : n < 1000) : ¬ (Int32.ofNat n < (-1 : Int32)) := by
  rw [Int32.lt_iff_toInt_lt, own_toI (by omega)]; have : (-1 : Int32).toInt = -1 := rfl; omega
theorem lt_sl0 {Z : State} {a0 : Array Value} (hw : ∀ d ∈ tables_1, d.before a0 Z = true) : (∀ k, k < 16 → Jvm.RoadKit.slotOf Z LTC (lnm k) "[I" ≠ Jvm.RoadKit.slotOf Z LTC (snm 0) "I") ∧ (∀ k, 16 ≤ k → k < 22 → Jvm.RoadKit.slotOf Z LTC (lnm k) "[J" ≠ Jvm.RoadKit.slotOf Z LTC (snm 0) "I") ∧ (Jvm.RoadKit.slotOf Z LTC "members" "[[I" ≠ Jvm.RoadKit.slotOf Z LTC (snm 0) "I") ∧ (∀ k, k < 4 → k ≠ 0 → Jvm.RoadKit.slotOf Z LTC (snm k) "I" ≠ Jvm.RoadKit.slotOf Z LTC (snm 0) "I") := by
  refine ⟨fun k hk => ?_, fun k Y1 Y2 => ?_, slot_ne (Or.inl (tw hw 37 rfl)) (Or.inl (tw hw 94 rfl)) (by decide) (t := (.array (.array .int))) (t' := .int) (by decide) (by decide), fun k hk hne => ?_⟩
  · exact match k, hk with
    | 0, _ => slot_ne (Or.inr (tw hw 23 rfl)) (Or.inl (tw hw 94 rfl)) (by decide) (t := (.array .int)) (t' := .int) (by decide) (by decide)
    | 1, _ => slot_ne (Or.inr (tw hw 27 rfl)) (Or.inl (tw hw 94 rfl)) (by decide) (t := (.array .int)) (t' := .int) (by decide) (by decide)
    | 2, _ => slot_ne (Or.inr (tw hw 33 rfl)) (Or.inl (tw hw 94 rfl)) (by decide) (t := (.array .int)) (t' := .int) (by decide) (by decide)
    | 3, _ => slot_ne (Or.inl (tw hw 39 rfl)) (Or.inl (tw hw 94 rfl)) (by decide) (t := (.array .int)) (t' := .int) (by decide) (by decide)
    | 4, _ => slot_ne (Or.inl (tw hw 45 rfl)) (Or.inl (tw hw 94 rfl)) (by decide) (t := (.array .int)) (t' := .int) (by decide) (by decide)
    | 5, _ => slot_ne (Or.inl (tw hw 47 rfl)) (Or.inl (tw hw 94 rfl)) (by decide) (t := (.array .int)) (t' := .int) (by decide) (by decide)
    | 6, _ => slot_ne (Or.inl (tw hw 49 rfl)) (Or.inl (tw hw 94 rfl)) (by decide) (t := (.array .int)) (t' := .int) (by decide) (by decide)
    | 7, _ => slot_ne (Or.inl (tw hw 51 rfl)) (Or.inl (tw hw 94 rfl)) (by decide) (t := (.array .int)) (t' := .int) (by decide) (by decide)
    | 8, _ => slot_ne (Or.inl (tw hw 53 rfl)) (Or.inl (tw hw 94 rfl)) (by decide) (t := (.array .int)) (t' := .int) (by decide) (by decide)
    | 9, _ => slot_ne (Or.inl (tw hw 55 rfl)) (Or.inl (tw hw 94 rfl)) (by decide) (t := (.array .int)) (t' := .int) (by decide) (by decide)
    | 10, _ => slot_ne (Or.inl (tw hw 63 rfl)) (Or.inl (tw hw 94 rfl)) (by decide) (t := (.array .int)) (t' := .int) (by decide) (by decide)
    | 11, _ => slot_ne (Or.inl (tw hw 65 rfl)) (Or.inl (tw hw 94 rfl)) (by decide) (t := (.array .int)) (t' := .int) (by decide) (by decide)
    | 12, _ => slot_ne (Or.inl (tw hw 67 rfl)) (Or.inl (tw hw 94 rfl)) (by decide) (t := (.array .int)) (t' := .int) (by decide) (by decide)
    | 13, _ => slot_ne (Or.inl (tw hw 69 rfl)) (Or.inl (tw hw 94 rfl)) (by decide) (t := (.array .int)) (t' := .int) (by decide) (by decide)
    | 14, _ => slot_ne (Or.inl (tw hw 71 rfl)) (Or.inl (tw hw 94 rfl)) (by decide) (t := (.array .int)) (t' := .int) (by decide) (by decide)
    | 15, _ => slot_ne (Or.inl (tw hw 73 rfl)) (Or.inl (tw hw 94 rfl)) (by decide) (t := (.array .int)) (t' := .int) (by decide) (by decide)
    | n + 16, h => absurd h (by omega)
  · exact match k, Y1, Y2 with
    | 16, _, _ => slot_ne (Or.inr (tw hw 25 rfl)) (Or.inl (tw hw 94 rfl)) (by decide) (t := (.array .long)) (t' := .int) (by decide) (by decide)
    | 17, _, _ => slot_ne (Or.inl (tw hw 41 rfl)) (Or.inl (tw hw 94 rfl)) (by decide) (t := (.array .long)) (t' := .int) (by decide) (by decide)
    | 18, _, _ => slot_ne (Or.inl (tw hw 43 rfl)) (Or.inl (tw hw 94 rfl)) (by decide) (t := (.array .long)) (t' := .int) (by decide) (by decide)
    | 19, _, _ => slot_ne (Or.inl (tw hw 57 rfl)) (Or.inl (tw hw 94 rfl)) (by decide) (t := (.array .long)) (t' := .int) (by decide) (by decide)
    | 20, _, _ => slot_ne (Or.inl (tw hw 59 rfl)) (Or.inl (tw hw 94 rfl)) (by decide) (t := (.array .long)) (t' := .int) (by decide) (by decide)
    | 21, _, _ => slot_ne (Or.inl (tw hw 61 rfl)) (Or.inl (tw hw 94 rfl)) (by decide) (t := (.array .long)) (t' := .int) (by decide) (by decide)
    | n + 22, _, h => absurd h (by omega)
  · exact match k, hk, hne with
    | 0, _, q => absurd rfl q
    | 1, _, q => slot_ne (Or.inl (tw hw 92 rfl)) (Or.inl (tw hw 94 rfl)) (by decide) (t := .int) (t' := .int) (by decide) (by decide)
    | 2, _, q => slot_ne (Or.inl (tw hw 86 rfl)) (Or.inl (tw hw 94 rfl)) (by decide) (t := .int) (t' := .int) (by decide) (by decide)
    | 3, _, q => slot_ne (Or.inl (tw hw 84 rfl)) (Or.inl (tw hw 94 rfl)) (by decide) (t := .int) (t' := .int) (by decide) (by decide)
    | n + 4, h, _ => absurd h (by omega)
theorem lt_sl2 {Z : State} {a0 : Array Value} (hw : ∀ d ∈ tables_1, d.before a0 Z = true) : (∀ k, k < 16 → Jvm.RoadKit.slotOf Z LTC (lnm k) "[I" ≠ Jvm.RoadKit.slotOf Z LTC (snm 2) "I") ∧ (∀ k, 16 ≤ k → k < 22 → Jvm.RoadKit.slotOf Z LTC (lnm k) "[J" ≠ Jvm.RoadKit.slotOf Z LTC (snm 2) "I") ∧ (Jvm.RoadKit.slotOf Z LTC "members" "[[I" ≠ Jvm.RoadKit.slotOf Z LTC (snm 2) "I") ∧ (∀ k, k < 4 → k ≠ 2 → Jvm.RoadKit.slotOf Z LTC (snm k) "I" ≠ Jvm.RoadKit.slotOf Z LTC (snm 2) "I") := by
  refine ⟨fun k hk => ?_, fun k Y1 Y2 => ?_, slot_ne (Or.inl (tw hw 37 rfl)) (Or.inl (tw hw 86 rfl)) (by decide) (t := (.array (.array .int))) (t' := .int) (by decide) (by decide), fun k hk hne => ?_⟩
  · exact match k, hk with
    | 0, _ => slot_ne (Or.inr (tw hw 23 rfl)) (Or.inl (tw hw 86 rfl)) (by decide) (t := (.array .int)) (t' := .int) (by decide) (by decide)
    | 1, _ => slot_ne (Or.inr (tw hw 27 rfl)) (Or.inl (tw hw 86 rfl)) (by decide) (t := (.array .int)) (t' := .int) (by decide) (by decide)
    | 2, _ => slot_ne (Or.inr (tw hw 33 rfl)) (Or.inl (tw hw 86 rfl)) (by decide) (t := (.array .int)) (t' := .int) (by decide) (by decide)
    | 3, _ => slot_ne (Or.inl (tw hw 39 rfl)) (Or.inl (tw hw 86 rfl)) (by decide) (t := (.array .int)) (t' := .int) (by decide) (by decide)
    | 4, _ => slot_ne (Or.inl (tw hw 45 rfl)) (Or.inl (tw hw 86 rfl)) (by decide) (t := (.array .int)) (t' := .int) (by decide) (by decide)
    | 5, _ => slot_ne (Or.inl (tw hw 47 rfl)) (Or.inl (tw hw 86 rfl)) (by decide) (t := (.array .int)) (t' := .int) (by decide) (by decide)
    | 6, _ => slot_ne (Or.inl (tw hw 49 rfl)) (Or.inl (tw hw 86 rfl)) (by decide) (t := (.array .int)) (t' := .int) (by decide) (by decide)
    | 7, _ => slot_ne (Or.inl (tw hw 51 rfl)) (Or.inl (tw hw 86 rfl)) (by decide) (t := (.array .int)) (t' := .int) (by decide) (by decide)
    | 8, _ => slot_ne (Or.inl (tw hw 53 rfl)) (Or.inl (tw hw 86 rfl)) (by decide) (t := (.array .int)) (t' := .int) (by decide) (by decide)
    | 9, _ => slot_ne (Or.inl (tw hw 55 rfl)) (Or.inl (tw hw 86 rfl)) (by decide) (t := (.array .int)) (t' := .int) (by decide) (by decide)
    | 10, _ => slot_ne (Or.inl (tw hw 63 rfl)) (Or.inl (tw hw 86 rfl)) (by decide) (t := (.array .int)) (t' := .int) (by decide) (by decide)
    | 11, _ => slot_ne (Or.inl (tw hw 65 rfl)) (Or.inl (tw hw 86 rfl)) (by decide) (t := (.array .int)) (t' := .int) (by decide) (by decide)
    | 12, _ => slot_ne (Or.inl (tw hw 67 rfl)) (Or.inl (tw hw 86 rfl)) (by decide) (t := (.array .int)) (t' := .int) (by decide) (by decide)
    | 13, _ => slot_ne (Or.inl (tw hw 69 rfl)) (Or.inl (tw hw 86 rfl)) (by decide) (t := (.array .int)) (t' := .int) (by decide) (by decide)
    | 14, _ => slot_ne (Or.inl (tw hw 71 rfl)) (Or.inl (tw hw 86 rfl)) (by decide) (t := (.array .int)) (t' := .int) (by decide) (by decide)
    | 15, _ => slot_ne (Or.inl (tw hw 73 rfl)) (Or.inl (tw hw 86 rfl)) (by decide) (t := (.array .int)) (t' := .int) (by decide) (by decide)
    | n + 16, h => absurd h (by omega)
  · exact match k, Y1, Y2 with
    | 16, _, _ => slot_ne (Or.inr (tw hw 25 rfl)) (Or.inl (tw hw 86 rfl)) (by decide) (t := (.array .long)) (t' := .int) (by decide) (by decide)
    | 17, _, _ => slot_ne (Or.inl (tw hw 41 rfl)) (Or.inl (tw hw 86 rfl)) (by decide) (t := (.array .long)) (t' := .int) (by decide) (by decide)
    | 18, _, _ => slot_ne (Or.inl (tw hw 43 rfl)) (Or.inl (tw hw 86 rfl)) (by decide) (t := (.array .long)) (t' := .int) (by decide) (by decide)
    | 19, _, _ => slot_ne (Or.inl (tw hw 57 rfl)) (Or.inl (tw hw 86 rfl)) (by decide) (t := (.array .long)) (t' := .int) (by decide) (by decide)
    | 20, _, _ => slot_ne (Or.inl (tw hw 59 rfl)) (Or.inl (tw hw 86 rfl)) (by decide) (t := (.array .long)) (t' := .int) (by decide) (by decide)
    | 21, _, _ => slot_ne (Or.inl (tw hw 61 rfl)) (Or.inl (tw hw 86 rfl)) (by decide) (t := (.array .long)) (t' := .int) (by decide) (by decide)
    | n + 22, _, h => absurd h (by omega)
  · exact match k, hk, hne with
    | 0, _, q => slot_ne (Or.inl (tw hw 94 rfl)) (Or.inl (tw hw 86 rfl)) (by decide) (t := .int) (t' := .int) (by decide) (by decide)
    | 1, _, q => slot_ne (Or.inl (tw hw 92 rfl)) (Or.inl (tw hw 86 rfl)) (by decide) (t := .int) (t' := .int) (by decide) (by decide)
    | 2, _, q => absurd rfl q
    | 3, _, q => slot_ne (Or.inl (tw hw 84 rfl)) (Or.inl (tw hw 86 rfl)) (by decide) (t := .int) (t' := .int) (by decide) (by decide)
    | n + 4, h, _ => absurd h (by omega)
theorem own_xm (x : Int64) : x ^^^ (-9223372036854775808 : Int64) = x + (-9223372036854775808 : Int64) := by
  apply Int64.toBitVec_inj.mp
  rw [Int64.toBitVec_xor, Int64.toBitVec_add]
  have e : (-9223372036854775808 : Int64).toBitVec = 0x8000000000000000#64 := by decide
  rw [e]
  generalize x.toBitVec = y
  apply BitVec.eq_of_toNat_eq
  rw [BitVec.toNat_xor, BitVec.toNat_add]
  have e2 : (0x8000000000000000#64).toNat = 2 ^ 63 := by decide
  rw [e2]
  apply Nat.eq_of_testBit_eq
  intro i
  rw [Nat.testBit_xor, Nat.testBit_two_pow, Nat.testBit_mod_two_pow, Nat.add_comm]
  by_cases h : i < 64
  · by_cases h2 : i = 63
    · subst h2; rw [Nat.testBit_two_pow_add_eq]; simp
    · rw [Nat.testBit_two_pow_add_gt (by omega)]
      have n1 : ¬ (63 = i) := by omega
      simp [h, n1]
  · have : y.toNat.testBit i = false := Nat.testBit_lt_two_pow (Nat.lt_of_lt_of_le y.isLt (Nat.pow_le_pow_right (by decide) (by omega)))
    have n1 : ¬ (63 = i) := by omega
    rw [this]; simp [h, n1]
def own_k (h l h2 l2 : Int64) : Int32 := if lcmpW h h2 = 0 then lcmpW (l + (-9223372036854775808 : Int64)) (l2 + (-9223372036854775808 : Int64)) else lcmpW h h2
def own_kv (h l : Int64) : Int := h.toInt * 18446744073709551616 + (l + (-9223372036854775808 : Int64)).toInt
theorem own_lc3 (x y : Int64) : (lcmpW x y = -1 ∧ x.toInt < y.toInt) ∨ (lcmpW x y = 0 ∧ x = y) ∨ (lcmpW x y = 1 ∧ y.toInt < x.toInt) := by
  unfold lcmpW
  by_cases h : x > y
  · rw [if_pos h]; right; right; exact ⟨rfl, Int64.lt_iff_toInt_lt.mp h⟩
  · rw [if_neg h]
    by_cases h2 : x = y
    · rw [if_pos h2]; right; left; exact ⟨rfl, h2⟩
    · rw [if_neg h2]; left
      have h3 : ¬ y.toInt < x.toInt := fun q => h (Int64.lt_iff_toInt_lt.mpr q)
      have h4 : x.toInt ≠ y.toInt := fun q => h2 (Int64.toInt_inj.mp q)
      exact ⟨rfl, by omega⟩
theorem own_k_lt (h l h2 l2 : Int64) : own_k h l h2 l2 < 0 ↔ own_kv h l < own_kv h2 l2 := by
  unfold own_k own_kv
  generalize hx : l + (-9223372036854775808 : Int64) = x
  generalize hy : l2 + (-9223372036854775808 : Int64) = y
  have bx := x.le_toInt; have bx' := x.toInt_lt; have by1 := y.le_toInt; have by2 := y.toInt_lt
  rcases own_lc3 h h2 with ⟨a, b⟩ | ⟨a, b⟩ | ⟨a, b⟩ <;> rcases own_lc3 x y with ⟨c, d⟩ | ⟨c, d⟩ | ⟨c, d⟩ <;> (try subst b) <;> (try subst d) <;> simp only [a, c] <;> (first | (constructor <;> intro q <;> first | omega | (exact absurd q (by decide)) | decide))
theorem own_kv_inj {h l h2 l2 : Int64} (e : own_kv h l = own_kv h2 l2) : h = h2 ∧ l = l2 := by
  unfold own_kv at e
  have h1 := (l + (-9223372036854775808 : Int64)).le_toInt
  have h3 := (l + (-9223372036854775808 : Int64)).toInt_lt
  have h4 := (l2 + (-9223372036854775808 : Int64)).le_toInt
  have h5 := (l2 + (-9223372036854775808 : Int64)).toInt_lt
  have e1 : h = h2 := Int64.toInt_inj.mp (by omega)
  subst e1
  have e2 : l + (-9223372036854775808 : Int64) = l2 + (-9223372036854775808 : Int64) := Int64.toInt_inj.mp (by omega)
  refine ⟨rfl, ?_⟩
  have := congrArg (fun z => z - (-9223372036854775808 : Int64)) e2
  simpa only [Int64.add_sub_cancel] using this
theorem d18_0 : decode q0 0 = .ok (.lload_n 0, 1) := by decide +kernel
theorem d18_1 : decode q0 1 = .ok (.lload_n 2, 1) := by decide +kernel
theorem d18_2 : decode q0 2 = .ok (.lcmp, 1) := by decide +kernel
theorem d18_3 : decode q0 3 = .ok (.ifCond .ge 7, 3) := by decide +kernel
theorem d18_6 : decode q0 6 = .ok (.iconst (-1), 1) := by decide +kernel
theorem d18_7 : decode q0 7 = .ok (.goto 14, 3) := by decide +kernel
theorem d18_10 : decode q0 10 = .ok (.lload_n 0, 1) := by decide +kernel
theorem d18_11 : decode q0 11 = .ok (.lload_n 2, 1) := by decide +kernel
theorem d18_12 : decode q0 12 = .ok (.lcmp, 1) := by decide +kernel
theorem d18_13 : decode q0 13 = .ok (.ifCond .ne 7, 3) := by decide +kernel
theorem d18_16 : decode q0 16 = .ok (.iconst 0, 1) := by decide +kernel
theorem d18_17 : decode q0 17 = .ok (.goto 4, 3) := by decide +kernel
theorem d18_20 : decode q0 20 = .ok (.iconst 1, 1) := by decide +kernel
theorem d18_21 : decode q0 21 = .ok (.ireturn, 1) := by decide +kernel
theorem pn_java_lang_Long : plainName "java/lang/Long" = true := by first | (simp [plainName, overriddenIn]; done) | decide +kernel
theorem ef_rmLc (m : MethodId) (x0 : Int64) (x1 : Int64) : entryFrame m #[(.long x0), (.long x1)] 4 = mkF m 0 #[vJ x0, .second, vJ x1, .second] [] := by first | (simp [entryFrame, mkF, argsToLocals, Value.category]; done) | rfl
def QrmLc (Z : State) (x1 x2 : Int64) (h0 : Heap) (n0 : Nat) (v : Option Value) (h : Heap) (L : List Loc) : Prop := v = some (.int (lcmpW x1 x2)) ∧ Fr n0 L ∧ h = h0
set_option maxRecDepth 65536 in
set_option maxHeartbeats 40000000 in
theorem rmLc (l : Launch) (Z : State) (a0 : Array Value) (hw : ∀ d ∈ tables_1, d.before a0 Z = true) (ws : List Jvm.Cond) (x1 x2 : Int64) (h0 : Heap) (n0 : Nat) (Z0 : n0 ≤ h0.size) :
    MetFree l (⟨"java/lang/Long", "compare", "(JJ)I"⟩ : MethodName) (head1 (Jvm.Cond.code (⟨"java/lang/Long", "compare", "(JJ)I"⟩ : MethodName) jdk_35_method_42_code 4 (some .int) :: ws) ({ frames := 0, cells := 0, slots := 0, locals := 0 } : Room)) (fun a U => a = #[(.long x1), (.long x2)] ∧ Z.Warmed39 U.vm ∧ U.heap = h0) (fun _ _ _ _ _ => True) (fun _ U o U' => ∃ v L, o = .returned v ∧ QrmLc Z x1 x2 h0 n0 v U'.heap L ∧ FrameEnd U o U' L ({ frames := 0, cells := 0, slots := 0, locals := 0 } : Room).cells ({ frames := 0, cells := 0, slots := 0, locals := 0 } : Room).slots) := by
  refine MetFree.of_bodySF (plainFor_of_name pn_java_lang_Long) hisR ?_
  intro p e s m args below meth c s₁ Bd hml0 hP hK
  obtain ⟨rfl, hZ, hh⟩ := hP
  have hx := Bd.exec
  have hby := Bd.bytes
  have hml : c.maxLocals = 4 := hml0
  have hown : s.vm.findClass "java/lang/Long" = some m.cls := findClass_of_methodNamed Bd.named
  have hnm := (name_of_methodNamed Bd.named Bd.method).1
  have X0 : Stand p l e ({ frames := 0, cells := 0, slots := 0, locals := 0 } : Room) s m #[(.long x1), (.long x2)] below meth c s₁ [] 0 0 := Stand.of_body Bd
  have e0 : s₁.heap = h0 := by rw [← hh, Bd.state]; rfl
  have N0 := Fr.nil n0
  have pre0 : ∀ t, Steps p.tables e below (s₁.setTop (mkF m 0 #[vJ x1, .second, vJ x2, .second] [])) t → Steps p.tables e below (s₁.setTop (entryFrame m #[(.long x1), (.long x2)] 4)) t := fun t k => castTop (ef_rmLc m x1 x2) k
  have c1 : ∀ t, Steps p.tables e below (s₁.setTop (mkF m 3 #[vJ x1, .second, vJ x2, .second] [(.int (lcmpW x1 x2))])) t → Steps p.tables e below (s₁.setTop (mkF m 0 #[vJ x1, .second, vJ x2, .second] [])) t := by
    intro t kt
    show Steps p.tables e below (s₁.setTop (mkF m 0 #[vJ x1, .second, vJ x2, .second] [])) _
    refine XS.lloadN X0.here hx rfl (hb hby d18_0) rfl ?_
    show Steps p.tables e below (s₁.setTop (mkF m 1 #[vJ x1, .second, vJ x2, .second] [(.long x1)])) _
    refine XS.lloadN X0.here hx rfl (hb hby d18_1) rfl ?_
    show Steps p.tables e below (s₁.setTop (mkF m 2 #[vJ x1, .second, vJ x2, .second] [(.long x2), (.long x1)])) _
    refine XS.lcmp X0.here hx rfl (hb hby d18_2) rfl ?_
    exact kt
  by_cases hc3 : (lcmpW x1 x2) < (0 : Int32)
  · obtain ⟨fs, hr, hrun, hended, hW, hsame⟩ := X0.leave (v := some (.int (-1 : Int32))) (fun h => by rw [Bd.returns] at h; cases h)
    refine ⟨_, _, pre0 _ (c1 _ (?_)), hrun, hended, _, _, rfl, ?_, ⟨_, rfl⟩, hW, hsame.mono (by decide) (by decide)⟩
    · show Steps p.tables e below (s₁.setTop (mkF m 3 #[vJ x1, .second, vJ x2, .second] [(.int (lcmpW x1 x2))])) _
      refine XS.ifNo X0.here hx rfl (hb hby d18_3) rfl ((if0 _ _).trans (tlt hc3).2.1) ?_
      show Steps p.tables e below (s₁.setTop (mkF m 6 #[vJ x1, .second, vJ x2, .second] [])) _
      refine XS.iconst X0.here hx rfl (hb hby d18_6) ?_
      show Steps p.tables e below (s₁.setTop (mkF m 7 #[vJ x1, .second, vJ x2, .second] [(.int (-1 : Int32))])) _
      refine XS.goto X0.here hx rfl (pc0 := 7) (pc' := 21) rfl (hb hby d18_7) (by decide) (by decide) ?_
      show Steps p.tables e below (s₁.setTop (mkF m 21 #[vJ x1, .second, vJ x2, .second] [(.int (-1 : Int32))])) _
      exact retI X0 hx Bd.returns (hb hby d18_21) hr
    · show QrmLc Z x1 x2 h0 n0 _ s₁.heap _
      rw [e0]
      exact ⟨by rcases own_lc3 x1 x2 with ⟨a, -⟩ | ⟨a, -⟩ | ⟨a, -⟩ <;> rw [a] at hc3 ⊢ <;> first | rfl | (exact absurd hc3 (by decide)) , N0, rfl⟩
  · have c2 : ∀ t, Steps p.tables e below (s₁.setTop (mkF m 13 #[vJ x1, .second, vJ x2, .second] [(.int (lcmpW x1 x2))])) t → Steps p.tables e below (s₁.setTop (mkF m 3 #[vJ x1, .second, vJ x2, .second] [(.int (lcmpW x1 x2))])) t := by
      intro t kt
      show Steps p.tables e below (s₁.setTop (mkF m 3 #[vJ x1, .second, vJ x2, .second] [(.int (lcmpW x1 x2))])) _
      refine XS.ifYes X0.here hx rfl (pc0 := 3) (pc' := 10) rfl (hb hby d18_3) rfl ((if0 _ _).trans (flt hc3).2.1) (by decide) (by decide) ?_
      show Steps p.tables e below (s₁.setTop (mkF m 10 #[vJ x1, .second, vJ x2, .second] [])) _
      refine XS.lloadN X0.here hx rfl (hb hby d18_10) rfl ?_
      show Steps p.tables e below (s₁.setTop (mkF m 11 #[vJ x1, .second, vJ x2, .second] [(.long x1)])) _
      refine XS.lloadN X0.here hx rfl (hb hby d18_11) rfl ?_
      show Steps p.tables e below (s₁.setTop (mkF m 12 #[vJ x1, .second, vJ x2, .second] [(.long x2), (.long x1)])) _
      refine XS.lcmp X0.here hx rfl (hb hby d18_12) rfl ?_
      exact kt
    by_cases hc13 : (lcmpW x1 x2) = (0 : Int32)
    · obtain ⟨fs, hr, hrun, hended, hW, hsame⟩ := X0.leave (v := some (.int (0 : Int32))) (fun h => by rw [Bd.returns] at h; cases h)
      refine ⟨_, _, pre0 _ (c1 _ (c2 _ (?_))), hrun, hended, _, _, rfl, ?_, ⟨_, rfl⟩, hW, hsame.mono (by decide) (by decide)⟩
      · show Steps p.tables e below (s₁.setTop (mkF m 13 #[vJ x1, .second, vJ x2, .second] [(.int (lcmpW x1 x2))])) _
        refine XS.ifNo X0.here hx rfl (hb hby d18_13) rfl ((if0 _ _).trans (teq hc13).2) ?_
        show Steps p.tables e below (s₁.setTop (mkF m 16 #[vJ x1, .second, vJ x2, .second] [])) _
        refine XS.iconst X0.here hx rfl (hb hby d18_16) ?_
        show Steps p.tables e below (s₁.setTop (mkF m 17 #[vJ x1, .second, vJ x2, .second] [(.int (0 : Int32))])) _
        refine XS.goto X0.here hx rfl (pc0 := 17) (pc' := 21) rfl (hb hby d18_17) (by decide) (by decide) ?_
        show Steps p.tables e below (s₁.setTop (mkF m 21 #[vJ x1, .second, vJ x2, .second] [(.int (0 : Int32))])) _
        exact retI X0 hx Bd.returns (hb hby d18_21) hr
      · show QrmLc Z x1 x2 h0 n0 _ s₁.heap _
        rw [e0]
        exact ⟨by rcases own_lc3 x1 x2 with ⟨a, -⟩ | ⟨a, -⟩ | ⟨a, -⟩ <;> rw [a] at hc3 hc13 ⊢ <;> first | rfl | (exact absurd hc3 (by decide)) | (exact absurd hc13 (by decide)), N0, rfl⟩
    · obtain ⟨fs, hr, hrun, hended, hW, hsame⟩ := X0.leave (v := some (.int (1 : Int32))) (fun h => by rw [Bd.returns] at h; cases h)
      refine ⟨_, _, pre0 _ (c1 _ (c2 _ (?_))), hrun, hended, _, _, rfl, ?_, ⟨_, rfl⟩, hW, hsame.mono (by decide) (by decide)⟩
      · show Steps p.tables e below (s₁.setTop (mkF m 13 #[vJ x1, .second, vJ x2, .second] [(.int (lcmpW x1 x2))])) _
        refine XS.ifYes X0.here hx rfl (pc0 := 13) (pc' := 20) rfl (hb hby d18_13) rfl ((if0 _ _).trans (feq hc13).2) (by decide) (by decide) ?_
        show Steps p.tables e below (s₁.setTop (mkF m 20 #[vJ x1, .second, vJ x2, .second] [])) _
        refine XS.iconst X0.here hx rfl (hb hby d18_20) ?_
        show Steps p.tables e below (s₁.setTop (mkF m 21 #[vJ x1, .second, vJ x2, .second] [(.int (1 : Int32))])) _
        exact retI X0 hx Bd.returns (hb hby d18_21) hr
      · show QrmLc Z x1 x2 h0 n0 _ s₁.heap _
        rw [e0]
        exact ⟨by rcases own_lc3 x1 x2 with ⟨a, -⟩ | ⟨a, -⟩ | ⟨a, -⟩ <;> rw [a] at hc3 hc13 ⊢ <;> first | rfl | (exact absurd hc3 (by decide)) | (exact absurd hc13 (by decide)), N0, rfl⟩
theorem d17_0 : decode q1 0 = .ok (.lload_n 0, 1) := by decide +kernel
theorem d17_1 : decode q1 1 = .ok (.ldc2_w 168, 3) := by decide +kernel
theorem d17_4 : decode q1 4 = .ok (.ladd, 1) := by decide +kernel
theorem d17_5 : decode q1 5 = .ok (.lload_n 2, 1) := by decide +kernel
theorem d17_6 : decode q1 6 = .ok (.ldc2_w 168, 3) := by decide +kernel
theorem d17_9 : decode q1 9 = .ok (.ladd, 1) := by decide +kernel
theorem d17_10 : decode q1 10 = .ok (.invokestatic 302, 3) := by decide +kernel
theorem d17_13 : decode q1 13 = .ok (.ireturn, 1) := by decide +kernel
theorem pd__28JJ_29I : parseMethodDescriptor "(JJ)I" = some ⟨[.long, .long], some .int⟩ := by decide +kernel
theorem ef_rmLu (m : MethodId) (x0 : Int64) (x1 : Int64) : entryFrame m #[(.long x0), (.long x1)] 4 = mkF m 0 #[vJ x0, .second, vJ x1, .second] [] := by first | (simp [entryFrame, mkF, argsToLocals, Value.category]; done) | rfl
def QrmLu (Z : State) (x1 x2 : Int64) (h0 : Heap) (n0 : Nat) (v : Option Value) (h : Heap) (L : List Loc) : Prop := v = some (.int (lcmpW (x1 + (-9223372036854775808 : Int64)) (x2 + (-9223372036854775808 : Int64)))) ∧ Fr n0 L ∧ h = h0
set_option maxRecDepth 65536 in
set_option maxHeartbeats 40000000 in
theorem rmLu (l : Launch) (Z : State) (a0 : Array Value) (hw : ∀ d ∈ tables_1, d.before a0 Z = true) (ws : List Jvm.Cond) (x1 x2 : Int64) (h0 : Heap) (n0 : Nat) (Z0 : n0 ≤ h0.size) :
    MetFree l (⟨"java/lang/Long", "compareUnsigned", "(JJ)I"⟩ : MethodName) (head1 (Jvm.Cond.code (⟨"java/lang/Long", "compareUnsigned", "(JJ)I"⟩ : MethodName) jdk_35_method_43_code 4 (some .int) :: ws) ({ frames := 1, cells := 0, slots := 0, locals := 15 } : Room)) (fun a U => a = #[(.long x1), (.long x2)] ∧ Z.Warmed39 U.vm ∧ U.heap = h0) (fun _ _ _ _ _ => True) (fun _ U o U' => ∃ v L, o = .returned v ∧ QrmLu Z x1 x2 h0 n0 v U'.heap L ∧ FrameEnd U o U' L ({ frames := 1, cells := 0, slots := 0, locals := 15 } : Room).cells ({ frames := 1, cells := 0, slots := 0, locals := 15 } : Room).slots) := by
  refine MetFree.of_bodySF (plainFor_of_name pn_java_lang_Long) hisR ?_
  intro p e s m args below meth c s₁ Bd hml0 hP hK
  obtain ⟨rfl, hZ, hh⟩ := hP
  have hx := Bd.exec
  have hby := Bd.bytes
  have hml : c.maxLocals = 4 := hml0
  have hown : s.vm.findClass "java/lang/Long" = some m.cls := findClass_of_methodNamed Bd.named
  have hnm := (name_of_methodNamed Bd.named Bd.method).1
  have X0 : Stand p l e ({ frames := 1, cells := 0, slots := 0, locals := 15 } : Room) s m #[(.long x1), (.long x2)] below meth c s₁ [] 0 0 := Stand.of_body Bd
  have e0 : s₁.heap = h0 := by rw [← hh, Bd.state]; rfl
  have N0 := Fr.nil n0
  have pre0 : ∀ t, Steps p.tables e below (s₁.setTop (mkF m 0 #[vJ x1, .second, vJ x2, .second] [])) t → Steps p.tables e below (s₁.setTop (entryFrame m #[(.long x1), (.long x2)] 4)) t := fun t k => castTop (ef_rmLu m x1 x2) k
  obtain ⟨_, _, ⟨T1, L1, k1, n1⟩, -, X1, ⟨Lc1, hQ1, l1, y1, z1⟩, st1⟩ := Jvm.LawKit.callS X0 hx (y := (⟨"java/lang/Long", "compare", "(JJ)I"⟩ : MethodName)) hown (mvT hZ (tw hw 131 rfl)) (mvT hZ (tw hw 132 rfl)) (mvT hZ (tw hw 128 rfl)) (mvT hZ (tw hw 133 rfl)) (by decide) (backOf (W := 0) (rmLc l Z a0 hw [] (x1 + (-9223372036854775808 : Int64)) (x2 + (-9223372036854775808 : Int64)) h0 n0 Z0) hZ (tw hw 133 rfl) (tw hw 128 rfl) (by decide) (by decide)) (g := (mkF m 10 #[vJ x1, .second, vJ x2, .second] [(.long (x2 + (-9223372036854775808 : Int64))), (.long (x1 + (-9223372036854775808 : Int64)))])) rfl (by rw [hml]; rfl) (argsL := [(.long (x1 + (-9223372036854775808 : Int64))), (.long (x2 + (-9223372036854775808 : Int64)))]) (rest := []) (lenOf pd__28JJ_29I rfl) rfl (by show 2 * 0 + _ ≤ _; exact Nat.le_of_eq rfl) (hb hby d17_10) (fun _ _ => ⟨rfl, e0, (by decide : 0 + 0 ≤ _), (by decide : 0 + 0 ≤ _)⟩)
  dsimp only [Pt.U, Pt.locs, Pt.cells, Pt.slots] at X1 l1 y1 z1 st1 hQ1
  subst l1 y1 z1
  obtain ⟨rfl, N1q, e1⟩ := hQ1
  have N1 := Fr.app N0 N1q
  obtain ⟨fs, hr, hrun, hended, hW, hsame⟩ := X1.leave (v := some (.int (lcmpW (x1 + (-9223372036854775808 : Int64)) (x2 + (-9223372036854775808 : Int64))))) (fun h => by rw [Bd.returns] at h; cases h)
  refine ⟨_, _, pre0 _ (?_), hrun, hended, _, _, rfl, ?_, ⟨_, rfl⟩, hW, hsame.mono (by decide) (by decide)⟩
  · show Steps p.tables e below (s₁.setTop (mkF m 0 #[vJ x1, .second, vJ x2, .second] [])) _
    refine XS.lloadN X0.here hx rfl (hb hby d17_0) rfl ?_
    show Steps p.tables e below (s₁.setTop (mkF m 1 #[vJ x1, .second, vJ x2, .second] [(.long x1)])) _
    refine X0.ldc2Long hx hown (mvT hZ (tw hw 130 rfl)) (g := (mkF m 1 #[vJ x1, .second, vJ x2, .second] [(.long x1)])) rfl (hb hby d17_1) _ ?_
    show Steps p.tables e below (s₁.setTop (mkF m 4 #[vJ x1, .second, vJ x2, .second] [(.long (-9223372036854775808 : Int64)), (.long x1)])) _
    refine XS.ladd X0.here hx rfl (hb hby d17_4) rfl ?_
    show Steps p.tables e below (s₁.setTop (mkF m 5 #[vJ x1, .second, vJ x2, .second] [(.long (x1 + (-9223372036854775808 : Int64)))])) _
    refine XS.lloadN X0.here hx rfl (hb hby d17_5) rfl ?_
    show Steps p.tables e below (s₁.setTop (mkF m 6 #[vJ x1, .second, vJ x2, .second] [(.long x2), (.long (x1 + (-9223372036854775808 : Int64)))])) _
    refine X0.ldc2Long hx hown (mvT hZ (tw hw 130 rfl)) (g := (mkF m 6 #[vJ x1, .second, vJ x2, .second] [(.long x2), (.long (x1 + (-9223372036854775808 : Int64)))])) rfl (hb hby d17_6) _ ?_
    show Steps p.tables e below (s₁.setTop (mkF m 9 #[vJ x1, .second, vJ x2, .second] [(.long (-9223372036854775808 : Int64)), (.long x2), (.long (x1 + (-9223372036854775808 : Int64)))])) _
    refine XS.ladd X0.here hx rfl (hb hby d17_9) rfl ?_
    show Steps p.tables e below (s₁.setTop (mkF m 10 #[vJ x1, .second, vJ x2, .second] [(.long (x2 + (-9223372036854775808 : Int64))), (.long (x1 + (-9223372036854775808 : Int64)))])) _
    refine st1 _ ?_
    show Steps p.tables e below (T1.setTop (mkF m 13 #[vJ x1, .second, vJ x2, .second] [(.int (lcmpW (x1 + (-9223372036854775808 : Int64)) (x2 + (-9223372036854775808 : Int64))))])) _
    exact retI X1 hx Bd.returns (hb hby d17_13) hr
  · show QrmLu Z x1 x2 h0 n0 _ T1.heap _
    rw [e1]
    exact ⟨rfl, N1, rfl⟩
theorem d16_0 : decode q15 0 = .ok (.lload_n 0, 1) := by decide +kernel
theorem d16_1 : decode q15 1 = .ok (.lload 4, 2) := by decide +kernel
theorem d16_3 : decode q15 3 = .ok (.lcmp, 1) := by decide +kernel
theorem d16_4 : decode q15 4 = .ok (.ifCond .eq 12, 3) := by decide +kernel
theorem d16_7 : decode q15 7 = .ok (.lload_n 0, 1) := by decide +kernel
theorem d16_8 : decode q15 8 = .ok (.lload 4, 2) := by decide +kernel
theorem d16_10 : decode q15 10 = .ok (.invokestatic 212, 3) := by decide +kernel
theorem d16_13 : decode q15 13 = .ok (.goto 9, 3) := by decide +kernel
theorem d16_16 : decode q15 16 = .ok (.lload_n 2, 1) := by decide +kernel
theorem d16_17 : decode q15 17 = .ok (.lload 6, 2) := by decide +kernel
theorem d16_19 : decode q15 19 = .ok (.invokestatic 217, 3) := by decide +kernel
theorem d16_22 : decode q15 22 = .ok (.ireturn, 1) := by decide +kernel
theorem pn_com_example_ebbtide_ebbtide_cluster_LoadTrees : plainName "com/example/ebbtide/ebbtide/cluster/LoadTrees" = true := by first | (simp [plainName, overriddenIn]; done) | decide +kernel
theorem ef_rmCmp (m : MethodId) (x0 : Int64) (x1 : Int64) (x2 : Int64) (x3 : Int64) : entryFrame m #[(.long x0), (.long x1), (.long x2), (.long x3)] 8 = mkF m 0 #[vJ x0, .second, vJ x1, .second, vJ x2, .second, vJ x3, .second] [] := by first | (simp [entryFrame, mkF, argsToLocals, Value.category]; done) | rfl
def QrmCmp (Z : State) (x1 x2 x3 x4 : Int64) (h0 : Heap) (n0 : Nat) (v : Option Value) (h : Heap) (L : List Loc) : Prop := v = some (.int (own_k x1 x2 x3 x4)) ∧ Fr n0 L ∧ h = h0
set_option maxRecDepth 65536 in
set_option maxHeartbeats 40000000 in
theorem rmCmp (l : Launch) (Z : State) (a0 : Array Value) (hw : ∀ d ∈ tables_1, d.before a0 Z = true) (ws : List Jvm.Cond) (x1 x2 x3 x4 : Int64) (h0 : Heap) (n0 : Nat) (Z0 : n0 ≤ h0.size) :
    MetFree l (⟨"com/example/ebbtide/ebbtide/cluster/LoadTrees", "compare", "(JJJJ)I"⟩ : MethodName) (head1 (Jvm.Cond.code (⟨"com/example/ebbtide/ebbtide/cluster/LoadTrees", "compare", "(JJJJ)I"⟩ : MethodName) prog_74_method_31_code 8 (some .int) :: ws) ({ frames := 2, cells := 0, slots := 0, locals := 30 } : Room)) (fun a U => a = #[(.long x1), (.long x2), (.long x3), (.long x4)] ∧ Z.Warmed39 U.vm ∧ U.heap = h0) (fun _ _ _ _ _ => True) (fun _ U o U' => ∃ v L, o = .returned v ∧ QrmCmp Z x1 x2 x3 x4 h0 n0 v U'.heap L ∧ FrameEnd U o U' L ({ frames := 2, cells := 0, slots := 0, locals := 30 } : Room).cells ({ frames := 2, cells := 0, slots := 0, locals := 30 } : Room).slots) := by
  refine MetFree.of_bodySF (plainFor_of_name pn_com_example_ebbtide_ebbtide_cluster_LoadTrees) hisR ?_
  intro p e s m args below meth c s₁ Bd hml0 hP hK
  obtain ⟨rfl, hZ, hh⟩ := hP
  have hx := Bd.exec
  have hby := Bd.bytes
  have hml : c.maxLocals = 8 := hml0
  have hown : s.vm.findClass "com/example/ebbtide/ebbtide/cluster/LoadTrees" = some m.cls := findClass_of_methodNamed Bd.named
  have hnm := (name_of_methodNamed Bd.named Bd.method).1
  have X0 : Stand p l e ({ frames := 2, cells := 0, slots := 0, locals := 30 } : Room) s m #[(.long x1), (.long x2), (.long x3), (.long x4)] below meth c s₁ [] 0 0 := Stand.of_body Bd
  have e0 : s₁.heap = h0 := by rw [← hh, Bd.state]; rfl
  have N0 := Fr.nil n0
  have pre0 : ∀ t, Steps p.tables e below (s₁.setTop (mkF m 0 #[vJ x1, .second, vJ x2, .second, vJ x3, .second, vJ x4, .second] [])) t → Steps p.tables e below (s₁.setTop (entryFrame m #[(.long x1), (.long x2), (.long x3), (.long x4)] 8)) t := fun t k => castTop (ef_rmCmp m x1 x2 x3 x4) k
  have c1 : ∀ t, Steps p.tables e below (s₁.setTop (mkF m 4 #[vJ x1, .second, vJ x2, .second, vJ x3, .second, vJ x4, .second] [(.int (lcmpW x1 x3))])) t → Steps p.tables e below (s₁.setTop (mkF m 0 #[vJ x1, .second, vJ x2, .second, vJ x3, .second, vJ x4, .second] [])) t := by
    intro t kt
    show Steps p.tables e below (s₁.setTop (mkF m 0 #[vJ x1, .second, vJ x2, .second, vJ x3, .second, vJ x4, .second] [])) _
    refine XS.lloadN X0.here hx rfl (hb hby d16_0) rfl ?_
    show Steps p.tables e below (s₁.setTop (mkF m 1 #[vJ x1, .second, vJ x2, .second, vJ x3, .second, vJ x4, .second] [(.long x1)])) _
    refine XS.lload X0.here hx rfl (hb hby d16_1) rfl ?_
    show Steps p.tables e below (s₁.setTop (mkF m 3 #[vJ x1, .second, vJ x2, .second, vJ x3, .second, vJ x4, .second] [(.long x3), (.long x1)])) _
    refine XS.lcmp X0.here hx rfl (hb hby d16_3) rfl ?_
    exact kt
  by_cases hc4 : (lcmpW x1 x3) = (0 : Int32)
  · obtain ⟨_, _, ⟨T2, L2, k2, n2⟩, -, X2, ⟨Lc2, hQ2, l2, y2, z2⟩, st2⟩ := Jvm.LawKit.callS X0 hx (y := (⟨"java/lang/Long", "compareUnsigned", "(JJ)I"⟩ : MethodName)) hown (mvT hZ (tw hw 126 rfl)) (mvT hZ (tw hw 127 rfl)) (mvT hZ (tw hw 128 rfl)) (mvT hZ (tw hw 129 rfl)) (by decide) (backOf (W := 0) (rmLu l Z a0 hw [] x2 x4 h0 n0 Z0) hZ (tw hw 129 rfl) (tw hw 128 rfl) (by decide) (by decide)) (g := (mkF m 19 #[vJ x1, .second, vJ x2, .second, vJ x3, .second, vJ x4, .second] [(.long x4), (.long x2)])) rfl (by rw [hml]; rfl) (argsL := [(.long x2), (.long x4)]) (rest := []) (lenOf pd__28JJ_29I rfl) rfl (by show 2 * 0 + _ ≤ _; exact Nat.le_of_eq rfl) (hb hby d16_19) (fun _ _ => ⟨rfl, e0, (by decide : 0 + 0 ≤ _), (by decide : 0 + 0 ≤ _)⟩)
    dsimp only [Pt.U, Pt.locs, Pt.cells, Pt.slots] at X2 l2 y2 z2 st2 hQ2
    subst l2 y2 z2
    obtain ⟨rfl, N2q, e2⟩ := hQ2
    have N2 := Fr.app N0 N2q
    obtain ⟨fs, hr, hrun, hended, hW, hsame⟩ := X2.leave (v := some (.int (lcmpW (x2 + (-9223372036854775808 : Int64)) (x4 + (-9223372036854775808 : Int64))))) (fun h => by rw [Bd.returns] at h; cases h)
    refine ⟨_, _, pre0 _ (c1 _ (?_)), hrun, hended, _, _, rfl, ?_, ⟨_, rfl⟩, hW, hsame.mono (by decide) (by decide)⟩
    · show Steps p.tables e below (s₁.setTop (mkF m 4 #[vJ x1, .second, vJ x2, .second, vJ x3, .second, vJ x4, .second] [(.int (lcmpW x1 x3))])) _
      refine XS.ifYes X0.here hx rfl (pc0 := 4) (pc' := 16) rfl (hb hby d16_4) rfl ((if0 _ _).trans (teq hc4).1) (by decide) (by decide) ?_
      show Steps p.tables e below (s₁.setTop (mkF m 16 #[vJ x1, .second, vJ x2, .second, vJ x3, .second, vJ x4, .second] [])) _
      refine XS.lloadN X0.here hx rfl (hb hby d16_16) rfl ?_
      show Steps p.tables e below (s₁.setTop (mkF m 17 #[vJ x1, .second, vJ x2, .second, vJ x3, .second, vJ x4, .second] [(.long x2)])) _
      refine XS.lload X0.here hx rfl (hb hby d16_17) rfl ?_
      show Steps p.tables e below (s₁.setTop (mkF m 19 #[vJ x1, .second, vJ x2, .second, vJ x3, .second, vJ x4, .second] [(.long x4), (.long x2)])) _
      refine st2 _ ?_
      show Steps p.tables e below (T2.setTop (mkF m 22 #[vJ x1, .second, vJ x2, .second, vJ x3, .second, vJ x4, .second] [(.int (lcmpW (x2 + (-9223372036854775808 : Int64)) (x4 + (-9223372036854775808 : Int64))))])) _
      exact retI X2 hx Bd.returns (hb hby d16_22) hr
    · show QrmCmp Z x1 x2 x3 x4 h0 n0 _ T2.heap _
      rw [e2]
      exact ⟨by unfold own_k; rw [if_pos hc4], N2, rfl⟩
  · obtain ⟨_, _, ⟨T3, L3, k3, n3⟩, -, X3, ⟨Lc3, hQ3, l3, y3, z3⟩, st3⟩ := Jvm.LawKit.callS X0 hx (y := (⟨"java/lang/Long", "compare", "(JJ)I"⟩ : MethodName)) hown (mvT hZ (tw hw 139 rfl)) (mvT hZ (tw hw 132 rfl)) (mvT hZ (tw hw 128 rfl)) (mvT hZ (tw hw 133 rfl)) (by decide) (backOf (W := 0) (rmLc l Z a0 hw [] x1 x3 h0 n0 Z0) hZ (tw hw 133 rfl) (tw hw 128 rfl) (by decide) (by decide)) (g := (mkF m 10 #[vJ x1, .second, vJ x2, .second, vJ x3, .second, vJ x4, .second] [(.long x3), (.long x1)])) rfl (by rw [hml]; rfl) (argsL := [(.long x1), (.long x3)]) (rest := []) (lenOf pd__28JJ_29I rfl) rfl (by show 2 * 0 + _ ≤ _; exact Nat.le_of_eq rfl) (hb hby d16_10) (fun _ _ => ⟨rfl, e0, (by decide : 0 + 0 ≤ _), (by decide : 0 + 0 ≤ _)⟩)
    dsimp only [Pt.U, Pt.locs, Pt.cells, Pt.slots] at X3 l3 y3 z3 st3 hQ3
    subst l3 y3 z3
    obtain ⟨rfl, N3q, e3⟩ := hQ3
    have N3 := Fr.app N0 N3q
    obtain ⟨fs, hr, hrun, hended, hW, hsame⟩ := X3.leave (v := some (.int (lcmpW x1 x3))) (fun h => by rw [Bd.returns] at h; cases h)
    refine ⟨_, _, pre0 _ (c1 _ (?_)), hrun, hended, _, _, rfl, ?_, ⟨_, rfl⟩, hW, hsame.mono (by decide) (by decide)⟩
    · show Steps p.tables e below (s₁.setTop (mkF m 4 #[vJ x1, .second, vJ x2, .second, vJ x3, .second, vJ x4, .second] [(.int (lcmpW x1 x3))])) _
      refine XS.ifNo X0.here hx rfl (hb hby d16_4) rfl ((if0 _ _).trans (feq hc4).1) ?_
      show Steps p.tables e below (s₁.setTop (mkF m 7 #[vJ x1, .second, vJ x2, .second, vJ x3, .second, vJ x4, .second] [])) _
      refine XS.lloadN X0.here hx rfl (hb hby d16_7) rfl ?_
      show Steps p.tables e below (s₁.setTop (mkF m 8 #[vJ x1, .second, vJ x2, .second, vJ x3, .second, vJ x4, .second] [(.long x1)])) _
      refine XS.lload X0.here hx rfl (hb hby d16_8) rfl ?_
      show Steps p.tables e below (s₁.setTop (mkF m 10 #[vJ x1, .second, vJ x2, .second, vJ x3, .second, vJ x4, .second] [(.long x3), (.long x1)])) _
      refine st3 _ ?_
      show Steps p.tables e below (T3.setTop (mkF m 13 #[vJ x1, .second, vJ x2, .second, vJ x3, .second, vJ x4, .second] [(.int (lcmpW x1 x3))])) _
      refine XS.goto X3.here hx rfl (pc0 := 13) (pc' := 22) rfl (hb hby d16_13) (by decide) (by decide) ?_
      show Steps p.tables e below (T3.setTop (mkF m 22 #[vJ x1, .second, vJ x2, .second, vJ x3, .second, vJ x4, .second] [(.int (lcmpW x1 x3))])) _
      exact retI X3 hx Bd.returns (hb hby d16_22) hr
    · show QrmCmp Z x1 x2 x3 x4 h0 n0 _ T3.heap _
      rw [e3]
      exact ⟨by unfold own_k; rw [if_neg hc4], N3, rfl⟩
theorem d15_0 : decode q16 0 = .ok (.lload_n 0, 1) := by decide +kernel
theorem d15_1 : decode q16 1 = .ok (.lload_n 2, 1) := by decide +kernel
theorem d15_2 : decode q16 2 = .ok (.lload 4, 2) := by decide +kernel
theorem d15_4 : decode q16 4 = .ok (.lload 6, 2) := by decide +kernel
theorem d15_6 : decode q16 6 = .ok (.invokestatic 220, 3) := by decide +kernel
theorem d15_9 : decode q16 9 = .ok (.ifCond .ge 7, 3) := by decide +kernel
theorem d15_12 : decode q16 12 = .ok (.iconst 1, 1) := by decide +kernel
theorem d15_13 : decode q16 13 = .ok (.goto 4, 3) := by decide +kernel
theorem d15_16 : decode q16 16 = .ok (.iconst 0, 1) := by decide +kernel
theorem d15_17 : decode q16 17 = .ok (.ireturn, 1) := by decide +kernel
theorem pd__28JJJJ_29I : parseMethodDescriptor "(JJJJ)I" = some ⟨[.long, .long, .long, .long], some .int⟩ := by decide +kernel
theorem ef_rmLess (m : MethodId) (x0 : Int64) (x1 : Int64) (x2 : Int64) (x3 : Int64) : entryFrame m #[(.long x0), (.long x1), (.long x2), (.long x3)] 8 = mkF m 0 #[vJ x0, .second, vJ x1, .second, vJ x2, .second, vJ x3, .second] [] := by first | (simp [entryFrame, mkF, argsToLocals, Value.category]; done) | rfl
def QrmLess (Z : State) (x1 x2 x3 x4 : Int64) (h0 : Heap) (n0 : Nat) (v : Option Value) (h : Heap) (L : List Loc) : Prop := v = some (.int (if own_k x1 x2 x3 x4 < 0 then 1 else 0)) ∧ Fr n0 L ∧ h = h0
set_option maxRecDepth 65536 in
set_option maxHeartbeats 40000000 in
theorem rmLess (l : Launch) (Z : State) (a0 : Array Value) (hw : ∀ d ∈ tables_1, d.before a0 Z = true) (ws : List Jvm.Cond) (x1 x2 x3 x4 : Int64) (h0 : Heap) (n0 : Nat) (Z0 : n0 ≤ h0.size) :
    MetFree l (⟨"com/example/ebbtide/ebbtide/cluster/LoadTrees", "less", "(JJJJ)Z"⟩ : MethodName) (head1 (Jvm.Cond.code (⟨"com/example/ebbtide/ebbtide/cluster/LoadTrees", "less", "(JJJJ)Z"⟩ : MethodName) prog_74_method_32_code 8 (some .boolean) :: ws) ({ frames := 3, cells := 0, slots := 0, locals := 49 } : Room)) (fun a U => a = #[(.long x1), (.long x2), (.long x3), (.long x4)] ∧ Z.Warmed39 U.vm ∧ U.heap = h0) (fun _ _ _ _ _ => True) (fun _ U o U' => ∃ v L, o = .returned v ∧ QrmLess Z x1 x2 x3 x4 h0 n0 v U'.heap L ∧ FrameEnd U o U' L ({ frames := 3, cells := 0, slots := 0, locals := 49 } : Room).cells ({ frames := 3, cells := 0, slots := 0, locals := 49 } : Room).slots) := by
  refine MetFree.of_bodySF (plainFor_of_name pn_com_example_ebbtide_ebbtide_cluster_LoadTrees) hisR ?_
  intro p e s m args below meth c s₁ Bd hml0 hP hK
  obtain ⟨rfl, hZ, hh⟩ := hP
  have hx := Bd.exec
  have hby := Bd.bytes
  have hml : c.maxLocals = 8 := hml0
  have hown : s.vm.findClass "com/example/ebbtide/ebbtide/cluster/LoadTrees" = some m.cls := findClass_of_methodNamed Bd.named
  have hnm := (name_of_methodNamed Bd.named Bd.method).1
  have X0 : Stand p l e ({ frames := 3, cells := 0, slots := 0, locals := 49 } : Room) s m #[(.long x1), (.long x2), (.long x3), (.long x4)] below meth c s₁ [] 0 0 := Stand.of_body Bd
  have e0 : s₁.heap = h0 := by rw [← hh, Bd.state]; rfl
  have N0 := Fr.nil n0
  have pre0 : ∀ t, Steps p.tables e below (s₁.setTop (mkF m 0 #[vJ x1, .second, vJ x2, .second, vJ x3, .second, vJ x4, .second] [])) t → Steps p.tables e below (s₁.setTop (entryFrame m #[(.long x1), (.long x2), (.long x3), (.long x4)] 8)) t := fun t k => castTop (ef_rmLess m x1 x2 x3 x4) k
  obtain ⟨_, _, ⟨T1, L1, k1, n1⟩, -, X1, ⟨Lc1, hQ1, l1, y1, z1⟩, st1⟩ := Jvm.LawKit.callS X0 hx (y := (⟨"com/example/ebbtide/ebbtide/cluster/LoadTrees", "compare", "(JJJJ)I"⟩ : MethodName)) hown (mvT hZ (tw hw 123 rfl)) (mvT hZ (tw hw 124 rfl)) (mvT hZ (tw hw 14 rfl)) (mvT hZ (tw hw 125 rfl)) (by decide) (backOf (W := 0) (rmCmp l Z a0 hw [] x1 x2 x3 x4 h0 n0 Z0) hZ (tw hw 125 rfl) (tw hw 14 rfl) (by decide) (by decide)) (g := (mkF m 6 #[vJ x1, .second, vJ x2, .second, vJ x3, .second, vJ x4, .second] [(.long x4), (.long x3), (.long x2), (.long x1)])) rfl (by rw [hml]; rfl) (argsL := [(.long x1), (.long x2), (.long x3), (.long x4)]) (rest := []) (lenOf pd__28JJJJ_29I rfl) rfl (by show 2 * 0 + _ ≤ _; exact Nat.le_of_eq rfl) (hb hby d15_6) (fun _ _ => ⟨rfl, e0, (by decide : 0 + 0 ≤ _), (by decide : 0 + 0 ≤ _)⟩)
  dsimp only [Pt.U, Pt.locs, Pt.cells, Pt.slots] at X1 l1 y1 z1 st1 hQ1
  subst l1 y1 z1
  obtain ⟨rfl, N1q, e1⟩ := hQ1
  have N1 := Fr.app N0 N1q
  have c2 : ∀ t, Steps p.tables e below (T1.setTop (mkF m 9 #[vJ x1, .second, vJ x2, .second, vJ x3, .second, vJ x4, .second] [(.int (own_k x1 x2 x3 x4))])) t → Steps p.tables e below (s₁.setTop (mkF m 0 #[vJ x1, .second, vJ x2, .second, vJ x3, .second, vJ x4, .second] [])) t := by
    intro t kt
    show Steps p.tables e below (s₁.setTop (mkF m 0 #[vJ x1, .second, vJ x2, .second, vJ x3, .second, vJ x4, .second] [])) _
    refine XS.lloadN X0.here hx rfl (hb hby d15_0) rfl ?_
    show Steps p.tables e below (s₁.setTop (mkF m 1 #[vJ x1, .second, vJ x2, .second, vJ x3, .second, vJ x4, .second] [(.long x1)])) _
    refine XS.lloadN X0.here hx rfl (hb hby d15_1) rfl ?_
    show Steps p.tables e below (s₁.setTop (mkF m 2 #[vJ x1, .second, vJ x2, .second, vJ x3, .second, vJ x4, .second] [(.long x2), (.long x1)])) _
    refine XS.lload X0.here hx rfl (hb hby d15_2) rfl ?_
    show Steps p.tables e below (s₁.setTop (mkF m 4 #[vJ x1, .second, vJ x2, .second, vJ x3, .second, vJ x4, .second] [(.long x3), (.long x2), (.long x1)])) _
    refine XS.lload X0.here hx rfl (hb hby d15_4) rfl ?_
    show Steps p.tables e below (s₁.setTop (mkF m 6 #[vJ x1, .second, vJ x2, .second, vJ x3, .second, vJ x4, .second] [(.long x4), (.long x3), (.long x2), (.long x1)])) _
    refine st1 _ ?_
    exact kt
  by_cases hc9 : (own_k x1 x2 x3 x4) < (0 : Int32)
  · obtain ⟨fs, hr, hrun, hended, hW, hsame⟩ := X1.leave (v := some (.int (1 : Int32))) (fun h => by rw [Bd.returns] at h; cases h)
    refine ⟨_, _, pre0 _ (c2 _ (?_)), hrun, hended, _, _, rfl, ?_, ⟨_, rfl⟩, hW, hsame.mono (by decide) (by decide)⟩
    · show Steps p.tables e below (T1.setTop (mkF m 9 #[vJ x1, .second, vJ x2, .second, vJ x3, .second, vJ x4, .second] [(.int (own_k x1 x2 x3 x4))])) _
      refine XS.ifNo X1.here hx rfl (hb hby d15_9) rfl ((if0 _ _).trans (tlt hc9).2.1) ?_
      show Steps p.tables e below (T1.setTop (mkF m 12 #[vJ x1, .second, vJ x2, .second, vJ x3, .second, vJ x4, .second] [])) _
      refine XS.iconst X1.here hx rfl (hb hby d15_12) ?_
      show Steps p.tables e below (T1.setTop (mkF m 13 #[vJ x1, .second, vJ x2, .second, vJ x3, .second, vJ x4, .second] [(.int (1 : Int32))])) _
      refine XS.goto X1.here hx rfl (pc0 := 13) (pc' := 17) rfl (hb hby d15_13) (by decide) (by decide) ?_
      show Steps p.tables e below (T1.setTop (mkF m 17 #[vJ x1, .second, vJ x2, .second, vJ x3, .second, vJ x4, .second] [(.int (1 : Int32))])) _
      exact retN X1 hx (t := .boolean) Bd.returns (by simp) (hb hby d15_17) hr
    · show QrmLess Z x1 x2 x3 x4 h0 n0 _ T1.heap _
      rw [e1]
      exact ⟨by rw [if_pos hc9], N1, rfl⟩
  · obtain ⟨fs, hr, hrun, hended, hW, hsame⟩ := X1.leave (v := some (.int (0 : Int32))) (fun h => by rw [Bd.returns] at h; cases h)
    refine ⟨_, _, pre0 _ (c2 _ (?_)), hrun, hended, _, _, rfl, ?_, ⟨_, rfl⟩, hW, hsame.mono (by decide) (by decide)⟩
    · show Steps p.tables e below (T1.setTop (mkF m 9 #[vJ x1, .second, vJ x2, .second, vJ x3, .second, vJ x4, .second] [(.int (own_k x1 x2 x3 x4))])) _
      refine XS.ifYes X1.here hx rfl (pc0 := 9) (pc' := 16) rfl (hb hby d15_9) rfl ((if0 _ _).trans (flt hc9).2.1) (by decide) (by decide) ?_
      show Steps p.tables e below (T1.setTop (mkF m 16 #[vJ x1, .second, vJ x2, .second, vJ x3, .second, vJ x4, .second] [])) _
      refine XS.iconst X1.here hx rfl (hb hby d15_16) ?_
      show Steps p.tables e below (T1.setTop (mkF m 17 #[vJ x1, .second, vJ x2, .second, vJ x3, .second, vJ x4, .second] [(.int (0 : Int32))])) _
      exact retN X1 hx (t := .boolean) Bd.returns (by simp) (hb hby d15_17) hr
    · show QrmLess Z x1 x2 x3 x4 h0 n0 _ T1.heap _
      rw [e1]
      exact ⟨by rw [if_neg hc9], N1, rfl⟩
theorem own_lc0 {x y : Int64} (h : lcmpW x y = 0) : x = y := by
  rcases own_lc3 x y with ⟨a, -⟩ | ⟨-, b⟩ | ⟨a, -⟩
  · rw [a] at h; exact absurd h (by decide)
  · exact b
  · rw [a] at h; exact absurd h (by decide)
theorem own_k_self (x y : Int64) : ¬ own_k x y x y < 0 := by rw [own_k_lt]; omega
theorem d21_0 : decode q17 0 = .ok (.lload_n 0, 1) := by decide +kernel
theorem d21_1 : decode q17 1 = .ok (.lload 5, 2) := by decide +kernel
theorem d21_3 : decode q17 3 = .ok (.lcmp, 1) := by decide +kernel
theorem d21_4 : decode q17 4 = .ok (.ifCond .ne 10, 3) := by decide +kernel
theorem d21_7 : decode q17 7 = .ok (.lload_n 2, 1) := by decide +kernel
theorem d21_8 : decode q17 8 = .ok (.lload 7, 2) := by decide +kernel
theorem d21_10 : decode q17 10 = .ok (.lcmp, 1) := by decide +kernel
theorem d21_11 : decode q17 11 = .ok (.ifCond .eq 13, 3) := by decide +kernel
theorem d21_14 : decode q17 14 = .ok (.lload_n 0, 1) := by decide +kernel
theorem d21_15 : decode q17 15 = .ok (.lload_n 2, 1) := by decide +kernel
theorem d21_16 : decode q17 16 = .ok (.lload 5, 2) := by decide +kernel
theorem d21_18 : decode q17 18 = .ok (.lload 7, 2) := by decide +kernel
theorem d21_20 : decode q17 20 = .ok (.invokestatic 104, 3) := by decide +kernel
theorem d21_23 : decode q17 23 = .ok (.ireturn, 1) := by decide +kernel
theorem d21_24 : decode q17 24 = .ok (.iload 4, 2) := by decide +kernel
theorem d21_26 : decode q17 26 = .ok (.iload 9, 2) := by decide +kernel
theorem d21_28 : decode q17 28 = .ok (.if_icmp .ge 7, 3) := by decide +kernel
theorem d21_35 : decode q17 35 = .ok (.iconst 0, 1) := by decide +kernel
theorem d21_36 : decode q17 36 = .ok (.ireturn, 1) := by decide +kernel
theorem pd__28JJJJ_29Z : parseMethodDescriptor "(JJJJ)Z" = some ⟨[.long, .long, .long, .long], some .boolean⟩ := by decide +kernel
theorem ef_rmBef (m : MethodId) (x0 : Int64) (x1 : Int64) (x2 : Int32) (x3 : Int64) (x4 : Int64) (x5 : Int32) : entryFrame m #[(.long x0), (.long x1), (.int x2), (.long x3), (.long x4), (.int x5)] 10 = mkF m 0 #[vJ x0, .second, vJ x1, .second, .val (.int x2), vJ x3, .second, vJ x4, .second, .val (.int x5)] [] := by first | (simp [entryFrame, mkF, argsToLocals, Value.category]; done) | rfl
def QrmBef (Z : State) (x1 x2 : Int64) (p1 : Int32) (x3 x4 : Int64) (h0 : Heap) (n0 : Nat) (v : Option Value) (h : Heap) (L : List Loc) : Prop := v = some (.int (if own_k x1 x2 x3 x4 < 0 then 1 else 0)) ∧ Fr n0 L ∧ h = h0
set_option maxRecDepth 65536 in
set_option maxHeartbeats 40000000 in
theorem rmBef (l : Launch) (Z : State) (a0 : Array Value) (hw : ∀ d ∈ tables_1, d.before a0 Z = true) (ws : List Jvm.Cond) (x1 x2 : Int64) (p1 : Int32) (x3 x4 : Int64) (h0 : Heap) (n0 : Nat) (Z0 : n0 ≤ h0.size) (hp : ¬ (p1 < (-1 : Int32))) :
    MetFree l (⟨"com/example/ebbtide/ebbtide/cluster/LoadTrees", "before", "(JJIJJI)Z"⟩ : MethodName) (head1 (Jvm.Cond.code (⟨"com/example/ebbtide/ebbtide/cluster/LoadTrees", "before", "(JJIJJI)Z"⟩ : MethodName) prog_74_method_33_code 10 (some .boolean) :: ws) ({ frames := 4, cells := 0, slots := 0, locals := 68 } : Room)) (fun a U => a = #[(.long x1), (.long x2), (.int p1), (.long x3), (.long x4), (.int (-1 : Int32))] ∧ Z.Warmed39 U.vm ∧ U.heap = h0) (fun _ _ _ _ _ => True) (fun _ U o U' => ∃ v L, o = .returned v ∧ QrmBef Z x1 x2 p1 x3 x4 h0 n0 v U'.heap L ∧ FrameEnd U o U' L ({ frames := 4, cells := 0, slots := 0, locals := 68 } : Room).cells ({ frames := 4, cells := 0, slots := 0, locals := 68 } : Room).slots) := by
  refine MetFree.of_bodySF (plainFor_of_name pn_com_example_ebbtide_ebbtide_cluster_LoadTrees) hisR ?_
  intro p e s m args below meth c s₁ Bd hml0 hP hK
  obtain ⟨rfl, hZ, hh⟩ := hP
  have hx := Bd.exec
  have hby := Bd.bytes
  have hml : c.maxLocals = 10 := hml0
  have hown : s.vm.findClass "com/example/ebbtide/ebbtide/cluster/LoadTrees" = some m.cls := findClass_of_methodNamed Bd.named
  have hnm := (name_of_methodNamed Bd.named Bd.method).1
  have X0 : Stand p l e ({ frames := 4, cells := 0, slots := 0, locals := 68 } : Room) s m #[(.long x1), (.long x2), (.int p1), (.long x3), (.long x4), (.int (-1 : Int32))] below meth c s₁ [] 0 0 := Stand.of_body Bd
  have e0 : s₁.heap = h0 := by rw [← hh, Bd.state]; rfl
  have N0 := Fr.nil n0
  have pre0 : ∀ t, Steps p.tables e below (s₁.setTop (mkF m 0 #[vJ x1, .second, vJ x2, .second, .val (.int p1), vJ x3, .second, vJ x4, .second, vI (-1)] [])) t → Steps p.tables e below (s₁.setTop (entryFrame m #[(.long x1), (.long x2), (.int p1), (.long x3), (.long x4), (.int (-1 : Int32))] 10)) t := fun t k => castTop (ef_rmBef m x1 x2 p1 x3 x4 (-1 : Int32)) k
  have c1 : ∀ t, Steps p.tables e below (s₁.setTop (mkF m 4 #[vJ x1, .second, vJ x2, .second, .val (.int p1), vJ x3, .second, vJ x4, .second, vI (-1)] [(.int (lcmpW x1 x3))])) t → Steps p.tables e below (s₁.setTop (mkF m 0 #[vJ x1, .second, vJ x2, .second, .val (.int p1), vJ x3, .second, vJ x4, .second, vI (-1)] [])) t := by
    intro t kt
    show Steps p.tables e below (s₁.setTop (mkF m 0 #[vJ x1, .second, vJ x2, .second, .val (.int p1), vJ x3, .second, vJ x4, .second, vI (-1)] [])) _
    refine XS.lloadN X0.here hx rfl (hb hby d21_0) rfl ?_
    show Steps p.tables e below (s₁.setTop (mkF m 1 #[vJ x1, .second, vJ x2, .second, .val (.int p1), vJ x3, .second, vJ x4, .second, vI (-1)] [(.long x1)])) _
    refine XS.lload X0.here hx rfl (hb hby d21_1) rfl ?_
    show Steps p.tables e below (s₁.setTop (mkF m 3 #[vJ x1, .second, vJ x2, .second, .val (.int p1), vJ x3, .second, vJ x4, .second, vI (-1)] [(.long x3), (.long x1)])) _
    refine XS.lcmp X0.here hx rfl (hb hby d21_3) rfl ?_
    exact kt
  by_cases hc4 : (lcmpW x1 x3) = (0 : Int32)
  · have c2 : ∀ t, Steps p.tables e below (s₁.setTop (mkF m 11 #[vJ x1, .second, vJ x2, .second, .val (.int p1), vJ x3, .second, vJ x4, .second, vI (-1)] [(.int (lcmpW x2 x4))])) t → Steps p.tables e below (s₁.setTop (mkF m 4 #[vJ x1, .second, vJ x2, .second, .val (.int p1), vJ x3, .second, vJ x4, .second, vI (-1)] [(.int (lcmpW x1 x3))])) t := by
      intro t kt
      show Steps p.tables e below (s₁.setTop (mkF m 4 #[vJ x1, .second, vJ x2, .second, .val (.int p1), vJ x3, .second, vJ x4, .second, vI (-1)] [(.int (lcmpW x1 x3))])) _
      refine XS.ifNo X0.here hx rfl (hb hby d21_4) rfl ((if0 _ _).trans (teq hc4).2) ?_
      show Steps p.tables e below (s₁.setTop (mkF m 7 #[vJ x1, .second, vJ x2, .second, .val (.int p1), vJ x3, .second, vJ x4, .second, vI (-1)] [])) _
      refine XS.lloadN X0.here hx rfl (hb hby d21_7) rfl ?_
      show Steps p.tables e below (s₁.setTop (mkF m 8 #[vJ x1, .second, vJ x2, .second, .val (.int p1), vJ x3, .second, vJ x4, .second, vI (-1)] [(.long x2)])) _
      refine XS.lload X0.here hx rfl (hb hby d21_8) rfl ?_
      show Steps p.tables e below (s₁.setTop (mkF m 10 #[vJ x1, .second, vJ x2, .second, .val (.int p1), vJ x3, .second, vJ x4, .second, vI (-1)] [(.long x4), (.long x2)])) _
      refine XS.lcmp X0.here hx rfl (hb hby d21_10) rfl ?_
      exact kt
    by_cases hc11 : (lcmpW x2 x4) = (0 : Int32)
    · obtain ⟨fs, hr, hrun, hended, hW, hsame⟩ := X0.leave (v := some (.int (0 : Int32))) (fun h => by rw [Bd.returns] at h; cases h)
      refine ⟨_, _, pre0 _ (c1 _ (c2 _ (?_))), hrun, hended, _, _, rfl, ?_, ⟨_, rfl⟩, hW, hsame.mono (by decide) (by decide)⟩
      · show Steps p.tables e below (s₁.setTop (mkF m 11 #[vJ x1, .second, vJ x2, .second, .val (.int p1), vJ x3, .second, vJ x4, .second, vI (-1)] [(.int (lcmpW x2 x4))])) _
        refine XS.ifYes X0.here hx rfl (pc0 := 11) (pc' := 24) rfl (hb hby d21_11) rfl ((if0 _ _).trans (teq hc11).1) (by decide) (by decide) ?_
        show Steps p.tables e below (s₁.setTop (mkF m 24 #[vJ x1, .second, vJ x2, .second, .val (.int p1), vJ x3, .second, vJ x4, .second, vI (-1)] [])) _
        refine XS.iload X0.here hx rfl (hb hby d21_24) rfl ?_
        show Steps p.tables e below (s₁.setTop (mkF m 26 #[vJ x1, .second, vJ x2, .second, .val (.int p1), vJ x3, .second, vJ x4, .second, vI (-1)] [(.int p1)])) _
        refine XS.iload X0.here hx rfl (hb hby d21_26) rfl ?_
        show Steps p.tables e below (s₁.setTop (mkF m 28 #[vJ x1, .second, vJ x2, .second, .val (.int p1), vJ x3, .second, vJ x4, .second, vI (-1)] [(.int (-1 : Int32)), (.int p1)])) _
        refine XS.icmpYes X0.here hx rfl (pc0 := 28) (pc' := 35) rfl (hb hby d21_28) rfl (flt hp).2.1 (by decide) (by decide) ?_
        show Steps p.tables e below (s₁.setTop (mkF m 35 #[vJ x1, .second, vJ x2, .second, .val (.int p1), vJ x3, .second, vJ x4, .second, vI (-1)] [])) _
        refine XS.iconst X0.here hx rfl (hb hby d21_35) ?_
        show Steps p.tables e below (s₁.setTop (mkF m 36 #[vJ x1, .second, vJ x2, .second, .val (.int p1), vJ x3, .second, vJ x4, .second, vI (-1)] [(.int (0 : Int32))])) _
        exact retN X0 hx (t := .boolean) Bd.returns (by simp) (hb hby d21_36) hr
      · show QrmBef Z x1 x2 p1 x3 x4 h0 n0 _ s₁.heap _
        rw [e0]
        exact ⟨by obtain rfl := own_lc0 hc4; obtain rfl := own_lc0 hc11; rw [if_neg (own_k_self _ _)], N0, rfl⟩
    · obtain ⟨_, _, ⟨T3, L3, k3, n3⟩, -, X3, ⟨Lc3, hQ3, l3, y3, z3⟩, st3⟩ := Jvm.LawKit.callS X0 hx (y := (⟨"com/example/ebbtide/ebbtide/cluster/LoadTrees", "less", "(JJJJ)Z"⟩ : MethodName)) hown (mvT hZ (tw hw 120 rfl)) (mvT hZ (tw hw 121 rfl)) (mvT hZ (tw hw 14 rfl)) (mvT hZ (tw hw 122 rfl)) (by decide) (backOf (W := 0) (rmLess l Z a0 hw [] x1 x2 x3 x4 h0 n0 Z0) hZ (tw hw 122 rfl) (tw hw 14 rfl) (by decide) (by decide)) (g := (mkF m 20 #[vJ x1, .second, vJ x2, .second, .val (.int p1), vJ x3, .second, vJ x4, .second, vI (-1)] [(.long x4), (.long x3), (.long x2), (.long x1)])) rfl (by rw [hml]; rfl) (argsL := [(.long x1), (.long x2), (.long x3), (.long x4)]) (rest := []) (lenOf pd__28JJJJ_29Z rfl) rfl (by show 2 * 0 + _ ≤ _; exact Nat.le_of_eq rfl) (hb hby d21_20) (fun _ _ => ⟨rfl, e0, (by decide : 0 + 0 ≤ _), (by decide : 0 + 0 ≤ _)⟩)
      dsimp only [Pt.U, Pt.locs, Pt.cells, Pt.slots] at X3 l3 y3 z3 st3 hQ3
      subst l3 y3 z3
      obtain ⟨rfl, N3q, e3⟩ := hQ3
      have N3 := Fr.app N0 N3q
      obtain ⟨fs, hr, hrun, hended, hW, hsame⟩ := X3.leave (v := some (.int (nar .boolean (if own_k x1 x2 x3 x4 < 0 then 1 else 0)))) (fun h => by rw [Bd.returns] at h; cases h)
      refine ⟨_, _, pre0 _ (c1 _ (c2 _ (?_))), hrun, hended, _, _, rfl, ?_, ⟨_, rfl⟩, hW, hsame.mono (by decide) (by decide)⟩
      · show Steps p.tables e below (s₁.setTop (mkF m 11 #[vJ x1, .second, vJ x2, .second, .val (.int p1), vJ x3, .second, vJ x4, .second, vI (-1)] [(.int (lcmpW x2 x4))])) _
        refine XS.ifNo X0.here hx rfl (hb hby d21_11) rfl ((if0 _ _).trans (feq hc11).1) ?_
        show Steps p.tables e below (s₁.setTop (mkF m 14 #[vJ x1, .second, vJ x2, .second, .val (.int p1), vJ x3, .second, vJ x4, .second, vI (-1)] [])) _
        refine XS.lloadN X0.here hx rfl (hb hby d21_14) rfl ?_
        show Steps p.tables e below (s₁.setTop (mkF m 15 #[vJ x1, .second, vJ x2, .second, .val (.int p1), vJ x3, .second, vJ x4, .second, vI (-1)] [(.long x1)])) _
        refine XS.lloadN X0.here hx rfl (hb hby d21_15) rfl ?_
        show Steps p.tables e below (s₁.setTop (mkF m 16 #[vJ x1, .second, vJ x2, .second, .val (.int p1), vJ x3, .second, vJ x4, .second, vI (-1)] [(.long x2), (.long x1)])) _
        refine XS.lload X0.here hx rfl (hb hby d21_16) rfl ?_
        show Steps p.tables e below (s₁.setTop (mkF m 18 #[vJ x1, .second, vJ x2, .second, .val (.int p1), vJ x3, .second, vJ x4, .second, vI (-1)] [(.long x3), (.long x2), (.long x1)])) _
        refine XS.lload X0.here hx rfl (hb hby d21_18) rfl ?_
        show Steps p.tables e below (s₁.setTop (mkF m 20 #[vJ x1, .second, vJ x2, .second, .val (.int p1), vJ x3, .second, vJ x4, .second, vI (-1)] [(.long x4), (.long x3), (.long x2), (.long x1)])) _
        refine st3 _ ?_
        show Steps p.tables e below (T3.setTop (mkF m 23 #[vJ x1, .second, vJ x2, .second, .val (.int p1), vJ x3, .second, vJ x4, .second, vI (-1)] [(.int (if own_k x1 x2 x3 x4 < 0 then 1 else 0))])) _
        exact retN X3 hx (t := .boolean) Bd.returns (by simp) (hb hby d21_23) hr
      · show QrmBef Z x1 x2 p1 x3 x4 h0 n0 _ T3.heap _
        rw [e3]
        exact ⟨by split <;> rfl, N3, rfl⟩
  · obtain ⟨_, _, ⟨T4, L4, k4, n4⟩, -, X4, ⟨Lc4, hQ4, l4, y4, z4⟩, st4⟩ := Jvm.LawKit.callS X0 hx (y := (⟨"com/example/ebbtide/ebbtide/cluster/LoadTrees", "less", "(JJJJ)Z"⟩ : MethodName)) hown (mvT hZ (tw hw 120 rfl)) (mvT hZ (tw hw 121 rfl)) (mvT hZ (tw hw 14 rfl)) (mvT hZ (tw hw 122 rfl)) (by decide) (backOf (W := 0) (rmLess l Z a0 hw [] x1 x2 x3 x4 h0 n0 Z0) hZ (tw hw 122 rfl) (tw hw 14 rfl) (by decide) (by decide)) (g := (mkF m 20 #[vJ x1, .second, vJ x2, .second, .val (.int p1), vJ x3, .second, vJ x4, .second, vI (-1)] [(.long x4), (.long x3), (.long x2), (.long x1)])) rfl (by rw [hml]; rfl) (argsL := [(.long x1), (.long x2), (.long x3), (.long x4)]) (rest := []) (lenOf pd__28JJJJ_29Z rfl) rfl (by show 2 * 0 + _ ≤ _; exact Nat.le_of_eq rfl) (hb hby d21_20) (fun _ _ => ⟨rfl, e0, (by decide : 0 + 0 ≤ _), (by decide : 0 + 0 ≤ _)⟩)
    dsimp only [Pt.U, Pt.locs, Pt.cells, Pt.slots] at X4 l4 y4 z4 st4 hQ4
    subst l4 y4 z4
    obtain ⟨rfl, N4q, e4⟩ := hQ4
    have N4 := Fr.app N0 N4q
    obtain ⟨fs, hr, hrun, hended, hW, hsame⟩ := X4.leave (v := some (.int (nar .boolean (if own_k x1 x2 x3 x4 < 0 then 1 else 0)))) (fun h => by rw [Bd.returns] at h; cases h)
    refine ⟨_, _, pre0 _ (c1 _ (?_)), hrun, hended, _, _, rfl, ?_, ⟨_, rfl⟩, hW, hsame.mono (by decide) (by decide)⟩
    · show Steps p.tables e below (s₁.setTop (mkF m 4 #[vJ x1, .second, vJ x2, .second, .val (.int p1), vJ x3, .second, vJ x4, .second, vI (-1)] [(.int (lcmpW x1 x3))])) _
      refine XS.ifYes X0.here hx rfl (pc0 := 4) (pc' := 14) rfl (hb hby d21_4) rfl ((if0 _ _).trans (feq hc4).2) (by decide) (by decide) ?_
      show Steps p.tables e below (s₁.setTop (mkF m 14 #[vJ x1, .second, vJ x2, .second, .val (.int p1), vJ x3, .second, vJ x4, .second, vI (-1)] [])) _
      refine XS.lloadN X0.here hx rfl (hb hby d21_14) rfl ?_
      show Steps p.tables e below (s₁.setTop (mkF m 15 #[vJ x1, .second, vJ x2, .second, .val (.int p1), vJ x3, .second, vJ x4, .second, vI (-1)] [(.long x1)])) _
      refine XS.lloadN X0.here hx rfl (hb hby d21_15) rfl ?_
      show Steps p.tables e below (s₁.setTop (mkF m 16 #[vJ x1, .second, vJ x2, .second, .val (.int p1), vJ x3, .second, vJ x4, .second, vI (-1)] [(.long x2), (.long x1)])) _
      refine XS.lload X0.here hx rfl (hb hby d21_16) rfl ?_
      show Steps p.tables e below (s₁.setTop (mkF m 18 #[vJ x1, .second, vJ x2, .second, .val (.int p1), vJ x3, .second, vJ x4, .second, vI (-1)] [(.long x3), (.long x2), (.long x1)])) _
      refine XS.lload X0.here hx rfl (hb hby d21_18) rfl ?_
      show Steps p.tables e below (s₁.setTop (mkF m 20 #[vJ x1, .second, vJ x2, .second, .val (.int p1), vJ x3, .second, vJ x4, .second, vI (-1)] [(.long x4), (.long x3), (.long x2), (.long x1)])) _
      refine st4 _ ?_
      show Steps p.tables e below (T4.setTop (mkF m 23 #[vJ x1, .second, vJ x2, .second, .val (.int p1), vJ x3, .second, vJ x4, .second, vI (-1)] [(.int (if own_k x1 x2 x3 x4 < 0 then 1 else 0))])) _
      exact retN X4 hx (t := .boolean) Bd.returns (by simp) (hb hby d21_23) hr
    · show QrmBef Z x1 x2 p1 x3 x4 h0 n0 _ T4.heap _
      rw [e4]
      exact ⟨by split <;> rfl, N4, rfl⟩
def SZ (N : Nat → Nat) (b : Nat) : Prop := N 0 = 3 ∧ N 1 = 3 ∧ N 2 = 2 ∧ N 3 = 4 ∧ N 4 = 4 ∧ N 5 = 4 ∧ N 6 = 4 ∧ N 7 = 64 * b ∧ N 8 = 64 * b ∧ N 9 = 64 * b ∧ N 10 = 64 * b ∧ N 11 = b ∧ N 12 = b ∧ N 13 = b ∧ N 14 = b ∧ N 15 = b ∧ N 16 = 3 ∧ N 17 = 4 ∧ N 18 = 4 ∧ N 19 = 64 * b ∧ N 20 = 64 * b ∧ N 21 = 64 * b ∧ N 22 = 4
def mvI (I : Nat → Nat → Int32) (fr to cn : Nat) : Nat → Nat → Int32 := u1 (u1 (u1 (u1 I 7 (cpy (I 7) fr to cn)) 8 (cpy (I 8) fr to cn)) 9 (cpy (I 9) fr to cn)) 10 (cpy (I 10) fr to cn)
def mvJ (J : Nat → Nat → Int64) (fr to cn : Nat) : Nat → Nat → Int64 := u1 (u1 (u1 J 19 (cpy (J 19) fr to cn)) 20 (cpy (J 20) fr to cn)) 21 (cpy (J 21) fr to cn)
def One (s : Slot) : Prop := s = .unset ∨ ∃ v : Value, s = .val v ∧ v.category = 1
theorem one_u : One .unset := Or.inl rfl
theorem one_i (x : Int32) : One (.val (.int x)) := Or.inr ⟨_, rfl, rfl⟩
theorem d8_0 : decode q14 0 = .ok (.aload_n 0, 1) := by decide +kernel
theorem d8_1 : decode q14 1 = .ok (.getfield 143, 3) := by decide +kernel
theorem d8_4 : decode q14 4 = .ok (.ifCond .le 23, 3) := by decide +kernel
theorem d8_27 : decode q14 27 = .ok (.aload_n 0, 1) := by decide +kernel
theorem d8_28 : decode q14 28 = .ok (.getfield 209, 3) := by decide +kernel
theorem d8_31 : decode q14 31 = .ok (.aload_n 0, 1) := by decide +kernel
theorem d8_32 : decode q14 32 = .ok (.getfield 73, 3) := by decide +kernel
theorem d8_35 : decode q14 35 = .ok (.arraylength, 1) := by decide +kernel
theorem d8_36 : decode q14 36 = .ok (.if_icmp .ne 175, 3) := by decide +kernel
theorem d8_211 : decode q14 211 = .ok (.aload_n 0, 1) := by decide +kernel
theorem d8_212 : decode q14 212 = .ok (.dup, 1) := by decide +kernel
theorem d8_213 : decode q14 213 = .ok (.getfield 209, 3) := by decide +kernel
theorem d8_216 : decode q14 216 = .ok (.dup_x1, 1) := by decide +kernel
theorem d8_217 : decode q14 217 = .ok (.iconst 1, 1) := by decide +kernel
theorem d8_218 : decode q14 218 = .ok (.iadd, 1) := by decide +kernel
theorem d8_219 : decode q14 219 = .ok (.putfield 209, 3) := by decide +kernel
theorem d8_222 : decode q14 222 = .ok (.istore_n 2, 1) := by decide +kernel
theorem d8_223 : decode q14 223 = .ok (.aload_n 0, 1) := by decide +kernel
theorem d8_224 : decode q14 224 = .ok (.getfield 73, 3) := by decide +kernel
theorem d8_227 : decode q14 227 = .ok (.iload_n 2, 1) := by decide +kernel
theorem d8_228 : decode q14 228 = .ok (.iconst 0, 1) := by decide +kernel
theorem d8_229 : decode q14 229 = .ok (.iastore, 1) := by decide +kernel
theorem d8_230 : decode q14 230 = .ok (.aload_n 0, 1) := by decide +kernel
theorem d8_231 : decode q14 231 = .ok (.getfield 76, 3) := by decide +kernel
theorem d8_234 : decode q14 234 = .ok (.iload_n 2, 1) := by decide +kernel
theorem d8_235 : decode q14 235 = .ok (.iload_n 1, 1) := by decide +kernel
theorem d8_236 : decode q14 236 = .ok (.iastore, 1) := by decide +kernel
theorem d8_237 : decode q14 237 = .ok (.iload_n 2, 1) := by decide +kernel
theorem d8_238 : decode q14 238 = .ok (.ireturn, 1) := by decide +kernel
theorem ef_rmNB (m : MethodId) (x0 : Addr) (x1 : Int32) : entryFrame m #[(.ref x0), (.int x1)] 4 = mkF m 0 #[vR x0, .val (.int x1), uu, uu] [] := by first | (simp [entryFrame, mkF, argsToLocals, Value.category]; done) | rfl
def QrmNB (Z : State) (a1 : Addr) (A : Nat → Addr) (N : Nat → Nat) (I : Nat → Nat → Int32) (J : Nat → Nat → Int64) (cc : Nat → Int32) (M : Nat → Option Addr) (B : Nat → Nat → Int32) (nb q : Nat) (h0 : Heap) (n0 : Nat) (v : Option Value) (h : Heap) (L : List Loc) : Prop := v = some (.int (Int32.ofNat (q))) ∧ Fr n0 L ∧ KN n0 h0 h ∧ LT Z h n0 a1 A N (ui (ui I 11 (q) (0 : Int32)) 12 (q) (1 : Int32)) J (u1 cc 2 (Int32.ofNat (q + 1))) M B
set_option maxRecDepth 65536 in
set_option maxHeartbeats 40000000 in
theorem rmNB (l : Launch) (Z : State) (a0 : Array Value) (hw : ∀ d ∈ tables_1, d.before a0 Z = true) (ws : List Jvm.Cond) (a1 : Addr) (A : Nat → Addr) (N : Nat → Nat) (I : Nat → Nat → Int32) (J : Nat → Nat → Int64) (cc : Nat → Int32) (M : Nat → Option Addr) (B : Nat → Nat → Int32) (nb q : Nat) (h0 : Heap) (n0 : Nat) (Z0 : n0 ≤ h0.size) (L0 : LT Z h0 n0 a1 A N I J cc M B) (hS : SZ N nb) (hfb : cc 3 = (0 : Int32)) (hbr : cc 2 = Int32.ofNat q) (hq : q < nb) (hnb : nb < 1000) :
    MetFree l (⟨"com/example/ebbtide/ebbtide/cluster/LoadTrees", "newBranch", "(I)I"⟩ : MethodName) (head1 (Jvm.Cond.code (⟨"com/example/ebbtide/ebbtide/cluster/LoadTrees", "newBranch", "(I)I"⟩ : MethodName) prog_74_method_30_code 4 (some .int) :: ws) ({ frames := 0, cells := 0, slots := 0, locals := 0 } : Room)) (fun a U => a = #[(.ref a1), (.int (1 : Int32))] ∧ Z.Warmed39 U.vm ∧ U.heap = h0) (fun _ _ _ _ _ => True) (fun _ U o U' => ∃ v L, o = .returned v ∧ QrmNB Z a1 A N I J cc M B nb q h0 n0 v U'.heap L ∧ FrameEnd U o U' L ({ frames := 0, cells := 0, slots := 0, locals := 0 } : Room).cells ({ frames := 0, cells := 0, slots := 0, locals := 0 } : Room).slots) := by
  refine MetFree.of_bodySF (plainFor_of_name pn_com_example_ebbtide_ebbtide_cluster_LoadTrees) hisR ?_
  intro p e s m args below meth c s₁ Bd hml0 hP hK
  obtain ⟨rfl, hZ, hh⟩ := hP
  have hx := Bd.exec
  have hby := Bd.bytes
  have hml : c.maxLocals = 4 := hml0
  have hown : s.vm.findClass "com/example/ebbtide/ebbtide/cluster/LoadTrees" = some m.cls := findClass_of_methodNamed Bd.named
  have hnm := (name_of_methodNamed Bd.named Bd.method).1
  have X0 : Stand p l e ({ frames := 0, cells := 0, slots := 0, locals := 0 } : Room) s m #[(.ref a1), (.int (1 : Int32))] below meth c s₁ [] 0 0 := Stand.of_body Bd
  have e0 : s₁.heap = h0 := by rw [← hh, Bd.state]; rfl
  have N0 := Fr.nil n0
  have pre0 : ∀ t, Steps p.tables e below (s₁.setTop (mkF m 0 #[vR a1, vI 1, uu, uu] [])) t → Steps p.tables e below (s₁.setTop (entryFrame m #[(.ref a1), (.int (1 : Int32))] 4)) t := fun t k => castTop (ef_rmNB m a1 (1 : Int32)) k
  obtain ⟨S0, S1, S2, S3, S4, S5, S6, S7, S8, S9, S10, S11, S12, S13, S14, S15, S16, S17, S18, S19, S20, S21, S22⟩ := hS
  have Fs1 : Fld Z h0 a1 LTC "freeBranchCount" "I" (.int (0 : Int32)) := by
    have fq_ := L0.Fc 3 (by decide) (nm := "freeBranchCount") rfl
    have fq2_ : (cc 3) = (0 : Int32) := hfb
    rw [fq2_] at fq_; exact fq_
  obtain ⟨T1, X1, e1, st1⟩ := getF X0 hx hZ hown (host := "") (Or.inl (tw hw 83 rfl)) Via.refl e0 Fs1 (g := (mkF m 1 #[vR a1, vI 1, uu, uu] [(.ref a1)])) rfl rfl (hb hby d8_1)
  have Fs2 : Fld Z h0 a1 LTC "branches" "I" (.int (Int32.ofNat (q))) := by
    have fq_ := L0.Fc 2 (by decide) (nm := "branches") rfl
    have fq2_ : (cc 2) = (Int32.ofNat (q)) := hbr
    rw [fq2_] at fq_; exact fq_
  obtain ⟨T2, X2, e2, st2⟩ := getF X1 hx hZ hown (host := "") (Or.inl (tw hw 85 rfl)) Via.refl e1 Fs2 (g := (mkF m 28 #[vR a1, vI 1, uu, uu] [(.ref a1)])) rfl rfl (hb hby d8_28)
  obtain ⟨T3, X3, e3, st3⟩ := getF X2 hx hZ hown (host := "") (Or.inl (tw hw 64 rfl)) Via.refl e2 (L0.FI 11 (by decide) rfl) (g := (mkF m 32 #[vR a1, vI 1, uu, uu] [(.ref a1), (.int (Int32.ofNat (q)))])) rfl rfl (hb hby d8_32)
  have Fs4 : Fld Z h0 a1 LTC "branches" "I" (.int (Int32.ofNat (q))) := by
    have fq_ := L0.Fc 2 (by decide) (nm := "branches") rfl
    have fq2_ : (cc 2) = (Int32.ofNat (q)) := hbr
    rw [fq2_] at fq_; exact fq_
  obtain ⟨T4, X4, e4, st4⟩ := getF X3 hx hZ hown (host := "") (Or.inl (tw hw 85 rfl)) Via.refl e3 Fs4 (g := (mkF m 213 #[vR a1, vI 1, uu, uu] [(.ref a1), (.ref a1)])) rfl rfl (hb hby d8_213)
  obtain ⟨T5, h5, X5, e5, W5, st5⟩ := putF X4 hx hZ hown (host := "") (Or.inl (tw hw 85 rfl)) Via.refl e4 (L0.Fc 2 (by decide) rfl) L0.E (Or.inl (tw hw 86 rfl)) (tw hw 13 rfl) (ty := .int) (by decide) rfl rfl (g := (mkF m 219 #[vR a1, vI 1, uu, uu] [(.int (Int32.ofNat (q + 1))), (.ref a1), (.int (Int32.ofNat (q)))])) rfl rfl (hb hby d8_219)
  have Lq5 := L0.putC (k0 := 2) (by decide) W5 (lt_sl2 hw).1 (lt_sl2 hw).2.1 (lt_sl2 hw).2.2.1 (lt_sl2 hw).2.2.2
  have K5 : KN n0 h0 h5 := (KN.refl n0 h0).trans (KN.wr W5 L0.ga)
  have N5 := Fr.snoc X5 N0 L0.ga
  have Z5 : n0 ≤ h5.size := Nat.le_trans Z0 (Keep.of_wr W5).1
  obtain ⟨T6, X6, e6, st6⟩ := getF X5 hx hZ hown (host := "") (Or.inl (tw hw 64 rfl)) Via.refl e5 (Lq5.FI 11 (by decide) rfl) (g := (mkF m 224 #[vR a1, vI 1, vN (q), uu] [(.ref a1)])) rfl rfl (hb hby d8_224)
  obtain ⟨T7, h7, X7, e7, W7, st7⟩ := own_stIN X6 hx hZ e6 (Lq5.aI 11 (by decide)) (i := q) (by omega) (g := (mkF m 229 #[vR a1, vI 1, vN (q), uu] [(.int (0 : Int32)), (.int (Int32.ofNat (q))), (.ref (A 11))])) rfl rfl (hb hby d8_229)
  have K7 : KN n0 h0 h7 := K5.trans (KN.wr W7 (Lq5.gA 11 (by decide)))
  have N7 := Fr.snoc X7 N5 (Lq5.gA 11 (by decide))
  have Z7 : n0 ≤ h7.size := Nat.le_trans Z5 (Keep.of_wr W7).1
  have Lq7 := Lq5.wrI (k := 11) (by decide) W7
  obtain ⟨T8, X8, e8, st8⟩ := getF X7 hx hZ hown (host := "") (Or.inl (tw hw 66 rfl)) Via.refl e7 (Lq7.FI 12 (by decide) rfl) (g := (mkF m 231 #[vR a1, vI 1, vN (q), uu] [(.ref a1)])) rfl rfl (hb hby d8_231)
  obtain ⟨T9, h9, X9, e9, W9, st9⟩ := own_stIN X8 hx hZ e8 (Lq7.aI 12 (by decide)) (i := q) (by omega) (g := (mkF m 236 #[vR a1, vI 1, vN (q), uu] [(.int (1 : Int32)), (.int (Int32.ofNat (q))), (.ref (A 12))])) rfl rfl (hb hby d8_236)
  have K9 : KN n0 h0 h9 := K7.trans (KN.wr W9 (Lq7.gA 12 (by decide)))
  have N9 := Fr.snoc X9 N7 (Lq7.gA 12 (by decide))
  have Z9 : n0 ≤ h9.size := Nat.le_trans Z7 (Keep.of_wr W9).1
  have Lq9 := Lq7.wrI (k := 12) (by decide) W9
  obtain ⟨fs, hr, hrun, hended, hW, hsame⟩ := X9.leave (v := some (.int (Int32.ofNat (q)))) (fun h => by rw [Bd.returns] at h; cases h)
  refine ⟨_, _, pre0 _ (?_), hrun, hended, _, _, rfl, ?_, ⟨_, rfl⟩, hW, hsame.mono (by decide) (by decide)⟩
  · show Steps p.tables e below (s₁.setTop (mkF m 0 #[vR a1, vI 1, uu, uu] [])) _
    refine XS.aloadN X0.here hx rfl (hb hby d8_0) rfl rfl ?_
    refine st1 _ ?_
    show Steps p.tables e below (T1.setTop (mkF m 4 #[vR a1, vI 1, uu, uu] [(.int (0 : Int32))])) _
    refine XS.ifYes X1.here hx rfl (pc0 := 4) (pc' := 27) rfl (hb hby d8_4) rfl ((if0 _ _).trans (flt (by decide : ¬ ((0 : Int32) < (0 : Int32)))).2.2.2) (by decide) (by decide) ?_
    refine XS.aloadN X1.here hx rfl (hb hby d8_27) rfl rfl ?_
    show Steps p.tables e below (T1.setTop (mkF m 28 #[vR a1, vI 1, uu, uu] [(.ref a1)])) _
    refine st2 _ ?_
    refine XS.aloadN X2.here hx rfl (hb hby d8_31) rfl rfl ?_
    show Steps p.tables e below (T2.setTop (mkF m 32 #[vR a1, vI 1, uu, uu] [(.ref a1), (.int (Int32.ofNat (q)))])) _
    refine st3 _ ?_
    refine own_len X3 hx hZ e3 (L0.aI 11 (by decide)) (z := (Int32.ofNat (N 11))) rfl (g := (mkF m 35 #[vR a1, vI 1, uu, uu] [(.ref (A 11)), (.int (Int32.ofNat (q)))])) rfl rfl (hb hby d8_35) _ ?_
    show Steps p.tables e below (T3.setTop (mkF m 36 #[vR a1, vI 1, uu, uu] [(.int (Int32.ofNat (N 11))), (.int (Int32.ofNat (q)))])) _
    refine XS.icmpYes X3.here hx rfl (pc0 := 36) (pc' := 211) rfl (hb hby d8_36) rfl (feq (own_nne (by omega) (by omega) (by omega))).2 (by decide) (by decide) ?_
    refine XS.aloadN X3.here hx rfl (hb hby d8_211) rfl rfl ?_
    show Steps p.tables e below (T3.setTop (mkF m 212 #[vR a1, vI 1, uu, uu] [(.ref a1)])) _
    refine XS.dup X3.here hx rfl (hb hby d8_212) rfl rfl ?_
    refine st4 _ ?_
    show Steps p.tables e below (T4.setTop (mkF m 216 #[vR a1, vI 1, uu, uu] [(.int (Int32.ofNat (q))), (.ref a1)])) _
    refine XS.dupX1 X4.here hx rfl (hb hby d8_216) rfl rfl rfl ?_
    refine XS.iconst X4.here hx rfl (hb hby d8_217) ?_
    show Steps p.tables e below (T4.setTop (mkF m 218 #[vR a1, vI 1, uu, uu] [(.int (1 : Int32)), (.int (Int32.ofNat (q))), (.ref a1), (.int (Int32.ofNat (q)))])) _
    refine XS.iadd X4.here hx rfl (hb hby d8_218) rfl ?_
    show Steps p.tables e below (T4.setTop (mkF m 219 #[vR a1, vI 1, uu, uu] [(.int ((Int32.ofNat (q)) + (1 : Int32))), (.ref a1), (.int (Int32.ofNat (q)))])) _
    rw [show (Int32.ofNat (q)) + (1 : Int32) = Int32.ofNat (q + 1) from own_na (q) (1)]
    show Steps p.tables e below (T4.setTop (mkF m 219 #[vR a1, vI 1, uu, uu] [(.int (Int32.ofNat (q + 1))), (.ref a1), (.int (Int32.ofNat (q)))])) _
    refine st5 _ ?_
    refine XS.istoreN X5.here hx rfl (hb hby d8_222) rfl (l' := #[vR a1, vI 1, vN (q), uu]) rfl ?_
    show Steps p.tables e below (T5.setTop (mkF m 223 #[vR a1, vI 1, vN (q), uu] [])) _
    refine XS.aloadN X5.here hx rfl (hb hby d8_223) rfl rfl ?_
    refine st6 _ ?_
    show Steps p.tables e below (T6.setTop (mkF m 227 #[vR a1, vI 1, vN (q), uu] [(.ref (A 11))])) _
    refine XS.iloadN X6.here hx rfl (hb hby d8_227) rfl ?_
    refine XS.iconst X6.here hx rfl (hb hby d8_228) ?_
    show Steps p.tables e below (T6.setTop (mkF m 229 #[vR a1, vI 1, vN (q), uu] [(.int (0 : Int32)), (.int (Int32.ofNat (q))), (.ref (A 11))])) _
    refine st7 _ ?_
    refine XS.aloadN X7.here hx rfl (hb hby d8_230) rfl rfl ?_
    show Steps p.tables e below (T7.setTop (mkF m 231 #[vR a1, vI 1, vN (q), uu] [(.ref a1)])) _
    refine st8 _ ?_
    refine XS.iloadN X8.here hx rfl (hb hby d8_234) rfl ?_
    show Steps p.tables e below (T8.setTop (mkF m 235 #[vR a1, vI 1, vN (q), uu] [(.int (Int32.ofNat (q))), (.ref (A 12))])) _
    refine XS.iloadN X8.here hx rfl (hb hby d8_235) rfl ?_
    refine st9 _ ?_
    show Steps p.tables e below (T9.setTop (mkF m 237 #[vR a1, vI 1, vN (q), uu] [])) _
    refine XS.iloadN X9.here hx rfl (hb hby d8_237) rfl ?_
    show Steps p.tables e below (T9.setTop (mkF m 238 #[vR a1, vI 1, vN (q), uu] [(.int (Int32.ofNat (q)))])) _
    exact retI X9 hx Bd.returns (hb hby d8_238) hr
  · show QrmNB Z a1 A N I J cc M B nb q h0 n0 _ T9.heap _
    rw [e9]
    exact ⟨rfl, N9, K9, Lq9⟩
theorem own_mref0 {M : Nat → Option Addr} {j : Nat} (h : M j = none) : mref M j = .null := by unfold mref; rw [h]
theorem own_mref {M : Nat → Option Addr} {j : Nat} {b : Addr} (h : M j = some b) : mref M j = .ref b := by unfold mref; rw [h]
theorem own_ltA {Z : State} {h : Heap} {n0 : Nat} {a : Addr} {A : Nat → Addr} {N : Nat → Nat} {I : Nat → Nat → Int32} {J : Nat → Nat → Int64} {cc : Nat → Int32} {M : Nat → Option Addr} {B : Nat → Nat → Int32} (L : LT Z h n0 a A N I J cc M B) (k : Nat) (hk : k < 23) : A k < h.size := by
  by_cases Y1 : k < 16
  · exact (L.aI k Y1).lt
  · by_cases Y2 : k < 22
    · exact (L.aJ k (by omega) Y2).lt
    · have : k = 22 := by omega
      subst this; exact L.Mo.1.lt
theorem d9_0 : decode q12 0 = .ok (.aload_n 0, 1) := by decide +kernel
theorem d9_1 : decode q12 1 = .ok (.getfield 135, 3) := by decide +kernel
theorem d9_4 : decode q12 4 = .ok (.ifCond .le 24, 3) := by decide +kernel
theorem d9_28 : decode q12 28 = .ok (.aload_n 0, 1) := by decide +kernel
theorem d9_29 : decode q12 29 = .ok (.getfield 199, 3) := by decide +kernel
theorem d9_32 : decode q12 32 = .ok (.aload_n 0, 1) := by decide +kernel
theorem d9_33 : decode q12 33 = .ok (.getfield 34, 3) := by decide +kernel
theorem d9_36 : decode q12 36 = .ok (.arraylength, 1) := by decide +kernel
theorem d9_37 : decode q12 37 = .ok (.if_icmp .ne 105, 3) := by decide +kernel
theorem d9_142 : decode q12 142 = .ok (.aload_n 0, 1) := by decide +kernel
theorem d9_143 : decode q12 143 = .ok (.dup, 1) := by decide +kernel
theorem d9_144 : decode q12 144 = .ok (.getfield 199, 3) := by decide +kernel
theorem d9_147 : decode q12 147 = .ok (.dup_x1, 1) := by decide +kernel
theorem d9_148 : decode q12 148 = .ok (.iconst 1, 1) := by decide +kernel
theorem d9_149 : decode q12 149 = .ok (.iadd, 1) := by decide +kernel
theorem d9_150 : decode q12 150 = .ok (.putfield 199, 3) := by decide +kernel
theorem d9_153 : decode q12 153 = .ok (.istore 5, 2) := by decide +kernel
theorem d9_155 : decode q12 155 = .ok (.aload_n 0, 1) := by decide +kernel
theorem d9_156 : decode q12 156 = .ok (.getfield 30, 3) := by decide +kernel
theorem d9_159 : decode q12 159 = .ok (.iload 5, 2) := by decide +kernel
theorem d9_161 : decode q12 161 = .ok (.aaload, 1) := by decide +kernel
theorem d9_162 : decode q12 162 = .ok (.ifnonnull 13, 3) := by decide +kernel
theorem d9_165 : decode q12 165 = .ok (.aload_n 0, 1) := by decide +kernel
theorem d9_166 : decode q12 166 = .ok (.getfield 30, 3) := by decide +kernel
theorem d9_169 : decode q12 169 = .ok (.iload 5, 2) := by decide +kernel
theorem d9_171 : decode q12 171 = .ok (.iconst 4, 1) := by decide +kernel
theorem d9_172 : decode q12 172 = .ok (.newarray .int, 2) := by decide +kernel
theorem d9_174 : decode q12 174 = .ok (.aastore, 1) := by decide +kernel
theorem d9_175 : decode q12 175 = .ok (.aload_n 0, 1) := by decide +kernel
theorem d9_176 : decode q12 176 = .ok (.getfield 34, 3) := by decide +kernel
theorem d9_179 : decode q12 179 = .ok (.iload 5, 2) := by decide +kernel
theorem d9_181 : decode q12 181 = .ok (.iconst 0, 1) := by decide +kernel
theorem d9_182 : decode q12 182 = .ok (.iastore, 1) := by decide +kernel
theorem d9_183 : decode q12 183 = .ok (.aload_n 0, 1) := by decide +kernel
theorem d9_184 : decode q12 184 = .ok (.getfield 37, 3) := by decide +kernel
theorem d9_187 : decode q12 187 = .ok (.iload 5, 2) := by decide +kernel
theorem d9_189 : decode q12 189 = .ok (.lload_n 1, 1) := by decide +kernel
theorem d9_190 : decode q12 190 = .ok (.lastore, 1) := by decide +kernel
theorem d9_191 : decode q12 191 = .ok (.aload_n 0, 1) := by decide +kernel
theorem d9_192 : decode q12 192 = .ok (.getfield 40, 3) := by decide +kernel
theorem d9_195 : decode q12 195 = .ok (.iload 5, 2) := by decide +kernel
theorem d9_197 : decode q12 197 = .ok (.lload_n 3, 1) := by decide +kernel
theorem d9_198 : decode q12 198 = .ok (.lastore, 1) := by decide +kernel
theorem d9_199 : decode q12 199 = .ok (.iload 5, 2) := by decide +kernel
theorem d9_201 : decode q12 201 = .ok (.ireturn, 1) := by decide +kernel
theorem ef_rmNL (m : MethodId) (x0 : Addr) (x1 : Int64) (x2 : Int64) : entryFrame m #[(.ref x0), (.long x1), (.long x2)] 7 = mkF m 0 #[vR x0, vJ x1, .second, vJ x2, .second, uu, uu] [] := by first | (simp [entryFrame, mkF, argsToLocals, Value.category]; done) | rfl
def QrmNL (Z : State) (a1 : Addr) (A : Nat → Addr) (N : Nat → Nat) (I : Nat → Nat → Int32) (J : Nat → Nat → Int64) (cc : Nat → Int32) (M : Nat → Option Addr) (B : Nat → Nat → Int32) (kh kl : Int64) (nb lf : Nat) (h0 : Heap) (n0 : Nat) (v : Option Value) (h : Heap) (L : List Loc) : Prop := ∃ bb, v = some (.int (Int32.ofNat (lf))) ∧ Fr n0 L ∧ KN n0 h0 h ∧ LT Z h n0 a1 A N (ui I 3 (lf) (0 : Int32)) (ui (ui J 17 (lf) kh) 18 (lf) kl) (u1 cc 0 (Int32.ofNat (lf + 1))) (u1 M (lf) (some bb)) (fun j => if j = lf then (fun _ => (0 : Int32)) else B j)
set_option maxRecDepth 65536 in
set_option maxHeartbeats 40000000 in
theorem rmNL (l : Launch) (Z : State) (a0 : Array Value) (hw : ∀ d ∈ tables_1, d.before a0 Z = true) (ws : List Jvm.Cond) (a1 : Addr) (A : Nat → Addr) (N : Nat → Nat) (I : Nat → Nat → Int32) (J : Nat → Nat → Int64) (cc : Nat → Int32) (M : Nat → Option Addr) (B : Nat → Nat → Int32) (kh kl : Int64) (nb lf : Nat) (h0 : Heap) (n0 : Nat) (Z0 : n0 ≤ h0.size) (L0 : LT Z h0 n0 a1 A N I J cc M B) (hS : SZ N nb) (hfl : cc 1 = (0 : Int32)) (hlv : cc 0 = Int32.ofNat lf) (hlf : lf < 4) (hM : M lf = none) :
    MetFree l (⟨"com/example/ebbtide/ebbtide/cluster/LoadTrees", "newLeaf", "(JJ)I"⟩ : MethodName) (head1 (Jvm.Cond.code (⟨"com/example/ebbtide/ebbtide/cluster/LoadTrees", "newLeaf", "(JJ)I"⟩ : MethodName) prog_74_method_29_code 7 (some .int) :: ws) ({ frames := 0, cells := 1, slots := 4, locals := 0 } : Room)) (fun a U => a = #[(.ref a1), (.long kh), (.long kl)] ∧ Z.Warmed39 U.vm ∧ U.heap = h0) (fun _ _ _ _ _ => True) (fun _ U o U' => ∃ v L, o = .returned v ∧ QrmNL Z a1 A N I J cc M B kh kl nb lf h0 n0 v U'.heap L ∧ FrameEnd U o U' L ({ frames := 0, cells := 1, slots := 4, locals := 0 } : Room).cells ({ frames := 0, cells := 1, slots := 4, locals := 0 } : Room).slots) := by
  refine MetFree.of_bodySF (plainFor_of_name pn_com_example_ebbtide_ebbtide_cluster_LoadTrees) hisR ?_
  intro p e s m args below meth c s₁ Bd hml0 hP hK
  obtain ⟨rfl, hZ, hh⟩ := hP
  have hx := Bd.exec
  have hby := Bd.bytes
  have hml : c.maxLocals = 7 := hml0
  have hown : s.vm.findClass "com/example/ebbtide/ebbtide/cluster/LoadTrees" = some m.cls := findClass_of_methodNamed Bd.named
  have hnm := (name_of_methodNamed Bd.named Bd.method).1
  have X0 : Stand p l e ({ frames := 0, cells := 1, slots := 4, locals := 0 } : Room) s m #[(.ref a1), (.long kh), (.long kl)] below meth c s₁ [] 0 0 := Stand.of_body Bd
  have e0 : s₁.heap = h0 := by rw [← hh, Bd.state]; rfl
  have N0 := Fr.nil n0
  have pre0 : ∀ t, Steps p.tables e below (s₁.setTop (mkF m 0 #[vR a1, vJ kh, .second, vJ kl, .second, uu, uu] [])) t → Steps p.tables e below (s₁.setTop (entryFrame m #[(.ref a1), (.long kh), (.long kl)] 7)) t := fun t k => castTop (ef_rmNL m a1 kh kl) k
  obtain ⟨S0, S1, S2, S3, S4, S5, S6, S7, S8, S9, S10, S11, S12, S13, S14, S15, S16, S17, S18, S19, S20, S21, S22⟩ := hS
  have Fs1 : Fld Z h0 a1 LTC "freeLeafCount" "I" (.int (0 : Int32)) := by
    have fq_ := L0.Fc 1 (by decide) (nm := "freeLeafCount") rfl
    have fq2_ : (cc 1) = (0 : Int32) := hfl
    rw [fq2_] at fq_; exact fq_
  obtain ⟨T1, X1, e1, st1⟩ := getF X0 hx hZ hown (host := "") (Or.inl (tw hw 91 rfl)) Via.refl e0 Fs1 (g := (mkF m 1 #[vR a1, vJ kh, .second, vJ kl, .second, uu, uu] [(.ref a1)])) rfl rfl (hb hby d9_1)
  have Fs2 : Fld Z h0 a1 LTC "leaves" "I" (.int (Int32.ofNat (lf))) := by
    have fq_ := L0.Fc 0 (by decide) (nm := "leaves") rfl
    have fq2_ : (cc 0) = (Int32.ofNat (lf)) := hlv
    rw [fq2_] at fq_; exact fq_
  obtain ⟨T2, X2, e2, st2⟩ := getF X1 hx hZ hown (host := "") (Or.inl (tw hw 93 rfl)) Via.refl e1 Fs2 (g := (mkF m 29 #[vR a1, vJ kh, .second, vJ kl, .second, uu, uu] [(.ref a1)])) rfl rfl (hb hby d9_29)
  obtain ⟨T3, X3, e3, st3⟩ := getF X2 hx hZ hown (host := "") (Or.inl (tw hw 38 rfl)) Via.refl e2 (L0.FI 3 (by decide) rfl) (g := (mkF m 33 #[vR a1, vJ kh, .second, vJ kl, .second, uu, uu] [(.ref a1), (.int (Int32.ofNat (lf)))])) rfl rfl (hb hby d9_33)
  have Fs4 : Fld Z h0 a1 LTC "leaves" "I" (.int (Int32.ofNat (lf))) := by
    have fq_ := L0.Fc 0 (by decide) (nm := "leaves") rfl
    have fq2_ : (cc 0) = (Int32.ofNat (lf)) := hlv
    rw [fq2_] at fq_; exact fq_
  obtain ⟨T4, X4, e4, st4⟩ := getF X3 hx hZ hown (host := "") (Or.inl (tw hw 93 rfl)) Via.refl e3 Fs4 (g := (mkF m 144 #[vR a1, vJ kh, .second, vJ kl, .second, uu, uu] [(.ref a1), (.ref a1)])) rfl rfl (hb hby d9_144)
  obtain ⟨T5, h5, X5, e5, W5, st5⟩ := putF X4 hx hZ hown (host := "") (Or.inl (tw hw 93 rfl)) Via.refl e4 (L0.Fc 0 (by decide) rfl) L0.E (Or.inl (tw hw 94 rfl)) (tw hw 13 rfl) (ty := .int) (by decide) rfl rfl (g := (mkF m 150 #[vR a1, vJ kh, .second, vJ kl, .second, uu, uu] [(.int (Int32.ofNat (lf + 1))), (.ref a1), (.int (Int32.ofNat (lf)))])) rfl rfl (hb hby d9_150)
  have Lq5 := L0.putC (k0 := 0) (by decide) W5 (lt_sl0 hw).1 (lt_sl0 hw).2.1 (lt_sl0 hw).2.2.1 (lt_sl0 hw).2.2.2
  have K5 : KN n0 h0 h5 := (KN.refl n0 h0).trans (KN.wr W5 L0.ga)
  have N5 := Fr.snoc X5 N0 L0.ga
  have Z5 : n0 ≤ h5.size := Nat.le_trans Z0 (Keep.of_wr W5).1
  obtain ⟨T6, X6, e6, st6⟩ := getF X5 hx hZ hown (host := "") (Or.inl (tw hw 36 rfl)) Via.refl e5 Lq5.FM (g := (mkF m 156 #[vR a1, vJ kh, .second, vJ kl, .second, vN (lf), uu] [(.ref a1)])) rfl rfl (hb hby d9_156)
  obtain ⟨T7, X7, e7, st7⟩ := getF X6 hx hZ hown (host := "") (Or.inl (tw hw 36 rfl)) Via.refl e6 Lq5.FM (g := (mkF m 166 #[vR a1, vJ kh, .second, vJ kl, .second, vN (lf), uu] [(.ref a1)])) rfl rfl (hb hby d9_166)
  obtain ⟨T8, h8, k8, X8, e8, E8, A8, EX8, st8⟩ := newPE X7 hx hZ (tw hw 15 rfl) e7 (g := (mkF m 172 #[vR a1, vJ kh, .second, vJ kl, .second, vN (lf), uu] [(.int (4 : Int32)), (.int (Int32.ofNat (lf))), (.ref (A 22))])) rfl (hb hby d9_172) rfl (by decide) (cap := 4) (by decide) (by decide) (by decide) (by decide) (ad := "[I") (by decide)
  obtain ⟨b8, g8⟩ : ∃ z, z = h5.size := ⟨_, rfl⟩
  rw [← g8] at A8 EX8 st8
  have g_b8 : n0 ≤ b8 := Nat.le_trans Z5 (Nat.le_of_eq g8.symm)
  have sz_b8 : h0.size ≤ b8 := (Nat.le_trans K5.1 (Nat.le_of_eq g8.symm))
  have V8 : AR Z h8 b8 .int 4 (fun _ => (.int (0 : Int32))) := AR.new A8 (by decide) rfl
  have Lq8 := Lq5.ext E8
  have Ib8 : Ins Z h8 b8 "[I" true := Ins.self EX8
  have fb8 : h0.size ≤ b8 ∧ ∀ y, y < h5.size → b8 ≠ y := ⟨sz_b8, fun y hy q => absurd hy (by rw [← q, g8]; exact Nat.lt_irrefl _)⟩
  have K8 : KN n0 h0 h8 := K5.trans (KN.ext E8)
  have Z8 : n0 ≤ h8.size := Nat.le_trans Z5 E8.1
  obtain ⟨T9, h9, X9, e9, W9, st9⟩ := own_stAN X8 hx hZ e8 Lq8.Mo (i := lf) (by omega) (Ib8) (g := (mkF m 174 #[vR a1, vJ kh, .second, vJ kl, .second, vN (lf), uu] [(.ref b8), (.int (Int32.ofNat (lf))), (.ref (A 22))])) rfl rfl (hb hby d9_174)
  have K9 : KN n0 h0 h9 := K8.trans (KN.wr W9 (Lq8.gA 22 (by decide)))
  have N9 := Fr.snoc X9 N5 (Lq8.gA 22 (by decide))
  have Z9 : n0 ≤ h9.size := Nat.le_trans Z8 (Keep.of_wr W9).1
  have Lq9 := Lq8.wrM (j0 := lf) (by omega) (Bn := fun _ => (0 : Int32)) V8 g_b8 (fb8.2 _ Lq5.E.lt) (fun k hk => fb8.2 _ (own_ltA Lq5 k hk)) (fun j hj q => fb8.2 _ (Lq5.Bo hj q).lt rfl) W9
  obtain ⟨T10, X10, e10, st10⟩ := getF X9 hx hZ hown (host := "") (Or.inl (tw hw 38 rfl)) Via.refl e9 (Lq9.FI 3 (by decide) rfl) (g := (mkF m 176 #[vR a1, vJ kh, .second, vJ kl, .second, vN (lf), uu] [(.ref a1)])) rfl rfl (hb hby d9_176)
  obtain ⟨T11, h11, X11, e11, W11, st11⟩ := own_stIN X10 hx hZ e10 (Lq9.aI 3 (by decide)) (i := lf) (by omega) (g := (mkF m 182 #[vR a1, vJ kh, .second, vJ kl, .second, vN (lf), uu] [(.int (0 : Int32)), (.int (Int32.ofNat (lf))), (.ref (A 3))])) rfl rfl (hb hby d9_182)
  have K11 : KN n0 h0 h11 := K9.trans (KN.wr W11 (Lq9.gA 3 (by decide)))
  have N11 := Fr.snoc X11 N9 (Lq9.gA 3 (by decide))
  have Z11 : n0 ≤ h11.size := Nat.le_trans Z9 (Keep.of_wr W11).1
  have Lq11 := Lq9.wrI (k := 3) (by decide) W11
  obtain ⟨T12, X12, e12, st12⟩ := getF X11 hx hZ hown (host := "") (Or.inl (tw hw 40 rfl)) Via.refl e11 (Lq11.FJ 17 (by decide) (by decide) rfl) (g := (mkF m 184 #[vR a1, vJ kh, .second, vJ kl, .second, vN (lf), uu] [(.ref a1)])) rfl rfl (hb hby d9_184)
  obtain ⟨T13, h13, X13, e13, W13, st13⟩ := own_stJN X12 hx hZ e12 (Lq11.aJ 17 (by decide) (by decide)) (i := lf) (by omega) (g := (mkF m 190 #[vR a1, vJ kh, .second, vJ kl, .second, vN (lf), uu] [(.long kh), (.int (Int32.ofNat (lf))), (.ref (A 17))])) rfl rfl (hb hby d9_190)
  have K13 : KN n0 h0 h13 := K11.trans (KN.wr W13 (Lq11.gA 17 (by decide)))
  have N13 := Fr.snoc X13 N11 (Lq11.gA 17 (by decide))
  have Z13 : n0 ≤ h13.size := Nat.le_trans Z11 (Keep.of_wr W13).1
  have Lq13 := Lq11.wrJ (k := 17) (by decide) (by decide) W13
  obtain ⟨T14, X14, e14, st14⟩ := getF X13 hx hZ hown (host := "") (Or.inl (tw hw 42 rfl)) Via.refl e13 (Lq13.FJ 18 (by decide) (by decide) rfl) (g := (mkF m 192 #[vR a1, vJ kh, .second, vJ kl, .second, vN (lf), uu] [(.ref a1)])) rfl rfl (hb hby d9_192)
  obtain ⟨T15, h15, X15, e15, W15, st15⟩ := own_stJN X14 hx hZ e14 (Lq13.aJ 18 (by decide) (by decide)) (i := lf) (by omega) (g := (mkF m 198 #[vR a1, vJ kh, .second, vJ kl, .second, vN (lf), uu] [(.long kl), (.int (Int32.ofNat (lf))), (.ref (A 18))])) rfl rfl (hb hby d9_198)
  have K15 : KN n0 h0 h15 := K13.trans (KN.wr W15 (Lq13.gA 18 (by decide)))
  have N15 := Fr.snoc X15 N13 (Lq13.gA 18 (by decide))
  have Z15 : n0 ≤ h15.size := Nat.le_trans Z13 (Keep.of_wr W15).1
  have Lq15 := Lq13.wrJ (k := 18) (by decide) (by decide) W15
  obtain ⟨fs, hr, hrun, hended, hW, hsame⟩ := X15.leave (v := some (.int (Int32.ofNat (lf)))) (fun h => by rw [Bd.returns] at h; cases h)
  refine ⟨_, _, pre0 _ (?_), hrun, hended, _, _, rfl, ?_, ⟨_, rfl⟩, hW, hsame.mono (by decide) (by decide)⟩
  · show Steps p.tables e below (s₁.setTop (mkF m 0 #[vR a1, vJ kh, .second, vJ kl, .second, uu, uu] [])) _
    refine XS.aloadN X0.here hx rfl (hb hby d9_0) rfl rfl ?_
    refine st1 _ ?_
    show Steps p.tables e below (T1.setTop (mkF m 4 #[vR a1, vJ kh, .second, vJ kl, .second, uu, uu] [(.int (0 : Int32))])) _
    refine XS.ifYes X1.here hx rfl (pc0 := 4) (pc' := 28) rfl (hb hby d9_4) rfl ((if0 _ _).trans (flt (by decide : ¬ ((0 : Int32) < (0 : Int32)))).2.2.2) (by decide) (by decide) ?_
    refine XS.aloadN X1.here hx rfl (hb hby d9_28) rfl rfl ?_
    show Steps p.tables e below (T1.setTop (mkF m 29 #[vR a1, vJ kh, .second, vJ kl, .second, uu, uu] [(.ref a1)])) _
    refine st2 _ ?_
    refine XS.aloadN X2.here hx rfl (hb hby d9_32) rfl rfl ?_
    show Steps p.tables e below (T2.setTop (mkF m 33 #[vR a1, vJ kh, .second, vJ kl, .second, uu, uu] [(.ref a1), (.int (Int32.ofNat (lf)))])) _
    refine st3 _ ?_
    refine own_len X3 hx hZ e3 (L0.aI 3 (by decide)) (z := (Int32.ofNat (N 3))) rfl (g := (mkF m 36 #[vR a1, vJ kh, .second, vJ kl, .second, uu, uu] [(.ref (A 3)), (.int (Int32.ofNat (lf)))])) rfl rfl (hb hby d9_36) _ ?_
    show Steps p.tables e below (T3.setTop (mkF m 37 #[vR a1, vJ kh, .second, vJ kl, .second, uu, uu] [(.int (Int32.ofNat (N 3))), (.int (Int32.ofNat (lf)))])) _
    refine XS.icmpYes X3.here hx rfl (pc0 := 37) (pc' := 142) rfl (hb hby d9_37) rfl (feq (own_nne (by omega) (by omega) (by omega))).2 (by decide) (by decide) ?_
    refine XS.aloadN X3.here hx rfl (hb hby d9_142) rfl rfl ?_
    show Steps p.tables e below (T3.setTop (mkF m 143 #[vR a1, vJ kh, .second, vJ kl, .second, uu, uu] [(.ref a1)])) _
    refine XS.dup X3.here hx rfl (hb hby d9_143) rfl rfl ?_
    refine st4 _ ?_
    show Steps p.tables e below (T4.setTop (mkF m 147 #[vR a1, vJ kh, .second, vJ kl, .second, uu, uu] [(.int (Int32.ofNat (lf))), (.ref a1)])) _
    refine XS.dupX1 X4.here hx rfl (hb hby d9_147) rfl rfl rfl ?_
    refine XS.iconst X4.here hx rfl (hb hby d9_148) ?_
    show Steps p.tables e below (T4.setTop (mkF m 149 #[vR a1, vJ kh, .second, vJ kl, .second, uu, uu] [(.int (1 : Int32)), (.int (Int32.ofNat (lf))), (.ref a1), (.int (Int32.ofNat (lf)))])) _
    refine XS.iadd X4.here hx rfl (hb hby d9_149) rfl ?_
    show Steps p.tables e below (T4.setTop (mkF m 150 #[vR a1, vJ kh, .second, vJ kl, .second, uu, uu] [(.int ((Int32.ofNat (lf)) + (1 : Int32))), (.ref a1), (.int (Int32.ofNat (lf)))])) _
    rw [show (Int32.ofNat (lf)) + (1 : Int32) = Int32.ofNat (lf + 1) from own_na (lf) (1)]
    show Steps p.tables e below (T4.setTop (mkF m 150 #[vR a1, vJ kh, .second, vJ kl, .second, uu, uu] [(.int (Int32.ofNat (lf + 1))), (.ref a1), (.int (Int32.ofNat (lf)))])) _
    refine st5 _ ?_
    refine XS.istore X5.here hx rfl (hb hby d9_153) rfl (l' := #[vR a1, vJ kh, .second, vJ kl, .second, vN (lf), uu]) rfl ?_
    show Steps p.tables e below (T5.setTop (mkF m 155 #[vR a1, vJ kh, .second, vJ kl, .second, vN (lf), uu] [])) _
    refine XS.aloadN X5.here hx rfl (hb hby d9_155) rfl rfl ?_
    refine st6 _ ?_
    show Steps p.tables e below (T6.setTop (mkF m 159 #[vR a1, vJ kh, .second, vJ kl, .second, vN (lf), uu] [(.ref (A 22))])) _
    refine XS.iload X6.here hx rfl (hb hby d9_159) rfl ?_
    refine own_ldAN X6 hx hZ e6 Lq5.Mo.1 rfl (i := lf) (v := .null) (by omega) (own_mref0 hM) (g := (mkF m 161 #[vR a1, vJ kh, .second, vJ kl, .second, vN (lf), uu] [(.int (Int32.ofNat (lf))), (.ref (A 22))])) rfl rfl (hb hby d9_161) _ ?_
    show Steps p.tables e below (T6.setTop (mkF m 162 #[vR a1, vJ kh, .second, vJ kl, .second, vN (lf), uu] [.null])) _
    refine XS.ifnonnullNo X6.here hx rfl (hb hby d9_162) rfl ?_
    refine XS.aloadN X6.here hx rfl (hb hby d9_165) rfl rfl ?_
    show Steps p.tables e below (T6.setTop (mkF m 166 #[vR a1, vJ kh, .second, vJ kl, .second, vN (lf), uu] [(.ref a1)])) _
    refine st7 _ ?_
    refine XS.iload X7.here hx rfl (hb hby d9_169) rfl ?_
    show Steps p.tables e below (T7.setTop (mkF m 171 #[vR a1, vJ kh, .second, vJ kl, .second, vN (lf), uu] [(.int (Int32.ofNat (lf))), (.ref (A 22))])) _
    refine XS.iconst X7.here hx rfl (hb hby d9_171) ?_
    refine st8 _ ?_
    show Steps p.tables e below (T8.setTop (mkF m 174 #[vR a1, vJ kh, .second, vJ kl, .second, vN (lf), uu] [(.ref b8), (.int (Int32.ofNat (lf))), (.ref (A 22))])) _
    refine st9 _ ?_
    refine XS.aloadN X9.here hx rfl (hb hby d9_175) rfl rfl ?_
    show Steps p.tables e below (T9.setTop (mkF m 176 #[vR a1, vJ kh, .second, vJ kl, .second, vN (lf), uu] [(.ref a1)])) _
    refine st10 _ ?_
    refine XS.iload X10.here hx rfl (hb hby d9_179) rfl ?_
    show Steps p.tables e below (T10.setTop (mkF m 181 #[vR a1, vJ kh, .second, vJ kl, .second, vN (lf), uu] [(.int (Int32.ofNat (lf))), (.ref (A 3))])) _
    refine XS.iconst X10.here hx rfl (hb hby d9_181) ?_
    refine st11 _ ?_
    show Steps p.tables e below (T11.setTop (mkF m 183 #[vR a1, vJ kh, .second, vJ kl, .second, vN (lf), uu] [])) _
    refine XS.aloadN X11.here hx rfl (hb hby d9_183) rfl rfl ?_
    refine st12 _ ?_
    show Steps p.tables e below (T12.setTop (mkF m 187 #[vR a1, vJ kh, .second, vJ kl, .second, vN (lf), uu] [(.ref (A 17))])) _
    refine XS.iload X12.here hx rfl (hb hby d9_187) rfl ?_
    refine XS.lloadN X12.here hx rfl (hb hby d9_189) rfl ?_
    show Steps p.tables e below (T12.setTop (mkF m 190 #[vR a1, vJ kh, .second, vJ kl, .second, vN (lf), uu] [(.long kh), (.int (Int32.ofNat (lf))), (.ref (A 17))])) _
    refine st13 _ ?_
    refine XS.aloadN X13.here hx rfl (hb hby d9_191) rfl rfl ?_
    show Steps p.tables e below (T13.setTop (mkF m 192 #[vR a1, vJ kh, .second, vJ kl, .second, vN (lf), uu] [(.ref a1)])) _
    refine st14 _ ?_
    refine XS.iload X14.here hx rfl (hb hby d9_195) rfl ?_
    show Steps p.tables e below (T14.setTop (mkF m 197 #[vR a1, vJ kh, .second, vJ kl, .second, vN (lf), uu] [(.int (Int32.ofNat (lf))), (.ref (A 18))])) _
    refine XS.lloadN X14.here hx rfl (hb hby d9_197) rfl ?_
    refine st15 _ ?_
    show Steps p.tables e below (T15.setTop (mkF m 199 #[vR a1, vJ kh, .second, vJ kl, .second, vN (lf), uu] [])) _
    refine XS.iload X15.here hx rfl (hb hby d9_199) rfl ?_
    show Steps p.tables e below (T15.setTop (mkF m 201 #[vR a1, vJ kh, .second, vJ kl, .second, vN (lf), uu] [(.int (Int32.ofNat (lf)))])) _
    exact retI X15 hx Bd.returns (hb hby d9_201) hr
  · show QrmNL Z a1 A N I J cc M B kh kl nb lf h0 n0 _ T15.heap _
    rw [e15]
    exact ⟨_, rfl, N15, K15, Lq15⟩
theorem d11_0 : decode q10 0 = .ok (.aload_n 0, 1) := by decide +kernel
theorem d11_1 : decode q10 1 = .ok (.getfield 52, 3) := by decide +kernel
theorem d11_4 : decode q10 4 = .ok (.iload_n 1, 1) := by decide +kernel
theorem d11_5 : decode q10 5 = .ok (.aload_n 0, 1) := by decide +kernel
theorem d11_6 : decode q10 6 = .ok (.getfield 52, 3) := by decide +kernel
theorem d11_9 : decode q10 9 = .ok (.iload_n 2, 1) := by decide +kernel
theorem d11_10 : decode q10 10 = .ok (.iload_n 3, 1) := by decide +kernel
theorem d11_11 : decode q10 11 = .ok (.invokestatic 186, 3) := by decide +kernel
theorem d11_14 : decode q10 14 = .ok (.aload_n 0, 1) := by decide +kernel
theorem d11_15 : decode q10 15 = .ok (.getfield 55, 3) := by decide +kernel
theorem d11_18 : decode q10 18 = .ok (.iload_n 1, 1) := by decide +kernel
theorem d11_19 : decode q10 19 = .ok (.aload_n 0, 1) := by decide +kernel
theorem d11_20 : decode q10 20 = .ok (.getfield 55, 3) := by decide +kernel
theorem d11_23 : decode q10 23 = .ok (.iload_n 2, 1) := by decide +kernel
theorem d11_24 : decode q10 24 = .ok (.iload_n 3, 1) := by decide +kernel
theorem d11_25 : decode q10 25 = .ok (.invokestatic 186, 3) := by decide +kernel
theorem d11_28 : decode q10 28 = .ok (.aload_n 0, 1) := by decide +kernel
theorem d11_29 : decode q10 29 = .ok (.getfield 58, 3) := by decide +kernel
theorem d11_32 : decode q10 32 = .ok (.iload_n 1, 1) := by decide +kernel
theorem d11_33 : decode q10 33 = .ok (.aload_n 0, 1) := by decide +kernel
theorem d11_34 : decode q10 34 = .ok (.getfield 58, 3) := by decide +kernel
theorem d11_37 : decode q10 37 = .ok (.iload_n 2, 1) := by decide +kernel
theorem d11_38 : decode q10 38 = .ok (.iload_n 3, 1) := by decide +kernel
theorem d11_39 : decode q10 39 = .ok (.invokestatic 186, 3) := by decide +kernel
theorem d11_42 : decode q10 42 = .ok (.aload_n 0, 1) := by decide +kernel
theorem d11_43 : decode q10 43 = .ok (.getfield 61, 3) := by decide +kernel
theorem d11_46 : decode q10 46 = .ok (.iload_n 1, 1) := by decide +kernel
theorem d11_47 : decode q10 47 = .ok (.aload_n 0, 1) := by decide +kernel
theorem d11_48 : decode q10 48 = .ok (.getfield 61, 3) := by decide +kernel
theorem d11_51 : decode q10 51 = .ok (.iload_n 2, 1) := by decide +kernel
theorem d11_52 : decode q10 52 = .ok (.iload_n 3, 1) := by decide +kernel
theorem d11_53 : decode q10 53 = .ok (.invokestatic 186, 3) := by decide +kernel
theorem d11_56 : decode q10 56 = .ok (.aload_n 0, 1) := by decide +kernel
theorem d11_57 : decode q10 57 = .ok (.getfield 64, 3) := by decide +kernel
theorem d11_60 : decode q10 60 = .ok (.iload_n 1, 1) := by decide +kernel
theorem d11_61 : decode q10 61 = .ok (.aload_n 0, 1) := by decide +kernel
theorem d11_62 : decode q10 62 = .ok (.getfield 64, 3) := by decide +kernel
theorem d11_65 : decode q10 65 = .ok (.iload_n 2, 1) := by decide +kernel
theorem d11_66 : decode q10 66 = .ok (.iload_n 3, 1) := by decide +kernel
theorem d11_67 : decode q10 67 = .ok (.invokestatic 186, 3) := by decide +kernel
theorem d11_70 : decode q10 70 = .ok (.aload_n 0, 1) := by decide +kernel
theorem d11_71 : decode q10 71 = .ok (.getfield 67, 3) := by decide +kernel
theorem d11_74 : decode q10 74 = .ok (.iload_n 1, 1) := by decide +kernel
theorem d11_75 : decode q10 75 = .ok (.aload_n 0, 1) := by decide +kernel
theorem d11_76 : decode q10 76 = .ok (.getfield 67, 3) := by decide +kernel
theorem d11_79 : decode q10 79 = .ok (.iload_n 2, 1) := by decide +kernel
theorem d11_80 : decode q10 80 = .ok (.iload_n 3, 1) := by decide +kernel
theorem d11_81 : decode q10 81 = .ok (.invokestatic 186, 3) := by decide +kernel
theorem d11_84 : decode q10 84 = .ok (.aload_n 0, 1) := by decide +kernel
theorem d11_85 : decode q10 85 = .ok (.getfield 70, 3) := by decide +kernel
theorem d11_88 : decode q10 88 = .ok (.iload_n 1, 1) := by decide +kernel
theorem d11_89 : decode q10 89 = .ok (.aload_n 0, 1) := by decide +kernel
theorem d11_90 : decode q10 90 = .ok (.getfield 70, 3) := by decide +kernel
theorem d11_93 : decode q10 93 = .ok (.iload_n 2, 1) := by decide +kernel
theorem d11_94 : decode q10 94 = .ok (.iload_n 3, 1) := by decide +kernel
theorem d11_95 : decode q10 95 = .ok (.invokestatic 186, 3) := by decide +kernel
theorem d11_98 : decode q10 98 = .ok (.return_, 1) := by decide +kernel
theorem ef_rmMS (m : MethodId) (x0 : Addr) (x1 : Int32) (x2 : Int32) (x3 : Int32) : entryFrame m #[(.ref x0), (.int x1), (.int x2), (.int x3)] 4 = mkF m 0 #[vR x0, .val (.int x1), .val (.int x2), .val (.int x3)] [] := by first | (simp [entryFrame, mkF, argsToLocals, Value.category]; done) | rfl
def QrmMS (Z : State) (a1 : Addr) (A : Nat → Addr) (N : Nat → Nat) (I : Nat → Nat → Int32) (J : Nat → Nat → Int64) (cc : Nat → Int32) (M : Nat → Option Addr) (B : Nat → Nat → Int32) (nb fr to cn : Nat) (h0 : Heap) (n0 : Nat) (v : Option Value) (h : Heap) (L : List Loc) : Prop := v = none ∧ Fr n0 L ∧ KN n0 h0 h ∧ LT Z h n0 a1 A N (mvI I fr to cn) (mvJ J fr to cn) cc M B
set_option maxRecDepth 65536 in
set_option maxHeartbeats 40000000 in
theorem rmMS (l : Launch) (Z : State) (a0 : Array Value) (hw : ∀ d ∈ tables_1, d.before a0 Z = true) (ws : List Jvm.Cond) (a1 : Addr) (A : Nat → Addr) (N : Nat → Nat) (I : Nat → Nat → Int32) (J : Nat → Nat → Int64) (cc : Nat → Int32) (M : Nat → Option Addr) (B : Nat → Nat → Int32) (nb fr to cn : Nat) (h0 : Heap) (n0 : Nat) (Z0 : n0 ≤ h0.size) (L0 : LT Z h0 n0 a1 A N I J cc M B) (hS : SZ N nb) (hb1 : fr + cn ≤ 64 * nb) (hb2 : to + cn ≤ 64 * nb) :
    MetFree l (⟨"com/example/ebbtide/ebbtide/cluster/LoadTrees", "moveSlots", "(III)V"⟩ : MethodName) (head1 (Jvm.Cond.code (⟨"com/example/ebbtide/ebbtide/cluster/LoadTrees", "moveSlots", "(III)V"⟩ : MethodName) prog_74_method_21_code 4 none :: ws) ({ frames := 1, cells := 0, slots := 0, locals := 18 } : Room)) (fun a U => a = #[(.ref a1), (.int (Int32.ofNat (fr))), (.int (Int32.ofNat (to))), (.int (Int32.ofNat (cn)))] ∧ Z.Warmed39 U.vm ∧ U.heap = h0) (fun _ _ _ _ _ => True) (fun _ U o U' => ∃ v L, o = .returned v ∧ QrmMS Z a1 A N I J cc M B nb fr to cn h0 n0 v U'.heap L ∧ FrameEnd U o U' L ({ frames := 1, cells := 0, slots := 0, locals := 18 } : Room).cells ({ frames := 1, cells := 0, slots := 0, locals := 18 } : Room).slots) := by
  refine MetFree.of_bodySF (plainFor_of_name pn_com_example_ebbtide_ebbtide_cluster_LoadTrees) hisR ?_
  intro p e s m args below meth c s₁ Bd hml0 hP hK
  obtain ⟨rfl, hZ, hh⟩ := hP
  have hx := Bd.exec
  have hby := Bd.bytes
  have hml : c.maxLocals = 4 := hml0
  have hown : s.vm.findClass "com/example/ebbtide/ebbtide/cluster/LoadTrees" = some m.cls := findClass_of_methodNamed Bd.named
  have hnm := (name_of_methodNamed Bd.named Bd.method).1
  have X0 : Stand p l e ({ frames := 1, cells := 0, slots := 0, locals := 18 } : Room) s m #[(.ref a1), (.int (Int32.ofNat (fr))), (.int (Int32.ofNat (to))), (.int (Int32.ofNat (cn)))] below meth c s₁ [] 0 0 := Stand.of_body Bd
  have e0 : s₁.heap = h0 := by rw [← hh, Bd.state]; rfl
  have N0 := Fr.nil n0
  have pre0 : ∀ t, Steps p.tables e below (s₁.setTop (mkF m 0 #[vR a1, vN (fr), vN (to), vN (cn)] [])) t → Steps p.tables e below (s₁.setTop (entryFrame m #[(.ref a1), (.int (Int32.ofNat (fr))), (.int (Int32.ofNat (to))), (.int (Int32.ofNat (cn)))] 4)) t := fun t k => castTop (ef_rmMS m a1 (Int32.ofNat (fr)) (Int32.ofNat (to)) (Int32.ofNat (cn))) k
  obtain ⟨S0, S1, S2, S3, S4, S5, S6, S7, S8, S9, S10, S11, S12, S13, S14, S15, S16, S17, S18, S19, S20, S21, S22⟩ := hS
  obtain ⟨T1, X1, e1, st1⟩ := getF X0 hx hZ hown (host := "") (Or.inl (tw hw 50 rfl)) Via.refl e0 (L0.FI 7 (by decide) rfl) (g := (mkF m 1 #[vR a1, vN (fr), vN (to), vN (cn)] [(.ref a1)])) rfl rfl (hb hby d11_1)
  obtain ⟨T2, X2, e2, st2⟩ := getF X1 hx hZ hown (host := "") (Or.inl (tw hw 50 rfl)) Via.refl e1 (L0.FI 7 (by decide) rfl) (g := (mkF m 6 #[vR a1, vN (fr), vN (to), vN (cn)] [(.ref a1), (.int (Int32.ofNat (fr))), (.ref (A 7))])) rfl rfl (hb hby d11_6)
  obtain ⟨T3, h3, L3, X3, e3, N3, Kc3, V3q, st3⟩ := own_cp X2 hx hZ hown (tw hw 104 rfl) (tw hw 107 rfl) (tw hw 105 rfl) (tw hw 106 rfl) e2 (L0.aI 7 (by decide)) rfl (fun _ _ => rfl) (sp := fr) (dp := to) (nn := cn) (by omega) (by omega) N0 (L0.gA 7 (by decide)) (g := (mkF m 11 #[vR a1, vN (fr), vN (to), vN (cn)] [(.int (Int32.ofNat (cn))), (.int (Int32.ofNat (to))), (.ref (A 7)), (.int (Int32.ofNat (fr))), (.ref (A 7))])) rfl (by rw [hml]; rfl) rfl (hb hby d11_11) (by decide) (W := 0) (by show 2 * 0 + _ ≤ _; exact Nat.le_of_eq rfl) (by decide)
  have V3 : AR Z h3 (A 7) .int (N 7) (fun j => .int (cpy (I 7) (fr) (to) (cn) j)) := V3q.eq fun j _ => by unfold cpy; split <;> rfl
  have Lq3 := L0.cpI (k := 7) (by decide) Kc3 V3
  have K3 : KN n0 h0 h3 := (KN.refl n0 h0).trans (KN.keep Kc3 (allS (L0.gA 7 (by decide)) all0))
  have Z3 : n0 ≤ h3.size := Nat.le_trans Z0 K3.1
  obtain ⟨T4, X4, e4, st4⟩ := getF X3 hx hZ hown (host := "") (Or.inl (tw hw 52 rfl)) Via.refl e3 (Lq3.FI 8 (by decide) rfl) (g := (mkF m 15 #[vR a1, vN (fr), vN (to), vN (cn)] [(.ref a1)])) rfl rfl (hb hby d11_15)
  obtain ⟨T5, X5, e5, st5⟩ := getF X4 hx hZ hown (host := "") (Or.inl (tw hw 52 rfl)) Via.refl e4 (Lq3.FI 8 (by decide) rfl) (g := (mkF m 20 #[vR a1, vN (fr), vN (to), vN (cn)] [(.ref a1), (.int (Int32.ofNat (fr))), (.ref (A 8))])) rfl rfl (hb hby d11_20)
  obtain ⟨T6, h6, L6, X6, e6, N6, Kc6, V6q, st6⟩ := own_cp X5 hx hZ hown (tw hw 104 rfl) (tw hw 107 rfl) (tw hw 105 rfl) (tw hw 106 rfl) e5 (Lq3.aI 8 (by decide)) rfl (fun _ _ => rfl) (sp := fr) (dp := to) (nn := cn) (by omega) (by omega) N3 (Lq3.gA 8 (by decide)) (g := (mkF m 25 #[vR a1, vN (fr), vN (to), vN (cn)] [(.int (Int32.ofNat (cn))), (.int (Int32.ofNat (to))), (.ref (A 8)), (.int (Int32.ofNat (fr))), (.ref (A 8))])) rfl (by rw [hml]; rfl) rfl (hb hby d11_25) (by decide) (W := 0) (by show 2 * 0 + _ ≤ _; exact Nat.le_of_eq rfl) (by decide)
  have V6 : AR Z h6 (A 8) .int (N 8) (fun j => .int (cpy ((u1 I 7 (cpy (I 7) (fr) (to) (cn))) 8) (fr) (to) (cn) j)) := V6q.eq fun j _ => by unfold cpy; split <;> rfl
  have Lq6 := Lq3.cpI (k := 8) (by decide) Kc6 V6
  have K6 : KN n0 h0 h6 := K3.trans (KN.keep Kc6 (allS (Lq3.gA 8 (by decide)) all0))
  have Z6 : n0 ≤ h6.size := Nat.le_trans Z0 K6.1
  obtain ⟨T7, X7, e7, st7⟩ := getF X6 hx hZ hown (host := "") (Or.inl (tw hw 54 rfl)) Via.refl e6 (Lq6.FI 9 (by decide) rfl) (g := (mkF m 29 #[vR a1, vN (fr), vN (to), vN (cn)] [(.ref a1)])) rfl rfl (hb hby d11_29)
  obtain ⟨T8, X8, e8, st8⟩ := getF X7 hx hZ hown (host := "") (Or.inl (tw hw 54 rfl)) Via.refl e7 (Lq6.FI 9 (by decide) rfl) (g := (mkF m 34 #[vR a1, vN (fr), vN (to), vN (cn)] [(.ref a1), (.int (Int32.ofNat (fr))), (.ref (A 9))])) rfl rfl (hb hby d11_34)
  obtain ⟨T9, h9, L9, X9, e9, N9, Kc9, V9q, st9⟩ := own_cp X8 hx hZ hown (tw hw 104 rfl) (tw hw 107 rfl) (tw hw 105 rfl) (tw hw 106 rfl) e8 (Lq6.aI 9 (by decide)) rfl (fun _ _ => rfl) (sp := fr) (dp := to) (nn := cn) (by omega) (by omega) N6 (Lq6.gA 9 (by decide)) (g := (mkF m 39 #[vR a1, vN (fr), vN (to), vN (cn)] [(.int (Int32.ofNat (cn))), (.int (Int32.ofNat (to))), (.ref (A 9)), (.int (Int32.ofNat (fr))), (.ref (A 9))])) rfl (by rw [hml]; rfl) rfl (hb hby d11_39) (by decide) (W := 0) (by show 2 * 0 + _ ≤ _; exact Nat.le_of_eq rfl) (by decide)
  have V9 : AR Z h9 (A 9) .int (N 9) (fun j => .int (cpy ((u1 (u1 I 7 (cpy (I 7) (fr) (to) (cn))) 8 (cpy ((u1 I 7 (cpy (I 7) (fr) (to) (cn))) 8) (fr) (to) (cn))) 9) (fr) (to) (cn) j)) := V9q.eq fun j _ => by unfold cpy; split <;> rfl
  have Lq9 := Lq6.cpI (k := 9) (by decide) Kc9 V9
  have K9 : KN n0 h0 h9 := K6.trans (KN.keep Kc9 (allS (Lq6.gA 9 (by decide)) all0))
  have Z9 : n0 ≤ h9.size := Nat.le_trans Z0 K9.1
  obtain ⟨T10, X10, e10, st10⟩ := getF X9 hx hZ hown (host := "") (Or.inl (tw hw 56 rfl)) Via.refl e9 (Lq9.FJ 19 (by decide) (by decide) rfl) (g := (mkF m 43 #[vR a1, vN (fr), vN (to), vN (cn)] [(.ref a1)])) rfl rfl (hb hby d11_43)
  obtain ⟨T11, X11, e11, st11⟩ := getF X10 hx hZ hown (host := "") (Or.inl (tw hw 56 rfl)) Via.refl e10 (Lq9.FJ 19 (by decide) (by decide) rfl) (g := (mkF m 48 #[vR a1, vN (fr), vN (to), vN (cn)] [(.ref a1), (.int (Int32.ofNat (fr))), (.ref (A 19))])) rfl rfl (hb hby d11_48)
  obtain ⟨T12, h12, L12, X12, e12, N12, Kc12, V12q, st12⟩ := own_cp X11 hx hZ hown (tw hw 104 rfl) (tw hw 107 rfl) (tw hw 105 rfl) (tw hw 106 rfl) e11 (Lq9.aJ 19 (by decide) (by decide)) rfl (fun _ _ => rfl) (sp := fr) (dp := to) (nn := cn) (by omega) (by omega) N9 (Lq9.gA 19 (by decide)) (g := (mkF m 53 #[vR a1, vN (fr), vN (to), vN (cn)] [(.int (Int32.ofNat (cn))), (.int (Int32.ofNat (to))), (.ref (A 19)), (.int (Int32.ofNat (fr))), (.ref (A 19))])) rfl (by rw [hml]; rfl) rfl (hb hby d11_53) (by decide) (W := 0) (by show 2 * 0 + _ ≤ _; exact Nat.le_of_eq rfl) (by decide)
  have V12 : AR Z h12 (A 19) .long (N 19) (fun j => .long (cpy (J 19) (fr) (to) (cn) j)) := V12q.eq fun j _ => by unfold cpy; split <;> rfl
  have Lq12 := Lq9.cpJ (k := 19) (by decide) (by decide) Kc12 V12
  have K12 : KN n0 h0 h12 := K9.trans (KN.keep Kc12 (allS (Lq9.gA 19 (by decide)) all0))
  have Z12 : n0 ≤ h12.size := Nat.le_trans Z0 K12.1
  obtain ⟨T13, X13, e13, st13⟩ := getF X12 hx hZ hown (host := "") (Or.inl (tw hw 58 rfl)) Via.refl e12 (Lq12.FJ 20 (by decide) (by decide) rfl) (g := (mkF m 57 #[vR a1, vN (fr), vN (to), vN (cn)] [(.ref a1)])) rfl rfl (hb hby d11_57)
  obtain ⟨T14, X14, e14, st14⟩ := getF X13 hx hZ hown (host := "") (Or.inl (tw hw 58 rfl)) Via.refl e13 (Lq12.FJ 20 (by decide) (by decide) rfl) (g := (mkF m 62 #[vR a1, vN (fr), vN (to), vN (cn)] [(.ref a1), (.int (Int32.ofNat (fr))), (.ref (A 20))])) rfl rfl (hb hby d11_62)
  obtain ⟨T15, h15, L15, X15, e15, N15, Kc15, V15q, st15⟩ := own_cp X14 hx hZ hown (tw hw 104 rfl) (tw hw 107 rfl) (tw hw 105 rfl) (tw hw 106 rfl) e14 (Lq12.aJ 20 (by decide) (by decide)) rfl (fun _ _ => rfl) (sp := fr) (dp := to) (nn := cn) (by omega) (by omega) N12 (Lq12.gA 20 (by decide)) (g := (mkF m 67 #[vR a1, vN (fr), vN (to), vN (cn)] [(.int (Int32.ofNat (cn))), (.int (Int32.ofNat (to))), (.ref (A 20)), (.int (Int32.ofNat (fr))), (.ref (A 20))])) rfl (by rw [hml]; rfl) rfl (hb hby d11_67) (by decide) (W := 0) (by show 2 * 0 + _ ≤ _; exact Nat.le_of_eq rfl) (by decide)
  have V15 : AR Z h15 (A 20) .long (N 20) (fun j => .long (cpy ((u1 J 19 (cpy (J 19) (fr) (to) (cn))) 20) (fr) (to) (cn) j)) := V15q.eq fun j _ => by unfold cpy; split <;> rfl
  have Lq15 := Lq12.cpJ (k := 20) (by decide) (by decide) Kc15 V15
  have K15 : KN n0 h0 h15 := K12.trans (KN.keep Kc15 (allS (Lq12.gA 20 (by decide)) all0))
  have Z15 : n0 ≤ h15.size := Nat.le_trans Z0 K15.1
  obtain ⟨T16, X16, e16, st16⟩ := getF X15 hx hZ hown (host := "") (Or.inl (tw hw 60 rfl)) Via.refl e15 (Lq15.FJ 21 (by decide) (by decide) rfl) (g := (mkF m 71 #[vR a1, vN (fr), vN (to), vN (cn)] [(.ref a1)])) rfl rfl (hb hby d11_71)
  obtain ⟨T17, X17, e17, st17⟩ := getF X16 hx hZ hown (host := "") (Or.inl (tw hw 60 rfl)) Via.refl e16 (Lq15.FJ 21 (by decide) (by decide) rfl) (g := (mkF m 76 #[vR a1, vN (fr), vN (to), vN (cn)] [(.ref a1), (.int (Int32.ofNat (fr))), (.ref (A 21))])) rfl rfl (hb hby d11_76)
  obtain ⟨T18, h18, L18, X18, e18, N18, Kc18, V18q, st18⟩ := own_cp X17 hx hZ hown (tw hw 104 rfl) (tw hw 107 rfl) (tw hw 105 rfl) (tw hw 106 rfl) e17 (Lq15.aJ 21 (by decide) (by decide)) rfl (fun _ _ => rfl) (sp := fr) (dp := to) (nn := cn) (by omega) (by omega) N15 (Lq15.gA 21 (by decide)) (g := (mkF m 81 #[vR a1, vN (fr), vN (to), vN (cn)] [(.int (Int32.ofNat (cn))), (.int (Int32.ofNat (to))), (.ref (A 21)), (.int (Int32.ofNat (fr))), (.ref (A 21))])) rfl (by rw [hml]; rfl) rfl (hb hby d11_81) (by decide) (W := 0) (by show 2 * 0 + _ ≤ _; exact Nat.le_of_eq rfl) (by decide)
  have V18 : AR Z h18 (A 21) .long (N 21) (fun j => .long (cpy ((u1 (u1 J 19 (cpy (J 19) (fr) (to) (cn))) 20 (cpy ((u1 J 19 (cpy (J 19) (fr) (to) (cn))) 20) (fr) (to) (cn))) 21) (fr) (to) (cn) j)) := V18q.eq fun j _ => by unfold cpy; split <;> rfl
  have Lq18 := Lq15.cpJ (k := 21) (by decide) (by decide) Kc18 V18
  have K18 : KN n0 h0 h18 := K15.trans (KN.keep Kc18 (allS (Lq15.gA 21 (by decide)) all0))
  have Z18 : n0 ≤ h18.size := Nat.le_trans Z0 K18.1
  obtain ⟨T19, X19, e19, st19⟩ := getF X18 hx hZ hown (host := "") (Or.inl (tw hw 62 rfl)) Via.refl e18 (Lq18.FI 10 (by decide) rfl) (g := (mkF m 85 #[vR a1, vN (fr), vN (to), vN (cn)] [(.ref a1)])) rfl rfl (hb hby d11_85)
  obtain ⟨T20, X20, e20, st20⟩ := getF X19 hx hZ hown (host := "") (Or.inl (tw hw 62 rfl)) Via.refl e19 (Lq18.FI 10 (by decide) rfl) (g := (mkF m 90 #[vR a1, vN (fr), vN (to), vN (cn)] [(.ref a1), (.int (Int32.ofNat (fr))), (.ref (A 10))])) rfl rfl (hb hby d11_90)
  obtain ⟨T21, h21, L21, X21, e21, N21, Kc21, V21q, st21⟩ := own_cp X20 hx hZ hown (tw hw 104 rfl) (tw hw 107 rfl) (tw hw 105 rfl) (tw hw 106 rfl) e20 (Lq18.aI 10 (by decide)) rfl (fun _ _ => rfl) (sp := fr) (dp := to) (nn := cn) (by omega) (by omega) N18 (Lq18.gA 10 (by decide)) (g := (mkF m 95 #[vR a1, vN (fr), vN (to), vN (cn)] [(.int (Int32.ofNat (cn))), (.int (Int32.ofNat (to))), (.ref (A 10)), (.int (Int32.ofNat (fr))), (.ref (A 10))])) rfl (by rw [hml]; rfl) rfl (hb hby d11_95) (by decide) (W := 0) (by show 2 * 0 + _ ≤ _; exact Nat.le_of_eq rfl) (by decide)
  have V21 : AR Z h21 (A 10) .int (N 10) (fun j => .int (cpy ((u1 (u1 (u1 I 7 (cpy (I 7) (fr) (to) (cn))) 8 (cpy ((u1 I 7 (cpy (I 7) (fr) (to) (cn))) 8) (fr) (to) (cn))) 9 (cpy ((u1 (u1 I 7 (cpy (I 7) (fr) (to) (cn))) 8 (cpy ((u1 I 7 (cpy (I 7) (fr) (to) (cn))) 8) (fr) (to) (cn))) 9) (fr) (to) (cn))) 10) (fr) (to) (cn) j)) := V21q.eq fun j _ => by unfold cpy; split <;> rfl
  have Lq21 := Lq18.cpI (k := 10) (by decide) Kc21 V21
  have K21 : KN n0 h0 h21 := K18.trans (KN.keep Kc21 (allS (Lq18.gA 10 (by decide)) all0))
  have Z21 : n0 ≤ h21.size := Nat.le_trans Z0 K21.1
  obtain ⟨fs, hr, hrun, hended, hW, hsame⟩ := X21.leave (v := none) (fun _ => rfl)
  refine ⟨_, _, pre0 _ (?_), hrun, hended, _, _, rfl, ?_, ⟨_, rfl⟩, hW, hsame.mono (by decide) (by decide)⟩
  · show Steps p.tables e below (s₁.setTop (mkF m 0 #[vR a1, vN (fr), vN (to), vN (cn)] [])) _
    refine XS.aloadN X0.here hx rfl (hb hby d11_0) rfl rfl ?_
    refine st1 _ ?_
    refine XS.iloadN X1.here hx rfl (hb hby d11_4) rfl ?_
    refine XS.aloadN X1.here hx rfl (hb hby d11_5) rfl rfl ?_
    refine st2 _ ?_
    refine XS.iloadN X2.here hx rfl (hb hby d11_9) rfl ?_
    refine XS.iloadN X2.here hx rfl (hb hby d11_10) rfl ?_
    refine st3 _ ?_
    refine XS.aloadN X3.here hx rfl (hb hby d11_14) rfl rfl ?_
    refine st4 _ ?_
    refine XS.iloadN X4.here hx rfl (hb hby d11_18) rfl ?_
    refine XS.aloadN X4.here hx rfl (hb hby d11_19) rfl rfl ?_
    show Steps p.tables e below (T4.setTop (mkF m 20 #[vR a1, vN (fr), vN (to), vN (cn)] [(.ref a1), (.int (Int32.ofNat (fr))), (.ref (A 8))])) _
    refine st5 _ ?_
    refine XS.iloadN X5.here hx rfl (hb hby d11_23) rfl ?_
    refine XS.iloadN X5.here hx rfl (hb hby d11_24) rfl ?_
    refine st6 _ ?_
    refine XS.aloadN X6.here hx rfl (hb hby d11_28) rfl rfl ?_
    refine st7 _ ?_
    refine XS.iloadN X7.here hx rfl (hb hby d11_32) rfl ?_
    refine XS.aloadN X7.here hx rfl (hb hby d11_33) rfl rfl ?_
    refine st8 _ ?_
    refine XS.iloadN X8.here hx rfl (hb hby d11_37) rfl ?_
    refine XS.iloadN X8.here hx rfl (hb hby d11_38) rfl ?_
    refine st9 _ ?_
    show Steps p.tables e below (T9.setTop (mkF m 42 #[vR a1, vN (fr), vN (to), vN (cn)] [])) _
    refine XS.aloadN X9.here hx rfl (hb hby d11_42) rfl rfl ?_
    refine st10 _ ?_
    refine XS.iloadN X10.here hx rfl (hb hby d11_46) rfl ?_
    refine XS.aloadN X10.here hx rfl (hb hby d11_47) rfl rfl ?_
    refine st11 _ ?_
    refine XS.iloadN X11.here hx rfl (hb hby d11_51) rfl ?_
    refine XS.iloadN X11.here hx rfl (hb hby d11_52) rfl ?_
    refine st12 _ ?_
    refine XS.aloadN X12.here hx rfl (hb hby d11_56) rfl rfl ?_
    refine st13 _ ?_
    refine XS.iloadN X13.here hx rfl (hb hby d11_60) rfl ?_
    refine XS.aloadN X13.here hx rfl (hb hby d11_61) rfl rfl ?_
    show Steps p.tables e below (T13.setTop (mkF m 62 #[vR a1, vN (fr), vN (to), vN (cn)] [(.ref a1), (.int (Int32.ofNat (fr))), (.ref (A 20))])) _
    refine st14 _ ?_
    refine XS.iloadN X14.here hx rfl (hb hby d11_65) rfl ?_
    refine XS.iloadN X14.here hx rfl (hb hby d11_66) rfl ?_
    refine st15 _ ?_
    refine XS.aloadN X15.here hx rfl (hb hby d11_70) rfl rfl ?_
    refine st16 _ ?_
    refine XS.iloadN X16.here hx rfl (hb hby d11_74) rfl ?_
    refine XS.aloadN X16.here hx rfl (hb hby d11_75) rfl rfl ?_
    refine st17 _ ?_
    refine XS.iloadN X17.here hx rfl (hb hby d11_79) rfl ?_
    refine XS.iloadN X17.here hx rfl (hb hby d11_80) rfl ?_
    refine st18 _ ?_
    show Steps p.tables e below (T18.setTop (mkF m 84 #[vR a1, vN (fr), vN (to), vN (cn)] [])) _
    refine XS.aloadN X18.here hx rfl (hb hby d11_84) rfl rfl ?_
    refine st19 _ ?_
    refine XS.iloadN X19.here hx rfl (hb hby d11_88) rfl ?_
    refine XS.aloadN X19.here hx rfl (hb hby d11_89) rfl rfl ?_
    refine st20 _ ?_
    refine XS.iloadN X20.here hx rfl (hb hby d11_93) rfl ?_
    refine XS.iloadN X20.here hx rfl (hb hby d11_94) rfl ?_
    refine st21 _ ?_
    show Steps p.tables e below (T21.setTop (mkF m 98 #[vR a1, vN (fr), vN (to), vN (cn)] [])) _
    exact X21.returnOut hx Bd.returns (hb hby d11_98) hr
  · show QrmMS Z a1 A N I J cc M B nb fr to cn h0 n0 _ T21.heap _
    rw [e21]
    exact ⟨rfl, N21, K21, Lq21⟩
theorem d12_18 : decode q11 18 = .ok (.iload 4, 2) := by decide +kernel
theorem d12_20 : decode q11 20 = .ok (.aload_n 0, 1) := by decide +kernel
theorem d12_21 : decode q11 21 = .ok (.getfield 73, 3) := by decide +kernel
theorem d12_24 : decode q11 24 = .ok (.iload_n 1, 1) := by decide +kernel
theorem d12_25 : decode q11 25 = .ok (.iaload, 1) := by decide +kernel
theorem d12_26 : decode q11 26 = .ok (.if_icmp .ge 40, 3) := by decide +kernel
theorem d12_29 : decode q11 29 = .ok (.aload_n 0, 1) := by decide +kernel
theorem d12_30 : decode q11 30 = .ok (.getfield 43, 3) := by decide +kernel
theorem d12_33 : decode q11 33 = .ok (.aload_n 0, 1) := by decide +kernel
theorem d12_34 : decode q11 34 = .ok (.getfield 52, 3) := by decide +kernel
theorem d12_37 : decode q11 37 = .ok (.iload_n 3, 1) := by decide +kernel
theorem d12_38 : decode q11 38 = .ok (.iload 4, 2) := by decide +kernel
theorem d12_40 : decode q11 40 = .ok (.iadd, 1) := by decide +kernel
theorem d12_41 : decode q11 41 = .ok (.iaload, 1) := by decide +kernel
theorem d12_42 : decode q11 42 = .ok (.iload_n 1, 1) := by decide +kernel
theorem d12_43 : decode q11 43 = .ok (.iastore, 1) := by decide +kernel
theorem d12_44 : decode q11 44 = .ok (.aload_n 0, 1) := by decide +kernel
theorem d12_45 : decode q11 45 = .ok (.getfield 46, 3) := by decide +kernel
theorem d12_48 : decode q11 48 = .ok (.aload_n 0, 1) := by decide +kernel
theorem d12_49 : decode q11 49 = .ok (.getfield 52, 3) := by decide +kernel
theorem d12_52 : decode q11 52 = .ok (.iload_n 3, 1) := by decide +kernel
theorem d12_53 : decode q11 53 = .ok (.iload 4, 2) := by decide +kernel
theorem d12_55 : decode q11 55 = .ok (.iadd, 1) := by decide +kernel
theorem d12_56 : decode q11 56 = .ok (.iaload, 1) := by decide +kernel
theorem d12_57 : decode q11 57 = .ok (.iload 4, 2) := by decide +kernel
theorem d12_59 : decode q11 59 = .ok (.iastore, 1) := by decide +kernel
theorem d12_60 : decode q11 60 = .ok (.iinc 4 1, 3) := by decide +kernel
theorem d12_63 : decode q11 63 = .ok (.goto (-45), 3) := by decide +kernel
set_option maxRecDepth 65536 in
set_option maxHeartbeats 40000000 in
theorem tnNS {p : Program} {l : Launch} {e : Env} {R : Room} {s : State} {m : MethodId} {args : Array Value} {below : List Frame} {meth : Method} {c : Code} {T0 : State} {locs : List Loc} {cells slots : Nat} {Z : State} {a0 : Array Value} {h0 : Heap} (a1 : Addr) (A : Nat → Addr) (N : Nat → Nat) (I : Nat → Nat → Int32) (J : Nat → Nat → Int64) (cc : Nat → Int32) (M : Nat → Option Addr) (B : Nat → Nat → Int32) (nb nd sl n j cd : Nat)
    (X0 : Stand p l e R s m args below meth c T0 locs cells slots) (hx : p.tables.exec = Jvm.exec) (hZ : Z.Warmed39 s.vm) (hw : ∀ d ∈ tables_1, d.before a0 Z = true) (hby : c.code = prog_74_method_22_code) (hml : c.maxLocals = 5) (hown : s.vm.findClass "com/example/ebbtide/ebbtide/cluster/LoadTrees" = some m.cls) (e0 : T0.heap = h0) (n0 : Nat) (N0 : Fr n0 locs) (Z0 : n0 ≤ h0.size) (L0 : LT Z h0 n0 a1 A N I J cc M B) (hS : SZ N nb) (Y11 : I 11 nd = Int32.ofNat n) (hnd : nd < nb) (hnb : nb < 1000) (hn : n ≤ 64) (hj : j < n) (hch : I 7 (nd * 64 + j) = Int32.ofNat cd) (hc4 : cd < 4) :
    ∃ (T' : State) (h' : Heap) (L' : List Loc), Stand p l e R s m args below meth c T' L' cells slots ∧ T'.heap = h' ∧ Fr n0 L' ∧ KN n0 h0 h' ∧ LT Z h' n0 a1 A N (ui (ui I 4 (cd) (Int32.ofNat (nd))) 5 (cd) (Int32.ofNat (j))) J cc M B ∧ (∀ t, Steps p.tables e below (T'.setTop (mkF m 18 #[vR a1, vN (nd), vN (sl), vN (nd * 64), vN (j + 1)] [])) t → Steps p.tables e below (T0.setTop (mkF m 18 #[vR a1, vN (nd), vN (sl), vN (nd * 64), vN (j)] [])) t) := by
  obtain ⟨S0, S1, S2, S3, S4, S5, S6, S7, S8, S9, S10, S11, S12, S13, S14, S15, S16, S17, S18, S19, S20, S21, S22⟩ := hS
  obtain ⟨T1, X1, e1, st1⟩ := getF X0 hx hZ hown (host := "") (Or.inl (tw hw 64 rfl)) Via.refl e0 (L0.FI 11 (by decide) rfl) (g := (mkF m 21 #[vR a1, vN (nd), vN (sl), vN (nd * 64), vN (j)] [(.ref a1), (.int (Int32.ofNat (j)))])) rfl rfl (hb hby d12_21)
  obtain ⟨T2, X2, e2, st2⟩ := getF X1 hx hZ hown (host := "") (Or.inl (tw hw 44 rfl)) Via.refl e1 (L0.FI 4 (by decide) rfl) (g := (mkF m 30 #[vR a1, vN (nd), vN (sl), vN (nd * 64), vN (j)] [(.ref a1)])) rfl rfl (hb hby d12_30)
  obtain ⟨T3, X3, e3, st3⟩ := getF X2 hx hZ hown (host := "") (Or.inl (tw hw 50 rfl)) Via.refl e2 (L0.FI 7 (by decide) rfl) (g := (mkF m 34 #[vR a1, vN (nd), vN (sl), vN (nd * 64), vN (j)] [(.ref a1), (.ref (A 4))])) rfl rfl (hb hby d12_34)
  obtain ⟨T4, h4, X4, e4, W4, st4⟩ := own_stIN X3 hx hZ e3 (L0.aI 4 (by decide)) (i := cd) (by omega) (g := (mkF m 43 #[vR a1, vN (nd), vN (sl), vN (nd * 64), vN (j)] [(.int (Int32.ofNat (nd))), (.int (Int32.ofNat (cd))), (.ref (A 4))])) rfl rfl (hb hby d12_43)
  have K4 : KN n0 h0 h4 := (KN.refl n0 h0).trans (KN.wr W4 (L0.gA 4 (by decide)))
  have N4 := Fr.snoc X4 N0 (L0.gA 4 (by decide))
  have Z4 : n0 ≤ h4.size := Nat.le_trans Z0 (Keep.of_wr W4).1
  have Lq4 := L0.wrI (k := 4) (by decide) W4
  obtain ⟨T5, X5, e5, st5⟩ := getF X4 hx hZ hown (host := "") (Or.inl (tw hw 46 rfl)) Via.refl e4 (Lq4.FI 5 (by decide) rfl) (g := (mkF m 45 #[vR a1, vN (nd), vN (sl), vN (nd * 64), vN (j)] [(.ref a1)])) rfl rfl (hb hby d12_45)
  obtain ⟨T6, X6, e6, st6⟩ := getF X5 hx hZ hown (host := "") (Or.inl (tw hw 50 rfl)) Via.refl e5 (Lq4.FI 7 (by decide) rfl) (g := (mkF m 49 #[vR a1, vN (nd), vN (sl), vN (nd * 64), vN (j)] [(.ref a1), (.ref (A 5))])) rfl rfl (hb hby d12_49)
  obtain ⟨T7, h7, X7, e7, W7, st7⟩ := own_stIN X6 hx hZ e6 (Lq4.aI 5 (by decide)) (i := cd) (by omega) (g := (mkF m 59 #[vR a1, vN (nd), vN (sl), vN (nd * 64), vN (j)] [(.int (Int32.ofNat (j))), (.int (Int32.ofNat (cd))), (.ref (A 5))])) rfl rfl (hb hby d12_59)
  have K7 : KN n0 h0 h7 := K4.trans (KN.wr W7 (Lq4.gA 5 (by decide)))
  have N7 := Fr.snoc X7 N4 (Lq4.gA 5 (by decide))
  have Z7 : n0 ≤ h7.size := Nat.le_trans Z4 (Keep.of_wr W7).1
  have Lq7 := Lq4.wrI (k := 5) (by decide) W7
  refine ⟨T7, h7, _, X7, e7, N7, K7, Lq7, fun t kt => ?_⟩
  · show Steps p.tables e below (T0.setTop (mkF m 18 #[vR a1, vN (nd), vN (sl), vN (nd * 64), vN (j)] [])) _
    refine XS.iload X0.here hx rfl (hb hby d12_18) rfl ?_
    refine XS.aloadN X0.here hx rfl (hb hby d12_20) rfl rfl ?_
    refine st1 _ ?_
    refine XS.iloadN X1.here hx rfl (hb hby d12_24) rfl ?_
    refine own_ldIN X1 hx hZ e1 (L0.aI 11 (by decide)) (i := nd) (x := (Int32.ofNat (n))) (by omega) (congrArg Value.int (show (I 11 (nd)) = (Int32.ofNat (n)) from Y11)) (g := (mkF m 25 #[vR a1, vN (nd), vN (sl), vN (nd * 64), vN (j)] [(.int (Int32.ofNat (nd))), (.ref (A 11)), (.int (Int32.ofNat (j)))])) rfl rfl (hb hby d12_25) _ ?_
    refine XS.icmpNo X1.here hx rfl (hb hby d12_26) rfl (tlt (own_nlt hj (by omega))).2.1 ?_
    refine XS.aloadN X1.here hx rfl (hb hby d12_29) rfl rfl ?_
    refine st2 _ ?_
    refine XS.aloadN X2.here hx rfl (hb hby d12_33) rfl rfl ?_
    refine st3 _ ?_
    refine XS.iloadN X3.here hx rfl (hb hby d12_37) rfl ?_
    refine XS.iload X3.here hx rfl (hb hby d12_38) rfl ?_
    show Steps p.tables e below (T3.setTop (mkF m 40 #[vR a1, vN (nd), vN (sl), vN (nd * 64), vN (j)] [(.int (Int32.ofNat (j))), (.int (Int32.ofNat (nd * 64))), (.ref (A 7)), (.ref (A 4))])) _
    refine XS.iadd X3.here hx rfl (hb hby d12_40) rfl ?_
    show Steps p.tables e below (T3.setTop (mkF m 41 #[vR a1, vN (nd), vN (sl), vN (nd * 64), vN (j)] [(.int ((Int32.ofNat (nd * 64)) + (Int32.ofNat (j)))), (.ref (A 7)), (.ref (A 4))])) _
    rw [show (Int32.ofNat (nd * 64)) + (Int32.ofNat (j)) = Int32.ofNat (nd * 64 + j) from own_na (nd * 64) (j)]
    show Steps p.tables e below (T3.setTop (mkF m 41 #[vR a1, vN (nd), vN (sl), vN (nd * 64), vN (j)] [(.int (Int32.ofNat (nd * 64 + j))), (.ref (A 7)), (.ref (A 4))])) _
    refine own_ldIN X3 hx hZ e3 (L0.aI 7 (by decide)) (i := nd * 64 + j) (x := (Int32.ofNat (cd))) (by omega) (congrArg Value.int (show (I 7 (nd * 64 + j)) = (Int32.ofNat (cd)) from hch)) (g := (mkF m 41 #[vR a1, vN (nd), vN (sl), vN (nd * 64), vN (j)] [(.int (Int32.ofNat (nd * 64 + j))), (.ref (A 7)), (.ref (A 4))])) rfl rfl (hb hby d12_41) _ ?_
    refine XS.iloadN X3.here hx rfl (hb hby d12_42) rfl ?_
    refine st4 _ ?_
    refine XS.aloadN X4.here hx rfl (hb hby d12_44) rfl rfl ?_
    refine st5 _ ?_
    refine XS.aloadN X5.here hx rfl (hb hby d12_48) rfl rfl ?_
    refine st6 _ ?_
    refine XS.iloadN X6.here hx rfl (hb hby d12_52) rfl ?_
    refine XS.iload X6.here hx rfl (hb hby d12_53) rfl ?_
    refine XS.iadd X6.here hx rfl (hb hby d12_55) rfl ?_
    show Steps p.tables e below (T6.setTop (mkF m 56 #[vR a1, vN (nd), vN (sl), vN (nd * 64), vN (j)] [(.int ((Int32.ofNat (nd * 64)) + (Int32.ofNat (j)))), (.ref (A 7)), (.ref (A 5))])) _
    rw [show (Int32.ofNat (nd * 64)) + (Int32.ofNat (j)) = Int32.ofNat (nd * 64 + j) from own_na (nd * 64) (j)]
    show Steps p.tables e below (T6.setTop (mkF m 56 #[vR a1, vN (nd), vN (sl), vN (nd * 64), vN (j)] [(.int (Int32.ofNat (nd * 64 + j))), (.ref (A 7)), (.ref (A 5))])) _
    refine own_ldIN X6 hx hZ e6 (Lq4.aI 7 (by decide)) (i := nd * 64 + j) (x := (Int32.ofNat (cd))) (by omega) (congrArg Value.int (show ((ui I 4 (cd) (Int32.ofNat (nd))) 7 (nd * 64 + j)) = (Int32.ofNat (cd)) from hch)) (g := (mkF m 56 #[vR a1, vN (nd), vN (sl), vN (nd * 64), vN (j)] [(.int (Int32.ofNat (nd * 64 + j))), (.ref (A 7)), (.ref (A 5))])) rfl rfl (hb hby d12_56) _ ?_
    refine XS.iload X6.here hx rfl (hb hby d12_57) rfl ?_
    refine st7 _ ?_
    refine XS.iinc X7.here hx rfl (hb hby d12_60) rfl (l' := #[vR a1, vN (nd), vN (sl), vN (nd * 64), .val (.int ((Int32.ofNat (j)) + (1 : Int32)))]) rfl ?_
    show Steps p.tables e below (T7.setTop (mkF m 63 #[vR a1, vN (nd), vN (sl), vN (nd * 64), .val (.int ((Int32.ofNat (j)) + (1 : Int32)))] [])) _
    rw [show ((Int32.ofNat (j)) + (1 : Int32)) = Int32.ofNat (j + 1) from own_na (j) (1)]
    show Steps p.tables e below (T7.setTop (mkF m 63 #[vR a1, vN (nd), vN (sl), vN (nd * 64), vN (j + 1)] [])) _
    refine XS.goto X7.here hx rfl (pc0 := 63) (pc' := 18) rfl (hb hby d12_63) (by decide) (by decide) ?_
    exact kt
theorem d12_66 : decode q11 66 = .ok (.goto 54, 3) := by decide +kernel
set_option maxRecDepth 65536 in
set_option maxHeartbeats 40000000 in
theorem exNS {p : Program} {l : Launch} {e : Env} {R : Room} {s : State} {m : MethodId} {args : Array Value} {below : List Frame} {meth : Method} {c : Code} {T0 : State} {locs : List Loc} {cells slots : Nat} {Z : State} {a0 : Array Value} {h0 : Heap} (a1 : Addr) (A : Nat → Addr) (N : Nat → Nat) (I : Nat → Nat → Int32) (J : Nat → Nat → Int64) (cc : Nat → Int32) (M : Nat → Option Addr) (B : Nat → Nat → Int32) (nb nd sl n j : Nat)
    (X0 : Stand p l e R s m args below meth c T0 locs cells slots) (hx : p.tables.exec = Jvm.exec) (hZ : Z.Warmed39 s.vm) (hw : ∀ d ∈ tables_1, d.before a0 Z = true) (hby : c.code = prog_74_method_22_code) (hml : c.maxLocals = 5) (hown : s.vm.findClass "com/example/ebbtide/ebbtide/cluster/LoadTrees" = some m.cls) (e0 : T0.heap = h0) (n0 : Nat) (N0 : Fr n0 locs) (Z0 : n0 ≤ h0.size) (L0 : LT Z h0 n0 a1 A N I J cc M B) (hS : SZ N nb) (Y11 : I 11 nd = Int32.ofNat n) (hnd : nd < nb) (hnb : nb < 1000) (hn : n ≤ 64) (hj : n ≤ j) (hj2 : j ≤ 64) :
    ∃ (T' : State) (h' : Heap) (L' : List Loc), Stand p l e R s m args below meth c T' L' cells slots ∧ T'.heap = h' ∧ Fr n0 L' ∧ KN n0 h0 h' ∧ h' = h0 ∧ (∀ t, Steps p.tables e below (T'.setTop (mkF m 120 #[vR a1, vN (nd), vN (sl), vN (nd * 64), vN (j)] [])) t → Steps p.tables e below (T0.setTop (mkF m 18 #[vR a1, vN (nd), vN (sl), vN (nd * 64), vN (j)] [])) t) := by
  obtain ⟨S0, S1, S2, S3, S4, S5, S6, S7, S8, S9, S10, S11, S12, S13, S14, S15, S16, S17, S18, S19, S20, S21, S22⟩ := hS
  obtain ⟨T1, X1, e1, st1⟩ := getF X0 hx hZ hown (host := "") (Or.inl (tw hw 64 rfl)) Via.refl e0 (L0.FI 11 (by decide) rfl) (g := (mkF m 21 #[vR a1, vN (nd), vN (sl), vN (nd * 64), vN (j)] [(.ref a1), (.int (Int32.ofNat (j)))])) rfl rfl (hb hby d12_21)
  refine ⟨T1, _, _, X1, e1, N0, (KN.refl n0 h0), rfl, fun t kt => ?_⟩
  · show Steps p.tables e below (T0.setTop (mkF m 18 #[vR a1, vN (nd), vN (sl), vN (nd * 64), vN (j)] [])) _
    refine XS.iload X0.here hx rfl (hb hby d12_18) rfl ?_
    refine XS.aloadN X0.here hx rfl (hb hby d12_20) rfl rfl ?_
    refine st1 _ ?_
    refine XS.iloadN X1.here hx rfl (hb hby d12_24) rfl ?_
    refine own_ldIN X1 hx hZ e1 (L0.aI 11 (by decide)) (i := nd) (x := (Int32.ofNat (n))) (by omega) (congrArg Value.int (show (I 11 (nd)) = (Int32.ofNat (n)) from Y11)) (g := (mkF m 25 #[vR a1, vN (nd), vN (sl), vN (nd * 64), vN (j)] [(.int (Int32.ofNat (nd))), (.ref (A 11)), (.int (Int32.ofNat (j)))])) rfl rfl (hb hby d12_25) _ ?_
    refine XS.icmpYes X1.here hx rfl (pc0 := 26) (pc' := 66) rfl (hb hby d12_26) rfl (flt (own_nge hj (by omega))).2.1 (by decide) (by decide) ?_
    refine XS.goto X1.here hx rfl (pc0 := 66) (pc' := 120) rfl (hb hby d12_66) (by decide) (by decide) ?_
    exact kt
theorem own_u4545 (I : Nat → Nat → Int32) (f g P S : Nat → Int32) : u1 (u1 (u1 (u1 I 4 f) 5 g) 4 P) 5 S = u1 (u1 I 4 P) 5 S := by
  funext k; unfold u1; by_cases Y5 : k = 5
  · rw [if_pos Y5, if_pos Y5]
  · by_cases Y4 : k = 4 <;> simp [Y4, Y5]
theorem own_u4545i (I : Nat → Nat → Int32) (a b : Nat) (x y : Int32) (P S : Nat → Int32) : u1 (u1 (ui (ui I 4 a x) 5 b y) 4 P) 5 S = u1 (u1 I 4 P) 5 S := own_u4545 I _ _ P S
theorem own_u45 (I : Nat → Nat → Int32) : u1 (u1 I 4 (I 4)) 5 (I 5) = I := by
  funext k; unfold u1; by_cases Y5 : k = 5
  · rw [if_pos Y5, Y5]
  · rw [if_neg Y5]
    by_cases Y4 : k = 4
    · rw [if_pos Y4, Y4]
    · rw [if_neg Y4]
theorem lpNS (d : Nat) : ∀ {p : Program} {l : Launch} {e : Env} {R : Room} {s : State} {m : MethodId} {args : Array Value} {below : List Frame} {meth : Method} {c : Code} {T0 : State} {locs : List Loc} {cells slots : Nat} {Z : State} {a0 : Array Value} {h0 : Heap} (a1 : Addr) (A : Nat → Addr) (N : Nat → Nat) (I : Nat → Nat → Int32) (J : Nat → Nat → Int64) (cc : Nat → Int32) (M : Nat → Option Addr) (B : Nat → Nat → Int32) (nb nd sl n j : Nat) (ch : Nat → Nat) (X0 : Stand p l e R s m args below meth c T0 locs cells slots) (hx : p.tables.exec = Jvm.exec) (hZ : Z.Warmed39 s.vm) (hw : ∀ d ∈ tables_1, d.before a0 Z = true) (hby : c.code = prog_74_method_22_code) (hml : c.maxLocals = 5) (hown : s.vm.findClass "com/example/ebbtide/ebbtide/cluster/LoadTrees" = some m.cls) (e0 : T0.heap = h0) (n0 : Nat) (N0 : Fr n0 locs) (Z0 : n0 ≤ h0.size) (L0 : LT Z h0 n0 a1 A N I J cc M B) (hS : SZ N nb) (Y11 : I 11 nd = Int32.ofNat n) (hnd : nd < nb) (hnb : nb < 1000) (hn : n ≤ 64) (hjn : j ≤ n) (hd : n = j + d) (hch : ∀ i, j ≤ i → i < n → I 7 (nd * 64 + i) = Int32.ofNat (ch i) ∧ ch i < 4) (hin : ∀ i i', j ≤ i → i < n → j ≤ i' → i' < n → ch i = ch i' → i = i'),
    ∃ (T' : State) (h' : Heap) (L' : List Loc) (P S : Nat → Int32), Stand p l e R s m args below meth c T' L' cells slots ∧ T'.heap = h' ∧ Fr n0 L' ∧ KN n0 h0 h' ∧ LT Z h' n0 a1 A N (u1 (u1 I 4 P) 5 S) J cc M B ∧ (∀ i, j ≤ i → i < n → P (ch i) = Int32.ofNat nd ∧ S (ch i) = Int32.ofNat i) ∧ (∀ x, (∀ i, j ≤ i → i < n → x ≠ ch i) → P x = I 4 x ∧ S x = I 5 x) ∧ (∀ t, Steps p.tables e below (T'.setTop (mkF m 120 #[vR a1, vN (nd), vN (sl), vN (nd * 64), vN (n)] [])) t → Steps p.tables e below (T0.setTop (mkF m 18 #[vR a1, vN (nd), vN (sl), vN (nd * 64), vN (j)] [])) t) := by
  induction d with
  | zero =>
    intro p l e R s m args below meth c T0 locs cells slots Z a0 h0 a1 A N I J cc M B nb nd sl n j ch X0 hx hZ hw hby hml hown e0 n0 N0 Z0 L0 hS Y11 hnd hnb hn hjn hd hch hin
    obtain ⟨T', h', L', X', e', N', K', hh, st'⟩ := exNS a1 A N I J cc M B nb nd sl n j X0 hx hZ hw hby hml hown e0 n0 N0 Z0 L0 hS Y11 hnd hnb hn (by omega) (by omega)
    subst hh
    have hj : j = n := by omega
    subst hj
    refine ⟨T', h', L', I 4, I 5, X', e', N', K', ?_, fun i Y1 Y2 => absurd Y2 (by omega), fun x _ => ⟨rfl, rfl⟩, st'⟩
    rw [own_u45]; exact L0
  | succ d ih =>
    intro p l e R s m args below meth c T0 locs cells slots Z a0 h0 a1 A N I J cc M B nb nd sl n j ch X0 hx hZ hw hby hml hown e0 n0 N0 Z0 L0 hS Y11 hnd hnb hn hjn hd hch hin
    obtain ⟨c1, c2⟩ := hch j (Nat.le_refl _) (by omega)
    obtain ⟨T1, Y1, L1, X1, e1, N1, K1, Lq, st1⟩ := tnNS a1 A N I J cc M B nb nd sl n j (ch j) X0 hx hZ hw hby hml hown e0 n0 N0 Z0 L0 hS Y11 hnd hnb hn (by omega) c1 c2
    obtain ⟨T2, Y2, L2, P, S, X2, e2, N2, K2, Lr, q1, q2, st2⟩ := ih a1 A N _ J cc M B nb nd sl n (j + 1) ch X1 hx hZ hw hby hml hown e1 n0 N1 (Nat.le_trans Z0 K1.1) Lq hS Y11 hnd hnb hn (by omega) (by omega) (fun i u w => hch i (by omega) w) (fun i i' u w u' w' => hin i i' (by omega) w (by omega) w')
    rw [own_u4545i] at Lr
    refine ⟨T2, Y2, L2, P, S, X2, e2, N2, K1.trans K2, Lr, fun i u w => ?_, fun x hxx => ?_, fun t kt => st1 t (st2 t kt)⟩
    · by_cases hij : i = j
      · subst hij
        obtain ⟨r1, r2⟩ := q2 (ch i) (fun i' u' w' q => by have := hin i i' (Nat.le_refl _) (by omega) (by omega) w' q; omega)
        rw [r1, r2]
        exact ⟨if_pos rfl, if_pos rfl⟩
      · exact q1 i (by omega) w
    · obtain ⟨r1, r2⟩ := q2 x (fun i u w => hxx i (by omega) w)
      rw [r1, r2]
      have nx := hxx j (Nat.le_refl _) (by omega)
      exact ⟨if_neg nx, if_neg nx⟩
theorem d12_0 : decode q11 0 = .ok (.iload_n 1, 1) := by decide +kernel
theorem d12_1 : decode q11 1 = .ok (.bipush 64, 2) := by decide +kernel
theorem d12_3 : decode q11 3 = .ok (.imul, 1) := by decide +kernel
theorem d12_4 : decode q11 4 = .ok (.istore_n 3, 1) := by decide +kernel
theorem d12_5 : decode q11 5 = .ok (.aload_n 0, 1) := by decide +kernel
theorem d12_6 : decode q11 6 = .ok (.getfield 76, 3) := by decide +kernel
theorem d12_9 : decode q11 9 = .ok (.iload_n 1, 1) := by decide +kernel
theorem d12_10 : decode q11 10 = .ok (.iaload, 1) := by decide +kernel
theorem d12_11 : decode q11 11 = .ok (.iconst 1, 1) := by decide +kernel
theorem d12_12 : decode q11 12 = .ok (.if_icmp .ne 57, 3) := by decide +kernel
theorem d12_15 : decode q11 15 = .ok (.iload_n 2, 1) := by decide +kernel
theorem d12_16 : decode q11 16 = .ok (.istore 4, 2) := by decide +kernel
theorem d12_120 : decode q11 120 = .ok (.return_, 1) := by decide +kernel
theorem ef_rmNS (m : MethodId) (x0 : Addr) (x1 : Int32) (x2 : Int32) : entryFrame m #[(.ref x0), (.int x1), (.int x2)] 5 = mkF m 0 #[vR x0, .val (.int x1), .val (.int x2), uu, uu] [] := by first | (simp [entryFrame, mkF, argsToLocals, Value.category]; done) | rfl
def QrmNS (Z : State) (a1 : Addr) (A : Nat → Addr) (N : Nat → Nat) (I : Nat → Nat → Int32) (J : Nat → Nat → Int64) (cc : Nat → Int32) (M : Nat → Option Addr) (B : Nat → Nat → Int32) (nb nd sl n : Nat) (ch : Nat → Nat) (h0 : Heap) (n0 : Nat) (v : Option Value) (h : Heap) (L : List Loc) : Prop := ∃ P S, v = none ∧ Fr n0 L ∧ KN n0 h0 h ∧ LT Z h n0 a1 A N (u1 (u1 I 4 P) 5 S) J cc M B ∧ (∀ i, sl ≤ i → i < n → P (ch i) = Int32.ofNat nd ∧ S (ch i) = Int32.ofNat i) ∧ (∀ x, (∀ i, sl ≤ i → i < n → x ≠ ch i) → P x = I 4 x ∧ S x = I 5 x)
set_option maxRecDepth 65536 in
set_option maxHeartbeats 40000000 in
theorem rmNS (l : Launch) (Z : State) (a0 : Array Value) (hw : ∀ d ∈ tables_1, d.before a0 Z = true) (ws : List Jvm.Cond) (a1 : Addr) (A : Nat → Addr) (N : Nat → Nat) (I : Nat → Nat → Int32) (J : Nat → Nat → Int64) (cc : Nat → Int32) (M : Nat → Option Addr) (B : Nat → Nat → Int32) (nb nd sl n : Nat) (ch : Nat → Nat) (h0 : Heap) (n0 : Nat) (Z0 : n0 ≤ h0.size) (L0 : LT Z h0 n0 a1 A N I J cc M B) (hS : SZ N nb) (Y11 : I 11 nd = Int32.ofNat n) (hnd : nd < nb) (hnb : nb < 1000) (hn : n ≤ 64) (Y12 : I 12 nd = (1 : Int32)) (hsl : sl ≤ n) (hch : ∀ i, sl ≤ i → i < n → I 7 (nd * 64 + i) = Int32.ofNat (ch i) ∧ ch i < 4) (hin : ∀ i i', sl ≤ i → i < n → sl ≤ i' → i' < n → ch i = ch i' → i = i') :
    MetFree l (⟨"com/example/ebbtide/ebbtide/cluster/LoadTrees", "numberSlots", "(II)V"⟩ : MethodName) (head1 (Jvm.Cond.code (⟨"com/example/ebbtide/ebbtide/cluster/LoadTrees", "numberSlots", "(II)V"⟩ : MethodName) prog_74_method_22_code 5 none :: ws) ({ frames := 0, cells := 0, slots := 0, locals := 0 } : Room)) (fun a U => a = #[(.ref a1), (.int (Int32.ofNat (nd))), (.int (Int32.ofNat (sl)))] ∧ Z.Warmed39 U.vm ∧ U.heap = h0) (fun _ _ _ _ _ => True) (fun _ U o U' => ∃ v L, o = .returned v ∧ QrmNS Z a1 A N I J cc M B nb nd sl n ch h0 n0 v U'.heap L ∧ FrameEnd U o U' L ({ frames := 0, cells := 0, slots := 0, locals := 0 } : Room).cells ({ frames := 0, cells := 0, slots := 0, locals := 0 } : Room).slots) := by
  refine MetFree.of_bodySF (plainFor_of_name pn_com_example_ebbtide_ebbtide_cluster_LoadTrees) hisR ?_
  intro p e s m args below meth c s₁ Bd hml0 hP hK
  obtain ⟨rfl, hZ, hh⟩ := hP
  have hx := Bd.exec
  have hby := Bd.bytes
  have hml : c.maxLocals = 5 := hml0
  have hown : s.vm.findClass "com/example/ebbtide/ebbtide/cluster/LoadTrees" = some m.cls := findClass_of_methodNamed Bd.named
  have hnm := (name_of_methodNamed Bd.named Bd.method).1
  have X0 : Stand p l e ({ frames := 0, cells := 0, slots := 0, locals := 0 } : Room) s m #[(.ref a1), (.int (Int32.ofNat (nd))), (.int (Int32.ofNat (sl)))] below meth c s₁ [] 0 0 := Stand.of_body Bd
  have e0 : s₁.heap = h0 := by rw [← hh, Bd.state]; rfl
  have N0 := Fr.nil n0
  have pre0 : ∀ t, Steps p.tables e below (s₁.setTop (mkF m 0 #[vR a1, vN (nd), vN (sl), uu, uu] [])) t → Steps p.tables e below (s₁.setTop (entryFrame m #[(.ref a1), (.int (Int32.ofNat (nd))), (.int (Int32.ofNat (sl)))] 5)) t := fun t k => castTop (ef_rmNS m a1 (Int32.ofNat (nd)) (Int32.ofNat (sl))) k
  have hS0 := hS
  obtain ⟨S0, S1, S2, S3, S4, S5, S6, S7, S8, S9, S10, S11, S12, S13, S14, S15, S16, S17, S18, S19, S20, S21, S22⟩ := hS0
  obtain ⟨T1, X1, e1, st1⟩ := getF X0 hx hZ hown (host := "") (Or.inl (tw hw 66 rfl)) Via.refl e0 (L0.FI 12 (by decide) rfl) (g := (mkF m 6 #[vR a1, vN (nd), vN (sl), vN (nd * 64), uu] [(.ref a1)])) rfl rfl (hb hby d12_6)
  have c3 : ∀ t, Steps p.tables e below (T1.setTop (mkF m 18 #[vR a1, vN (nd), vN (sl), vN (nd * 64), vN (sl)] [])) t → Steps p.tables e below (s₁.setTop (mkF m 0 #[vR a1, vN (nd), vN (sl), uu, uu] [])) t := by
    intro t kt
    show Steps p.tables e below (s₁.setTop (mkF m 0 #[vR a1, vN (nd), vN (sl), uu, uu] [])) _
    refine XS.iloadN X0.here hx rfl (hb hby d12_0) rfl ?_
    refine XS.bipush X0.here hx rfl (hb hby d12_1) ?_
    refine XS.imul X0.here hx rfl (hb hby d12_3) rfl ?_
    show Steps p.tables e below (s₁.setTop (mkF m 4 #[vR a1, vN (nd), vN (sl), uu, uu] [(.int ((Int32.ofNat (nd)) * (64 : Int32)))])) _
    rw [show (Int32.ofNat (nd)) * (64 : Int32) = Int32.ofNat (nd * 64) from own_nm (nd) (64)]
    show Steps p.tables e below (s₁.setTop (mkF m 4 #[vR a1, vN (nd), vN (sl), uu, uu] [(.int (Int32.ofNat (nd * 64)))])) _
    refine XS.istoreN X0.here hx rfl (hb hby d12_4) rfl (l' := #[vR a1, vN (nd), vN (sl), vN (nd * 64), uu]) rfl ?_
    refine XS.aloadN X0.here hx rfl (hb hby d12_5) rfl rfl ?_
    refine st1 _ ?_
    refine XS.iloadN X1.here hx rfl (hb hby d12_9) rfl ?_
    refine own_ldIN X1 hx hZ e1 (L0.aI 12 (by decide)) (i := nd) (x := (1 : Int32)) (by omega) (congrArg Value.int (show (I 12 (nd)) = (1 : Int32) from Y12)) (g := (mkF m 10 #[vR a1, vN (nd), vN (sl), vN (nd * 64), uu] [(.int (Int32.ofNat (nd))), (.ref (A 12))])) rfl rfl (hb hby d12_10) _ ?_
    refine XS.iconst X1.here hx rfl (hb hby d12_11) ?_
    refine XS.icmpNo X1.here hx rfl (hb hby d12_12) rfl (teq (by decide : (1 : Int32) = (1 : Int32))).2 ?_
    refine XS.iloadN X1.here hx rfl (hb hby d12_15) rfl ?_
    refine XS.istore X1.here hx rfl (hb hby d12_16) rfl (l' := #[vR a1, vN (nd), vN (sl), vN (nd * 64), vN (sl)]) rfl ?_
    exact kt
  obtain ⟨T2, h2, L2, P2, S2, X2, e2, N2, K2q, Lq2, q1_2, q2_2, st2⟩ := lpNS (n - sl) a1 A N I J cc M B nb nd sl n sl ch X1 hx hZ hw hby hml hown e1 n0 N0 Z0 L0 hS Y11 hnd hnb hn hsl (by omega) hch hin
  have K2 : KN n0 h0 h2 := (KN.refl n0 h0).trans K2q
  have Z2 : n0 ≤ h2.size := Nat.le_trans Z0 K2q.1
  obtain ⟨fs, hr, hrun, hended, hW, hsame⟩ := X2.leave (v := none) (fun _ => rfl)
  refine ⟨_, _, pre0 _ (c3 _ (?_)), hrun, hended, _, _, rfl, ?_, ⟨_, rfl⟩, hW, hsame.mono (by decide) (by decide)⟩
  · show Steps p.tables e below (T1.setTop (mkF m 18 #[vR a1, vN (nd), vN (sl), vN (nd * 64), vN (sl)] [])) _
    refine st2 _ ?_
    show Steps p.tables e below (T2.setTop (mkF m 120 #[vR a1, vN (nd), vN (sl), vN (nd * 64), vN (n)] [])) _
    exact X2.returnOut hx Bd.returns (hb hby d12_120) hr
  · show QrmNS Z a1 A N I J cc M B nb nd sl n ch h0 n0 _ T2.heap _
    rw [e2]
    exact ⟨_, _, rfl, N2, K2, Lq2, q1_2, q2_2⟩
theorem d13_0 : decode q7 0 = .ok (.iload_n 1, 1) := by decide +kernel
theorem d13_1 : decode q7 1 = .ok (.bipush 64, 2) := by decide +kernel
theorem d13_3 : decode q7 3 = .ok (.imul, 1) := by decide +kernel
theorem d13_4 : decode q7 4 = .ok (.iload_n 2, 1) := by decide +kernel
theorem d13_5 : decode q7 5 = .ok (.iadd, 1) := by decide +kernel
theorem d13_6 : decode q7 6 = .ok (.istore_n 3, 1) := by decide +kernel
theorem d13_7 : decode q7 7 = .ok (.aload_n 0, 1) := by decide +kernel
theorem d13_8 : decode q7 8 = .ok (.getfield 52, 3) := by decide +kernel
theorem d13_11 : decode q7 11 = .ok (.iload_n 3, 1) := by decide +kernel
theorem d13_12 : decode q7 12 = .ok (.iaload, 1) := by decide +kernel
theorem d13_13 : decode q7 13 = .ok (.istore 4, 2) := by decide +kernel
theorem d13_15 : decode q7 15 = .ok (.iconst 0, 1) := by decide +kernel
theorem d13_16 : decode q7 16 = .ok (.istore 5, 2) := by decide +kernel
theorem d13_18 : decode q7 18 = .ok (.iconst 0, 1) := by decide +kernel
theorem d13_19 : decode q7 19 = .ok (.istore 6, 2) := by decide +kernel
theorem d13_21 : decode q7 21 = .ok (.lconst 0, 1) := by decide +kernel
theorem d13_22 : decode q7 22 = .ok (.lstore 7, 2) := by decide +kernel
theorem d13_24 : decode q7 24 = .ok (.aload_n 0, 1) := by decide +kernel
theorem d13_25 : decode q7 25 = .ok (.getfield 76, 3) := by decide +kernel
theorem d13_28 : decode q7 28 = .ok (.iload_n 1, 1) := by decide +kernel
theorem d13_29 : decode q7 29 = .ok (.iaload, 1) := by decide +kernel
theorem d13_30 : decode q7 30 = .ok (.iconst 1, 1) := by decide +kernel
theorem d13_31 : decode q7 31 = .ok (.if_icmp .ne 75, 3) := by decide +kernel
theorem d13_34 : decode q7 34 = .ok (.aload_n 0, 1) := by decide +kernel
theorem d13_35 : decode q7 35 = .ok (.getfield 34, 3) := by decide +kernel
theorem d13_38 : decode q7 38 = .ok (.iload 4, 2) := by decide +kernel
theorem d13_40 : decode q7 40 = .ok (.iaload, 1) := by decide +kernel
theorem d13_41 : decode q7 41 = .ok (.istore 5, 2) := by decide +kernel
theorem d13_43 : decode q7 43 = .ok (.iconst 0, 1) := by decide +kernel
theorem d13_44 : decode q7 44 = .ok (.istore 9, 2) := by decide +kernel
theorem d13_46 : decode q7 46 = .ok (.iload 9, 2) := by decide +kernel
theorem d13_48 : decode q7 48 = .ok (.iload 5, 2) := by decide +kernel
theorem d13_50 : decode q7 50 = .ok (.if_icmp .ge 53, 3) := by decide +kernel
theorem d13_103 : decode q7 103 = .ok (.goto 75, 3) := by decide +kernel
theorem d13_178 : decode q7 178 = .ok (.aload_n 0, 1) := by decide +kernel
theorem d13_179 : decode q7 179 = .ok (.getfield 55, 3) := by decide +kernel
theorem d13_182 : decode q7 182 = .ok (.iload_n 3, 1) := by decide +kernel
theorem d13_183 : decode q7 183 = .ok (.iload 5, 2) := by decide +kernel
theorem d13_185 : decode q7 185 = .ok (.iastore, 1) := by decide +kernel
theorem d13_186 : decode q7 186 = .ok (.aload_n 0, 1) := by decide +kernel
theorem d13_187 : decode q7 187 = .ok (.getfield 58, 3) := by decide +kernel
theorem d13_190 : decode q7 190 = .ok (.iload_n 3, 1) := by decide +kernel
theorem d13_191 : decode q7 191 = .ok (.iload 6, 2) := by decide +kernel
theorem d13_193 : decode q7 193 = .ok (.iastore, 1) := by decide +kernel
theorem d13_194 : decode q7 194 = .ok (.aload_n 0, 1) := by decide +kernel
theorem d13_195 : decode q7 195 = .ok (.getfield 61, 3) := by decide +kernel
theorem d13_198 : decode q7 198 = .ok (.iload_n 3, 1) := by decide +kernel
theorem d13_199 : decode q7 199 = .ok (.lload 7, 2) := by decide +kernel
theorem d13_201 : decode q7 201 = .ok (.lastore, 1) := by decide +kernel
theorem d13_202 : decode q7 202 = .ok (.return_, 1) := by decide +kernel
theorem ef_rmSum (m : MethodId) (x0 : Addr) (x1 : Int32) (x2 : Int32) : entryFrame m #[(.ref x0), (.int x1), (.int x2)] 11 = mkF m 0 #[vR x0, .val (.int x1), .val (.int x2), uu, uu, uu, uu, uu, uu, uu, uu] [] := by first | (simp [entryFrame, mkF, argsToLocals, Value.category]; done) | rfl
def QrmSum (Z : State) (a1 : Addr) (A : Nat → Addr) (N : Nat → Nat) (I : Nat → Nat → Int32) (J : Nat → Nat → Int64) (cc : Nat → Int32) (M : Nat → Option Addr) (B : Nat → Nat → Int32) (nb nd sl cd : Nat) (h0 : Heap) (n0 : Nat) (v : Option Value) (h : Heap) (L : List Loc) : Prop := v = none ∧ Fr n0 L ∧ KN n0 h0 h ∧ LT Z h n0 a1 A N (ui (ui I 8 (nd * 64 + sl) (0 : Int32)) 9 (nd * 64 + sl) (0 : Int32)) (ui J 19 (nd * 64 + sl) (0 : Int64)) cc M B
set_option maxRecDepth 65536 in
set_option maxHeartbeats 40000000 in
theorem rmSum (l : Launch) (Z : State) (a0 : Array Value) (hw : ∀ d ∈ tables_1, d.before a0 Z = true) (ws : List Jvm.Cond) (a1 : Addr) (A : Nat → Addr) (N : Nat → Nat) (I : Nat → Nat → Int32) (J : Nat → Nat → Int64) (cc : Nat → Int32) (M : Nat → Option Addr) (B : Nat → Nat → Int32) (nb nd sl cd : Nat) (h0 : Heap) (n0 : Nat) (Z0 : n0 ≤ h0.size) (L0 : LT Z h0 n0 a1 A N I J cc M B) (hS : SZ N nb) (hnd : nd < nb) (hnb : nb < 1000) (hsl : sl < 64) (Y12 : I 12 nd = (1 : Int32)) (hch : I 7 (nd * 64 + sl) = Int32.ofNat cd) (hc4 : cd < 4) (Y3 : I 3 cd = (0 : Int32)) :
    MetFree l (⟨"com/example/ebbtide/ebbtide/cluster/LoadTrees", "sum", "(II)V"⟩ : MethodName) (head1 (Jvm.Cond.code (⟨"com/example/ebbtide/ebbtide/cluster/LoadTrees", "sum", "(II)V"⟩ : MethodName) prog_74_method_18_code 11 none :: ws) ({ frames := 0, cells := 0, slots := 0, locals := 0 } : Room)) (fun a U => a = #[(.ref a1), (.int (Int32.ofNat (nd))), (.int (Int32.ofNat (sl)))] ∧ Z.Warmed39 U.vm ∧ U.heap = h0) (fun _ _ _ _ _ => True) (fun _ U o U' => ∃ v L, o = .returned v ∧ QrmSum Z a1 A N I J cc M B nb nd sl cd h0 n0 v U'.heap L ∧ FrameEnd U o U' L ({ frames := 0, cells := 0, slots := 0, locals := 0 } : Room).cells ({ frames := 0, cells := 0, slots := 0, locals := 0 } : Room).slots) := by
  refine MetFree.of_bodySF (plainFor_of_name pn_com_example_ebbtide_ebbtide_cluster_LoadTrees) hisR ?_
  intro p e s m args below meth c s₁ Bd hml0 hP hK
  obtain ⟨rfl, hZ, hh⟩ := hP
  have hx := Bd.exec
  have hby := Bd.bytes
  have hml : c.maxLocals = 11 := hml0
  have hown : s.vm.findClass "com/example/ebbtide/ebbtide/cluster/LoadTrees" = some m.cls := findClass_of_methodNamed Bd.named
  have hnm := (name_of_methodNamed Bd.named Bd.method).1
  have X0 : Stand p l e ({ frames := 0, cells := 0, slots := 0, locals := 0 } : Room) s m #[(.ref a1), (.int (Int32.ofNat (nd))), (.int (Int32.ofNat (sl)))] below meth c s₁ [] 0 0 := Stand.of_body Bd
  have e0 : s₁.heap = h0 := by rw [← hh, Bd.state]; rfl
  have N0 := Fr.nil n0
  have pre0 : ∀ t, Steps p.tables e below (s₁.setTop (mkF m 0 #[vR a1, vN (nd), vN (sl), uu, uu, uu, uu, uu, uu, uu, uu] [])) t → Steps p.tables e below (s₁.setTop (entryFrame m #[(.ref a1), (.int (Int32.ofNat (nd))), (.int (Int32.ofNat (sl)))] 11)) t := fun t k => castTop (ef_rmSum m a1 (Int32.ofNat (nd)) (Int32.ofNat (sl))) k
  obtain ⟨S0, S1, S2, S3, S4, S5, S6, S7, S8, S9, S10, S11, S12, S13, S14, S15, S16, S17, S18, S19, S20, S21, S22⟩ := hS
  obtain ⟨T1, X1, e1, st1⟩ := getF X0 hx hZ hown (host := "") (Or.inl (tw hw 50 rfl)) Via.refl e0 (L0.FI 7 (by decide) rfl) (g := (mkF m 8 #[vR a1, vN (nd), vN (sl), vN (nd * 64 + sl), uu, uu, uu, uu, uu, uu, uu] [(.ref a1)])) rfl rfl (hb hby d13_8)
  obtain ⟨T2, X2, e2, st2⟩ := getF X1 hx hZ hown (host := "") (Or.inl (tw hw 66 rfl)) Via.refl e1 (L0.FI 12 (by decide) rfl) (g := (mkF m 25 #[vR a1, vN (nd), vN (sl), vN (nd * 64 + sl), vN (cd), vI 0, vI 0, .val (.long (0 : Int64)), .second, uu, uu] [(.ref a1)])) rfl rfl (hb hby d13_25)
  obtain ⟨T3, X3, e3, st3⟩ := getF X2 hx hZ hown (host := "") (Or.inl (tw hw 38 rfl)) Via.refl e2 (L0.FI 3 (by decide) rfl) (g := (mkF m 35 #[vR a1, vN (nd), vN (sl), vN (nd * 64 + sl), vN (cd), vI 0, vI 0, .val (.long (0 : Int64)), .second, uu, uu] [(.ref a1)])) rfl rfl (hb hby d13_35)
  obtain ⟨T4, X4, e4, st4⟩ := getF X3 hx hZ hown (host := "") (Or.inl (tw hw 52 rfl)) Via.refl e3 (L0.FI 8 (by decide) rfl) (g := (mkF m 179 #[vR a1, vN (nd), vN (sl), vN (nd * 64 + sl), vN (cd), vI 0, vI 0, .val (.long (0 : Int64)), .second, vI 0, uu] [(.ref a1)])) rfl rfl (hb hby d13_179)
  obtain ⟨T5, h5, X5, e5, W5, st5⟩ := own_stIN X4 hx hZ e4 (L0.aI 8 (by decide)) (i := nd * 64 + sl) (by omega) (g := (mkF m 185 #[vR a1, vN (nd), vN (sl), vN (nd * 64 + sl), vN (cd), vI 0, vI 0, .val (.long (0 : Int64)), .second, vI 0, uu] [(.int (0 : Int32)), (.int (Int32.ofNat (nd * 64 + sl))), (.ref (A 8))])) rfl rfl (hb hby d13_185)
  have K5 : KN n0 h0 h5 := (KN.refl n0 h0).trans (KN.wr W5 (L0.gA 8 (by decide)))
  have N5 := Fr.snoc X5 N0 (L0.gA 8 (by decide))
  have Z5 : n0 ≤ h5.size := Nat.le_trans Z0 (Keep.of_wr W5).1
  have Lq5 := L0.wrI (k := 8) (by decide) W5
  obtain ⟨T6, X6, e6, st6⟩ := getF X5 hx hZ hown (host := "") (Or.inl (tw hw 54 rfl)) Via.refl e5 (Lq5.FI 9 (by decide) rfl) (g := (mkF m 187 #[vR a1, vN (nd), vN (sl), vN (nd * 64 + sl), vN (cd), vI 0, vI 0, .val (.long (0 : Int64)), .second, vI 0, uu] [(.ref a1)])) rfl rfl (hb hby d13_187)
  obtain ⟨T7, h7, X7, e7, W7, st7⟩ := own_stIN X6 hx hZ e6 (Lq5.aI 9 (by decide)) (i := nd * 64 + sl) (by omega) (g := (mkF m 193 #[vR a1, vN (nd), vN (sl), vN (nd * 64 + sl), vN (cd), vI 0, vI 0, .val (.long (0 : Int64)), .second, vI 0, uu] [(.int (0 : Int32)), (.int (Int32.ofNat (nd * 64 + sl))), (.ref (A 9))])) rfl rfl (hb hby d13_193)
  have K7 : KN n0 h0 h7 := K5.trans (KN.wr W7 (Lq5.gA 9 (by decide)))
  have N7 := Fr.snoc X7 N5 (Lq5.gA 9 (by decide))
  have Z7 : n0 ≤ h7.size := Nat.le_trans Z5 (Keep.of_wr W7).1
  have Lq7 := Lq5.wrI (k := 9) (by decide) W7
  obtain ⟨T8, X8, e8, st8⟩ := getF X7 hx hZ hown (host := "") (Or.inl (tw hw 56 rfl)) Via.refl e7 (Lq7.FJ 19 (by decide) (by decide) rfl) (g := (mkF m 195 #[vR a1, vN (nd), vN (sl), vN (nd * 64 + sl), vN (cd), vI 0, vI 0, .val (.long (0 : Int64)), .second, vI 0, uu] [(.ref a1)])) rfl rfl (hb hby d13_195)
  obtain ⟨T9, h9, X9, e9, W9, st9⟩ := own_stJN X8 hx hZ e8 (Lq7.aJ 19 (by decide) (by decide)) (i := nd * 64 + sl) (by omega) (g := (mkF m 201 #[vR a1, vN (nd), vN (sl), vN (nd * 64 + sl), vN (cd), vI 0, vI 0, .val (.long (0 : Int64)), .second, vI 0, uu] [(.long (0 : Int64)), (.int (Int32.ofNat (nd * 64 + sl))), (.ref (A 19))])) rfl rfl (hb hby d13_201)
  have K9 : KN n0 h0 h9 := K7.trans (KN.wr W9 (Lq7.gA 19 (by decide)))
  have N9 := Fr.snoc X9 N7 (Lq7.gA 19 (by decide))
  have Z9 : n0 ≤ h9.size := Nat.le_trans Z7 (Keep.of_wr W9).1
  have Lq9 := Lq7.wrJ (k := 19) (by decide) (by decide) W9
  obtain ⟨fs, hr, hrun, hended, hW, hsame⟩ := X9.leave (v := none) (fun _ => rfl)
  refine ⟨_, _, pre0 _ (?_), hrun, hended, _, _, rfl, ?_, ⟨_, rfl⟩, hW, hsame.mono (by decide) (by decide)⟩
  · show Steps p.tables e below (s₁.setTop (mkF m 0 #[vR a1, vN (nd), vN (sl), uu, uu, uu, uu, uu, uu, uu, uu] [])) _
    refine XS.iloadN X0.here hx rfl (hb hby d13_0) rfl ?_
    refine XS.bipush X0.here hx rfl (hb hby d13_1) ?_
    refine XS.imul X0.here hx rfl (hb hby d13_3) rfl ?_
    show Steps p.tables e below (s₁.setTop (mkF m 4 #[vR a1, vN (nd), vN (sl), uu, uu, uu, uu, uu, uu, uu, uu] [(.int ((Int32.ofNat (nd)) * (64 : Int32)))])) _
    rw [show (Int32.ofNat (nd)) * (64 : Int32) = Int32.ofNat (nd * 64) from own_nm (nd) (64)]
    show Steps p.tables e below (s₁.setTop (mkF m 4 #[vR a1, vN (nd), vN (sl), uu, uu, uu, uu, uu, uu, uu, uu] [(.int (Int32.ofNat (nd * 64)))])) _
    refine XS.iloadN X0.here hx rfl (hb hby d13_4) rfl ?_
    refine XS.iadd X0.here hx rfl (hb hby d13_5) rfl ?_
    show Steps p.tables e below (s₁.setTop (mkF m 6 #[vR a1, vN (nd), vN (sl), uu, uu, uu, uu, uu, uu, uu, uu] [(.int ((Int32.ofNat (nd * 64)) + (Int32.ofNat (sl))))])) _
    rw [show (Int32.ofNat (nd * 64)) + (Int32.ofNat (sl)) = Int32.ofNat (nd * 64 + sl) from own_na (nd * 64) (sl)]
    show Steps p.tables e below (s₁.setTop (mkF m 6 #[vR a1, vN (nd), vN (sl), uu, uu, uu, uu, uu, uu, uu, uu] [(.int (Int32.ofNat (nd * 64 + sl)))])) _
    refine XS.istoreN X0.here hx rfl (hb hby d13_6) rfl (l' := #[vR a1, vN (nd), vN (sl), vN (nd * 64 + sl), uu, uu, uu, uu, uu, uu, uu]) rfl ?_
    refine XS.aloadN X0.here hx rfl (hb hby d13_7) rfl rfl ?_
    refine st1 _ ?_
    refine XS.iloadN X1.here hx rfl (hb hby d13_11) rfl ?_
    refine own_ldIN X1 hx hZ e1 (L0.aI 7 (by decide)) (i := nd * 64 + sl) (x := (Int32.ofNat (cd))) (by omega) (congrArg Value.int (show (I 7 (nd * 64 + sl)) = (Int32.ofNat (cd)) from hch)) (g := (mkF m 12 #[vR a1, vN (nd), vN (sl), vN (nd * 64 + sl), uu, uu, uu, uu, uu, uu, uu] [(.int (Int32.ofNat (nd * 64 + sl))), (.ref (A 7))])) rfl rfl (hb hby d13_12) _ ?_
    refine XS.istore X1.here hx rfl (hb hby d13_13) rfl (l' := #[vR a1, vN (nd), vN (sl), vN (nd * 64 + sl), vN (cd), uu, uu, uu, uu, uu, uu]) rfl ?_
    refine XS.iconst X1.here hx rfl (hb hby d13_15) ?_
    refine XS.istore X1.here hx rfl (hb hby d13_16) rfl (l' := #[vR a1, vN (nd), vN (sl), vN (nd * 64 + sl), vN (cd), vI 0, uu, uu, uu, uu, uu]) rfl ?_
    refine XS.iconst X1.here hx rfl (hb hby d13_18) ?_
    refine XS.istore X1.here hx rfl (hb hby d13_19) rfl (l' := #[vR a1, vN (nd), vN (sl), vN (nd * 64 + sl), vN (cd), vI 0, vI 0, uu, uu, uu, uu]) rfl ?_
    refine XS.lconst X1.here hx rfl (hb hby d13_21) ?_
    refine XS.lstore X1.here hx rfl (hb hby d13_22) rfl (l' := #[vR a1, vN (nd), vN (sl), vN (nd * 64 + sl), vN (cd), vI 0, vI 0, .val (.long (0 : Int64)), .second, uu, uu]) rfl ?_
    show Steps p.tables e below (T1.setTop (mkF m 24 #[vR a1, vN (nd), vN (sl), vN (nd * 64 + sl), vN (cd), vI 0, vI 0, .val (.long (0 : Int64)), .second, uu, uu] [])) _
    refine XS.aloadN X1.here hx rfl (hb hby d13_24) rfl rfl ?_
    refine st2 _ ?_
    refine XS.iloadN X2.here hx rfl (hb hby d13_28) rfl ?_
    refine own_ldIN X2 hx hZ e2 (L0.aI 12 (by decide)) (i := nd) (x := (1 : Int32)) (by omega) (congrArg Value.int (show (I 12 (nd)) = (1 : Int32) from Y12)) (g := (mkF m 29 #[vR a1, vN (nd), vN (sl), vN (nd * 64 + sl), vN (cd), vI 0, vI 0, .val (.long (0 : Int64)), .second, uu, uu] [(.int (Int32.ofNat (nd))), (.ref (A 12))])) rfl rfl (hb hby d13_29) _ ?_
    refine XS.iconst X2.here hx rfl (hb hby d13_30) ?_
    refine XS.icmpNo X2.here hx rfl (hb hby d13_31) rfl (teq (by decide : (1 : Int32) = (1 : Int32))).2 ?_
    refine XS.aloadN X2.here hx rfl (hb hby d13_34) rfl rfl ?_
    refine st3 _ ?_
    refine XS.iload X3.here hx rfl (hb hby d13_38) rfl ?_
    refine own_ldIN X3 hx hZ e3 (L0.aI 3 (by decide)) (i := cd) (x := (0 : Int32)) (by omega) (congrArg Value.int (show (I 3 (cd)) = (0 : Int32) from Y3)) (g := (mkF m 40 #[vR a1, vN (nd), vN (sl), vN (nd * 64 + sl), vN (cd), vI 0, vI 0, .val (.long (0 : Int64)), .second, uu, uu] [(.int (Int32.ofNat (cd))), (.ref (A 3))])) rfl rfl (hb hby d13_40) _ ?_
    refine XS.istore X3.here hx rfl (hb hby d13_41) rfl (l' := #[vR a1, vN (nd), vN (sl), vN (nd * 64 + sl), vN (cd), vI 0, vI 0, .val (.long (0 : Int64)), .second, uu, uu]) rfl ?_
    refine XS.iconst X3.here hx rfl (hb hby d13_43) ?_
    show Steps p.tables e below (T3.setTop (mkF m 44 #[vR a1, vN (nd), vN (sl), vN (nd * 64 + sl), vN (cd), vI 0, vI 0, .val (.long (0 : Int64)), .second, uu, uu] [(.int (0 : Int32))])) _
    refine XS.istore X3.here hx rfl (hb hby d13_44) rfl (l' := #[vR a1, vN (nd), vN (sl), vN (nd * 64 + sl), vN (cd), vI 0, vI 0, .val (.long (0 : Int64)), .second, vI 0, uu]) rfl ?_
    refine XS.iload X3.here hx rfl (hb hby d13_46) rfl ?_
    refine XS.iload X3.here hx rfl (hb hby d13_48) rfl ?_
    refine XS.icmpYes X3.here hx rfl (pc0 := 50) (pc' := 103) rfl (hb hby d13_50) rfl (flt (by decide : ¬ ((0 : Int32) < (0 : Int32)))).2.1 (by decide) (by decide) ?_
    refine XS.goto X3.here hx rfl (pc0 := 103) (pc' := 178) rfl (hb hby d13_103) (by decide) (by decide) ?_
    refine XS.aloadN X3.here hx rfl (hb hby d13_178) rfl rfl ?_
    refine st4 _ ?_
    refine XS.iloadN X4.here hx rfl (hb hby d13_182) rfl ?_
    refine XS.iload X4.here hx rfl (hb hby d13_183) rfl ?_
    refine st5 _ ?_
    refine XS.aloadN X5.here hx rfl (hb hby d13_186) rfl rfl ?_
    refine st6 _ ?_
    show Steps p.tables e below (T6.setTop (mkF m 190 #[vR a1, vN (nd), vN (sl), vN (nd * 64 + sl), vN (cd), vI 0, vI 0, .val (.long (0 : Int64)), .second, vI 0, uu] [(.ref (A 9))])) _
    refine XS.iloadN X6.here hx rfl (hb hby d13_190) rfl ?_
    refine XS.iload X6.here hx rfl (hb hby d13_191) rfl ?_
    refine st7 _ ?_
    refine XS.aloadN X7.here hx rfl (hb hby d13_194) rfl rfl ?_
    refine st8 _ ?_
    refine XS.iloadN X8.here hx rfl (hb hby d13_198) rfl ?_
    refine XS.lload X8.here hx rfl (hb hby d13_199) rfl ?_
    refine st9 _ ?_
    show Steps p.tables e below (T9.setTop (mkF m 202 #[vR a1, vN (nd), vN (sl), vN (nd * 64 + sl), vN (cd), vI 0, vI 0, .val (.long (0 : Int64)), .second, vI 0, uu] [])) _
    exact X9.returnOut hx Bd.returns (hb hby d13_202) hr
  · show QrmSum Z a1 A N I J cc M B nb nd sl cd h0 n0 _ T9.heap _
    rw [e9]
    exact ⟨rfl, N9, K9, Lq9⟩
def sins {α : Type} (f : Nat → α) (sl : Nat) (x : α) : Nat → α := fun i => if i < sl then f i else if i = sl then x else f (i - 1)
theorem own_sins {α : Type} (f : Nat → α) (b sl n : Nat) (x : α) (i : Nat) (hi : i ≤ n) (hs : sl ≤ n) : u1 (cpy f (b + sl) (b + sl + 1) (n - sl)) (b + sl) x (b + i) = sins (fun i => f (b + i)) sl x i := by
  unfold u1 cpy sins
  by_cases Y1 : i < sl
  · rw [if_pos Y1, if_neg (by omega), if_neg (by omega)]
  · rw [if_neg Y1]
    by_cases Y2 : i = sl
    · rw [if_pos Y2, if_pos (by omega)]
    · rw [if_neg Y2, if_neg (by omega), if_pos (by omega)]
      congr 1; omega
theorem own_sout {α : Type} (f : Nat → α) (b sl n : Nat) (x : α) (j : Nat) (hj : j < b + sl ∨ b + n < j) (hs : sl ≤ n) : u1 (cpy f (b + sl) (b + sl + 1) (n - sl)) (b + sl) x j = f j := by
  unfold u1 cpy
  rw [if_neg (by omega), if_neg (by omega)]
def adI (I : Nat → Nat → Int32) (nd sl n cd : Nat) (sv : Int32) (P S : Nat → Int32) : Nat → Nat → Int32 := (ui (ui (u1 (u1 (ui (ui (ui (mvI I (nd * 64 + sl) (nd * 64 + sl + 1) (n - sl)) 11 (nd) (Int32.ofNat (n + 1))) 7 (nd * 64 + sl) (Int32.ofNat (cd))) 10 (nd * 64 + sl) sv) 4 P) 5 S) 8 (nd * 64 + sl) (0 : Int32)) 9 (nd * 64 + sl) (0 : Int32))
def adJ (J : Nat → Nat → Int64) (nd sl n : Nat) (kh kl : Int64) : Nat → Nat → Int64 := (ui (ui (ui (mvJ J (nd * 64 + sl) (nd * 64 + sl + 1) (n - sl)) 20 (nd * 64 + sl) kh) 21 (nd * 64 + sl) kl) 19 (nd * 64 + sl) (0 : Int64))
theorem d10_0 : decode q8 0 = .ok (.aload_n 0, 1) := by decide +kernel
theorem d10_1 : decode q8 1 = .ok (.getfield 73, 3) := by decide +kernel
theorem d10_4 : decode q8 4 = .ok (.iload_n 1, 1) := by decide +kernel
theorem d10_5 : decode q8 5 = .ok (.iaload, 1) := by decide +kernel
theorem d10_6 : decode q8 6 = .ok (.bipush 64, 2) := by decide +kernel
theorem d10_8 : decode q8 8 = .ok (.if_icmp .ne 32, 3) := by decide +kernel
theorem d10_40 : decode q8 40 = .ok (.iload_n 1, 1) := by decide +kernel
theorem d10_41 : decode q8 41 = .ok (.bipush 64, 2) := by decide +kernel
theorem d10_43 : decode q8 43 = .ok (.imul, 1) := by decide +kernel
theorem d10_44 : decode q8 44 = .ok (.istore 9, 2) := by decide +kernel
theorem d10_46 : decode q8 46 = .ok (.aload_n 0, 1) := by decide +kernel
theorem d10_47 : decode q8 47 = .ok (.iload 9, 2) := by decide +kernel
theorem d10_49 : decode q8 49 = .ok (.iload_n 2, 1) := by decide +kernel
theorem d10_50 : decode q8 50 = .ok (.iadd, 1) := by decide +kernel
theorem d10_51 : decode q8 51 = .ok (.iload 9, 2) := by decide +kernel
theorem d10_53 : decode q8 53 = .ok (.iload_n 2, 1) := by decide +kernel
theorem d10_54 : decode q8 54 = .ok (.iadd, 1) := by decide +kernel
theorem d10_55 : decode q8 55 = .ok (.iconst 1, 1) := by decide +kernel
theorem d10_56 : decode q8 56 = .ok (.iadd, 1) := by decide +kernel
theorem d10_57 : decode q8 57 = .ok (.aload_n 0, 1) := by decide +kernel
theorem d10_58 : decode q8 58 = .ok (.getfield 73, 3) := by decide +kernel
theorem d10_61 : decode q8 61 = .ok (.iload_n 1, 1) := by decide +kernel
theorem d10_62 : decode q8 62 = .ok (.iaload, 1) := by decide +kernel
theorem d10_63 : decode q8 63 = .ok (.iload_n 2, 1) := by decide +kernel
theorem d10_64 : decode q8 64 = .ok (.isub, 1) := by decide +kernel
theorem d10_65 : decode q8 65 = .ok (.invokevirtual 176, 3) := by decide +kernel
theorem d10_68 : decode q8 68 = .ok (.aload_n 0, 1) := by decide +kernel
theorem d10_69 : decode q8 69 = .ok (.getfield 73, 3) := by decide +kernel
theorem d10_72 : decode q8 72 = .ok (.iload_n 1, 1) := by decide +kernel
theorem d10_73 : decode q8 73 = .ok (.dup2, 1) := by decide +kernel
theorem d10_74 : decode q8 74 = .ok (.iaload, 1) := by decide +kernel
theorem d10_75 : decode q8 75 = .ok (.iconst 1, 1) := by decide +kernel
theorem d10_76 : decode q8 76 = .ok (.iadd, 1) := by decide +kernel
theorem d10_77 : decode q8 77 = .ok (.iastore, 1) := by decide +kernel
theorem d10_78 : decode q8 78 = .ok (.aload_n 0, 1) := by decide +kernel
theorem d10_79 : decode q8 79 = .ok (.getfield 52, 3) := by decide +kernel
theorem d10_82 : decode q8 82 = .ok (.iload 9, 2) := by decide +kernel
theorem d10_84 : decode q8 84 = .ok (.iload_n 2, 1) := by decide +kernel
theorem d10_85 : decode q8 85 = .ok (.iadd, 1) := by decide +kernel
theorem d10_86 : decode q8 86 = .ok (.iload_n 3, 1) := by decide +kernel
theorem d10_87 : decode q8 87 = .ok (.iastore, 1) := by decide +kernel
theorem d10_88 : decode q8 88 = .ok (.aload_n 0, 1) := by decide +kernel
theorem d10_89 : decode q8 89 = .ok (.getfield 64, 3) := by decide +kernel
theorem d10_92 : decode q8 92 = .ok (.iload 9, 2) := by decide +kernel
theorem d10_94 : decode q8 94 = .ok (.iload_n 2, 1) := by decide +kernel
theorem d10_95 : decode q8 95 = .ok (.iadd, 1) := by decide +kernel
theorem d10_96 : decode q8 96 = .ok (.lload 4, 2) := by decide +kernel
theorem d10_98 : decode q8 98 = .ok (.lastore, 1) := by decide +kernel
theorem d10_99 : decode q8 99 = .ok (.aload_n 0, 1) := by decide +kernel
theorem d10_100 : decode q8 100 = .ok (.getfield 67, 3) := by decide +kernel
theorem d10_103 : decode q8 103 = .ok (.iload 9, 2) := by decide +kernel
theorem d10_105 : decode q8 105 = .ok (.iload_n 2, 1) := by decide +kernel
theorem d10_106 : decode q8 106 = .ok (.iadd, 1) := by decide +kernel
theorem d10_107 : decode q8 107 = .ok (.lload 6, 2) := by decide +kernel
theorem d10_109 : decode q8 109 = .ok (.lastore, 1) := by decide +kernel
theorem d10_110 : decode q8 110 = .ok (.aload_n 0, 1) := by decide +kernel
theorem d10_111 : decode q8 111 = .ok (.getfield 70, 3) := by decide +kernel
theorem d10_114 : decode q8 114 = .ok (.iload 9, 2) := by decide +kernel
theorem d10_116 : decode q8 116 = .ok (.iload_n 2, 1) := by decide +kernel
theorem d10_117 : decode q8 117 = .ok (.iadd, 1) := by decide +kernel
theorem d10_118 : decode q8 118 = .ok (.iload 8, 2) := by decide +kernel
theorem d10_120 : decode q8 120 = .ok (.iastore, 1) := by decide +kernel
theorem d10_121 : decode q8 121 = .ok (.aload_n 0, 1) := by decide +kernel
theorem d10_122 : decode q8 122 = .ok (.iload_n 1, 1) := by decide +kernel
theorem d10_123 : decode q8 123 = .ok (.iload_n 2, 1) := by decide +kernel
theorem d10_124 : decode q8 124 = .ok (.invokevirtual 180, 3) := by decide +kernel
theorem d10_127 : decode q8 127 = .ok (.aload_n 0, 1) := by decide +kernel
theorem d10_128 : decode q8 128 = .ok (.iload_n 1, 1) := by decide +kernel
theorem d10_129 : decode q8 129 = .ok (.iload_n 2, 1) := by decide +kernel
theorem d10_130 : decode q8 130 = .ok (.invokevirtual 183, 3) := by decide +kernel
theorem d10_133 : decode q8 133 = .ok (.return_, 1) := by decide +kernel
theorem pd__28III_29V : parseMethodDescriptor "(III)V" = some ⟨[.int, .int, .int], none⟩ := by decide +kernel
theorem pd__28II_29V : parseMethodDescriptor "(II)V" = some ⟨[.int, .int], none⟩ := by decide +kernel
theorem ef_rmAS (m : MethodId) (x0 : Addr) (x1 : Int32) (x2 : Int32) (x3 : Int32) (x4 : Int64) (x5 : Int64) (x6 : Int32) : entryFrame m #[(.ref x0), (.int x1), (.int x2), (.int x3), (.long x4), (.long x5), (.int x6)] 10 = mkF m 0 #[vR x0, .val (.int x1), .val (.int x2), .val (.int x3), vJ x4, .second, vJ x5, .second, .val (.int x6), uu] [] := by first | (simp [entryFrame, mkF, argsToLocals, Value.category]; done) | rfl
def QrmAS (Z : State) (a1 : Addr) (A : Nat → Addr) (N : Nat → Nat) (I : Nat → Nat → Int32) (J : Nat → Nat → Int64) (cc : Nat → Int32) (M : Nat → Option Addr) (B : Nat → Nat → Int32) (nb nd sl cd n : Nat) (kh kl : Int64) (sv : Int32) (ch : Nat → Nat) (h0 : Heap) (n0 : Nat) (v : Option Value) (h : Heap) (L : List Loc) : Prop := ∃ P S, v = none ∧ Fr n0 L ∧ KN n0 h0 h ∧ LT Z h n0 a1 A N (adI I nd sl n cd sv P S) (adJ J nd sl n kh kl) cc M B ∧ (∀ i, sl ≤ i → i < n + 1 → P (sins ch sl cd i) = Int32.ofNat nd ∧ S (sins ch sl cd i) = Int32.ofNat i) ∧ (∀ x, (∀ i, sl ≤ i → i < n + 1 → x ≠ sins ch sl cd i) → P x = I 4 x ∧ S x = I 5 x)
set_option maxRecDepth 65536 in
set_option maxHeartbeats 40000000 in
theorem rmAS (l : Launch) (Z : State) (a0 : Array Value) (hw : ∀ d ∈ tables_1, d.before a0 Z = true) (ws : List Jvm.Cond) (a1 : Addr) (A : Nat → Addr) (N : Nat → Nat) (I : Nat → Nat → Int32) (J : Nat → Nat → Int64) (cc : Nat → Int32) (M : Nat → Option Addr) (B : Nat → Nat → Int32) (nb nd sl cd n : Nat) (kh kl : Int64) (sv : Int32) (ch : Nat → Nat) (h0 : Heap) (n0 : Nat) (Z0 : n0 ≤ h0.size) (L0 : LT Z h0 n0 a1 A N I J cc M B) (hS : SZ N nb) (hnd : nd < nb) (hnb : nb < 1000) (Y11 : I 11 nd = Int32.ofNat n) (hn : n < 60) (hsl : sl ≤ n) (Y12 : I 12 nd = (1 : Int32)) (hc4 : cd < 4) (Y3 : I 3 cd = (0 : Int32)) (hch : ∀ i, i < n → I 7 (nd * 64 + i) = Int32.ofNat (ch i) ∧ ch i < 4 ∧ ch i ≠ cd) (hin : ∀ i i', i < n → i' < n → ch i = ch i' → i = i') :
    MetFree l (⟨"com/example/ebbtide/ebbtide/cluster/LoadTrees", "addSlot", "(IIIJJI)V"⟩ : MethodName) (head1 (Jvm.Cond.code (⟨"com/example/ebbtide/ebbtide/cluster/LoadTrees", "addSlot", "(IIIJJI)V"⟩ : MethodName) prog_74_method_19_code 10 none :: ws) ({ frames := 2, cells := 0, slots := 0, locals := 33 } : Room)) (fun a U => a = #[(.ref a1), (.int (Int32.ofNat (nd))), (.int (Int32.ofNat (sl))), (.int (Int32.ofNat (cd))), (.long kh), (.long kl), (.int sv)] ∧ Z.Warmed39 U.vm ∧ U.heap = h0) (fun _ _ _ _ _ => True) (fun _ U o U' => ∃ v L, o = .returned v ∧ QrmAS Z a1 A N I J cc M B nb nd sl cd n kh kl sv ch h0 n0 v U'.heap L ∧ FrameEnd U o U' L ({ frames := 2, cells := 0, slots := 0, locals := 33 } : Room).cells ({ frames := 2, cells := 0, slots := 0, locals := 33 } : Room).slots) := by
  refine MetFree.of_bodySF (plainFor_of_name pn_com_example_ebbtide_ebbtide_cluster_LoadTrees) hisR ?_
  intro p e s m args below meth c s₁ Bd hml0 hP hK
  obtain ⟨rfl, hZ, hh⟩ := hP
  have hx := Bd.exec
  have hby := Bd.bytes
  have hml : c.maxLocals = 10 := hml0
  have hown : s.vm.findClass "com/example/ebbtide/ebbtide/cluster/LoadTrees" = some m.cls := findClass_of_methodNamed Bd.named
  have hnm := (name_of_methodNamed Bd.named Bd.method).1
  have X0 : Stand p l e ({ frames := 2, cells := 0, slots := 0, locals := 33 } : Room) s m #[(.ref a1), (.int (Int32.ofNat (nd))), (.int (Int32.ofNat (sl))), (.int (Int32.ofNat (cd))), (.long kh), (.long kl), (.int sv)] below meth c s₁ [] 0 0 := Stand.of_body Bd
  have e0 : s₁.heap = h0 := by rw [← hh, Bd.state]; rfl
  have N0 := Fr.nil n0
  have pre0 : ∀ t, Steps p.tables e below (s₁.setTop (mkF m 0 #[vR a1, vN (nd), vN (sl), vN (cd), vJ kh, .second, vJ kl, .second, .val (.int sv), uu] [])) t → Steps p.tables e below (s₁.setTop (entryFrame m #[(.ref a1), (.int (Int32.ofNat (nd))), (.int (Int32.ofNat (sl))), (.int (Int32.ofNat (cd))), (.long kh), (.long kl), (.int sv)] 10)) t := fun t k => castTop (ef_rmAS m a1 (Int32.ofNat (nd)) (Int32.ofNat (sl)) (Int32.ofNat (cd)) kh kl sv) k
  have hS0 := hS
  obtain ⟨S0, S1, S2, S3, S4, S5, S6, S7, S8, S9, S10, S11, S12, S13, S14, S15, S16, S17, S18, S19, S20, S21, S22⟩ := hS0
  obtain ⟨T1, X1, e1, st1⟩ := getF X0 hx hZ hown (host := "") (Or.inl (tw hw 64 rfl)) Via.refl e0 (L0.FI 11 (by decide) rfl) (g := (mkF m 1 #[vR a1, vN (nd), vN (sl), vN (cd), vJ kh, .second, vJ kl, .second, .val (.int sv), uu] [(.ref a1)])) rfl rfl (hb hby d10_1)
  obtain ⟨T2, X2, e2, st2⟩ := getF X1 hx hZ hown (host := "") (Or.inl (tw hw 64 rfl)) Via.refl e1 (L0.FI 11 (by decide) rfl) (g := (mkF m 58 #[vR a1, vN (nd), vN (sl), vN (cd), vJ kh, .second, vJ kl, .second, .val (.int sv), vN (nd * 64)] [(.ref a1), (.int (Int32.ofNat (nd * 64 + sl + 1))), (.int (Int32.ofNat (nd * 64 + sl))), (.ref a1)])) rfl rfl (hb hby d10_58)
  obtain ⟨cq3, q3, q3'⟩ := L0.E.cell
  obtain ⟨_, _, ⟨T3, L3, k3, n3⟩, -, X3, ⟨Lc3, hQ3, l3, y3, z3⟩, st3⟩ := X2.privateBack hx (y := (⟨"com/example/ebbtide/ebbtide/cluster/LoadTrees", "moveSlots", "(III)V"⟩ : MethodName)) hown (mvT hZ (tw hw 100 rfl)) (mvT hZ (tw hw 101 rfl)) (mvT hZ (own_selP hw (tw hw 101 rfl) (tw hw 102 rfl))) (Cond.privateMethod_at (mvP hZ (tw hw 102 rfl) (args := #[]))) (mvT hZ (tw hw 103 rfl)) (by decide) (backOf (W := 0) (rmMS l Z a0 hw [] a1 A N I J cc M B nb (nd * 64 + sl) (nd * 64 + sl + 1) (n - sl) h0 n0 Z0 L0 hS (by omega) (by omega)) hZ (tw hw 103 rfl) (tw hw 14 rfl) (by decide) (by decide)) (g := (mkF m 65 #[vR a1, vN (nd), vN (sl), vN (cd), vJ kh, .second, vJ kl, .second, .val (.int sv), vN (nd * 64)] [(.int (Int32.ofNat (n - sl))), (.int (Int32.ofNat (nd * 64 + sl + 1))), (.int (Int32.ofNat (nd * 64 + sl))), (.ref a1)])) rfl (by rw [hml]; rfl) (Steps.refl _) (a := a1) (by rw [e2]; exact q3) q3' (argsL := [(.int (Int32.ofNat (nd * 64 + sl))), (.int (Int32.ofNat (nd * 64 + sl + 1))), (.int (Int32.ofNat (n - sl)))]) (rest := []) (lenOf pd__28III_29V rfl) rfl (by show 2 * 0 + _ ≤ _; exact Nat.le_of_eq rfl) (hb hby d10_65) (fun _ _ => ⟨rfl, e2, (by decide : 0 + 0 ≤ _), (by decide : 0 + 0 ≤ _)⟩)
  dsimp only [Pt.U, Pt.locs, Pt.cells, Pt.slots] at X3 l3 y3 z3 st3 hQ3
  subst l3 y3 z3
  obtain ⟨h3, e3⟩ : ∃ h', T3.heap = h' := ⟨_, rfl⟩
  rw [e3] at hQ3
  obtain ⟨rfl, N3q, K3q, Lq3⟩ := hQ3
  have K3 : KN n0 h0 h3 := (KN.refl n0 h0).trans K3q
  have Z3 : n0 ≤ h3.size := Nat.le_trans Z0 K3q.1
  have N3 := Fr.app N0 N3q
  obtain ⟨T4, X4, e4, st4⟩ := getF X3 hx hZ hown (host := "") (Or.inl (tw hw 64 rfl)) Via.refl e3 (Lq3.FI 11 (by decide) rfl) (g := (mkF m 69 #[vR a1, vN (nd), vN (sl), vN (cd), vJ kh, .second, vJ kl, .second, .val (.int sv), vN (nd * 64)] [(.ref a1)])) rfl rfl (hb hby d10_69)
  obtain ⟨T5, h5, X5, e5, W5, st5⟩ := own_stIN X4 hx hZ e4 (Lq3.aI 11 (by decide)) (i := nd) (by omega) (g := (mkF m 77 #[vR a1, vN (nd), vN (sl), vN (cd), vJ kh, .second, vJ kl, .second, .val (.int sv), vN (nd * 64)] [(.int (Int32.ofNat (n + 1))), (.int (Int32.ofNat (nd))), (.ref (A 11))])) rfl rfl (hb hby d10_77)
  have K5 : KN n0 h0 h5 := K3.trans (KN.wr W5 (Lq3.gA 11 (by decide)))
  have N5 := Fr.snoc X5 N3 (Lq3.gA 11 (by decide))
  have Z5 : n0 ≤ h5.size := Nat.le_trans Z3 (Keep.of_wr W5).1
  have Lq5 := Lq3.wrI (k := 11) (by decide) W5
  obtain ⟨T6, X6, e6, st6⟩ := getF X5 hx hZ hown (host := "") (Or.inl (tw hw 50 rfl)) Via.refl e5 (Lq5.FI 7 (by decide) rfl) (g := (mkF m 79 #[vR a1, vN (nd), vN (sl), vN (cd), vJ kh, .second, vJ kl, .second, .val (.int sv), vN (nd * 64)] [(.ref a1)])) rfl rfl (hb hby d10_79)
  obtain ⟨T7, h7, X7, e7, W7, st7⟩ := own_stIN X6 hx hZ e6 (Lq5.aI 7 (by decide)) (i := nd * 64 + sl) (by omega) (g := (mkF m 87 #[vR a1, vN (nd), vN (sl), vN (cd), vJ kh, .second, vJ kl, .second, .val (.int sv), vN (nd * 64)] [(.int (Int32.ofNat (cd))), (.int (Int32.ofNat (nd * 64 + sl))), (.ref (A 7))])) rfl rfl (hb hby d10_87)
  have K7 : KN n0 h0 h7 := K5.trans (KN.wr W7 (Lq5.gA 7 (by decide)))
  have N7 := Fr.snoc X7 N5 (Lq5.gA 7 (by decide))
  have Z7 : n0 ≤ h7.size := Nat.le_trans Z5 (Keep.of_wr W7).1
  have Lq7 := Lq5.wrI (k := 7) (by decide) W7
  obtain ⟨T8, X8, e8, st8⟩ := getF X7 hx hZ hown (host := "") (Or.inl (tw hw 58 rfl)) Via.refl e7 (Lq7.FJ 20 (by decide) (by decide) rfl) (g := (mkF m 89 #[vR a1, vN (nd), vN (sl), vN (cd), vJ kh, .second, vJ kl, .second, .val (.int sv), vN (nd * 64)] [(.ref a1)])) rfl rfl (hb hby d10_89)
  obtain ⟨T9, h9, X9, e9, W9, st9⟩ := own_stJN X8 hx hZ e8 (Lq7.aJ 20 (by decide) (by decide)) (i := nd * 64 + sl) (by omega) (g := (mkF m 98 #[vR a1, vN (nd), vN (sl), vN (cd), vJ kh, .second, vJ kl, .second, .val (.int sv), vN (nd * 64)] [(.long kh), (.int (Int32.ofNat (nd * 64 + sl))), (.ref (A 20))])) rfl rfl (hb hby d10_98)
  have K9 : KN n0 h0 h9 := K7.trans (KN.wr W9 (Lq7.gA 20 (by decide)))
  have N9 := Fr.snoc X9 N7 (Lq7.gA 20 (by decide))
  have Z9 : n0 ≤ h9.size := Nat.le_trans Z7 (Keep.of_wr W9).1
  have Lq9 := Lq7.wrJ (k := 20) (by decide) (by decide) W9
  obtain ⟨T10, X10, e10, st10⟩ := getF X9 hx hZ hown (host := "") (Or.inl (tw hw 60 rfl)) Via.refl e9 (Lq9.FJ 21 (by decide) (by decide) rfl) (g := (mkF m 100 #[vR a1, vN (nd), vN (sl), vN (cd), vJ kh, .second, vJ kl, .second, .val (.int sv), vN (nd * 64)] [(.ref a1)])) rfl rfl (hb hby d10_100)
  obtain ⟨T11, h11, X11, e11, W11, st11⟩ := own_stJN X10 hx hZ e10 (Lq9.aJ 21 (by decide) (by decide)) (i := nd * 64 + sl) (by omega) (g := (mkF m 109 #[vR a1, vN (nd), vN (sl), vN (cd), vJ kh, .second, vJ kl, .second, .val (.int sv), vN (nd * 64)] [(.long kl), (.int (Int32.ofNat (nd * 64 + sl))), (.ref (A 21))])) rfl rfl (hb hby d10_109)
  have K11 : KN n0 h0 h11 := K9.trans (KN.wr W11 (Lq9.gA 21 (by decide)))
  have N11 := Fr.snoc X11 N9 (Lq9.gA 21 (by decide))
  have Z11 : n0 ≤ h11.size := Nat.le_trans Z9 (Keep.of_wr W11).1
  have Lq11 := Lq9.wrJ (k := 21) (by decide) (by decide) W11
  obtain ⟨T12, X12, e12, st12⟩ := getF X11 hx hZ hown (host := "") (Or.inl (tw hw 62 rfl)) Via.refl e11 (Lq11.FI 10 (by decide) rfl) (g := (mkF m 111 #[vR a1, vN (nd), vN (sl), vN (cd), vJ kh, .second, vJ kl, .second, .val (.int sv), vN (nd * 64)] [(.ref a1)])) rfl rfl (hb hby d10_111)
  obtain ⟨T13, h13, X13, e13, W13, st13⟩ := own_stIN X12 hx hZ e12 (Lq11.aI 10 (by decide)) (i := nd * 64 + sl) (by omega) (g := (mkF m 120 #[vR a1, vN (nd), vN (sl), vN (cd), vJ kh, .second, vJ kl, .second, .val (.int sv), vN (nd * 64)] [(.int sv), (.int (Int32.ofNat (nd * 64 + sl))), (.ref (A 10))])) rfl rfl (hb hby d10_120)
  have K13 : KN n0 h0 h13 := K11.trans (KN.wr W13 (Lq11.gA 10 (by decide)))
  have N13 := Fr.snoc X13 N11 (Lq11.gA 10 (by decide))
  have Z13 : n0 ≤ h13.size := Nat.le_trans Z11 (Keep.of_wr W13).1
  have Lq13 := Lq11.wrI (k := 10) (by decide) W13
  have h11b : (ui (ui (ui (mvI I (nd * 64 + sl) (nd * 64 + sl + 1) (n - sl)) 11 (nd) (Int32.ofNat (n + 1))) 7 (nd * 64 + sl) (Int32.ofNat (cd))) 10 (nd * 64 + sl) sv) 11 nd = Int32.ofNat (n + 1) := if_pos rfl
  have hchb : ∀ i, sl ≤ i → i < n + 1 → (ui (ui (ui (mvI I (nd * 64 + sl) (nd * 64 + sl + 1) (n - sl)) 11 (nd) (Int32.ofNat (n + 1))) 7 (nd * 64 + sl) (Int32.ofNat (cd))) 10 (nd * 64 + sl) sv) 7 (nd * 64 + i) = Int32.ofNat (sins ch sl cd i) ∧ sins ch sl cd i < 4 := by
    intro i u w
    have e := own_sins (I 7) (nd * 64) sl n (Int32.ofNat cd) i (by omega) hsl
    refine ⟨Eq.trans e ?_, ?_⟩
    · unfold sins
      simp only [if_neg (show ¬ i < sl by omega)]
      by_cases q : i = sl
      · simp only [if_pos q]
      · simp only [if_neg q]; exact (hch (i - 1) (by omega)).1
    · unfold sins
      rw [if_neg (by omega)]
      by_cases q : i = sl
      · rw [if_pos q]; exact hc4
      · rw [if_neg q]; exact (hch (i - 1) (by omega)).2.1
  have hinb : ∀ i i', sl ≤ i → i < n + 1 → sl ≤ i' → i' < n + 1 → sins ch sl cd i = sins ch sl cd i' → i = i' := by
    intro i i' u w u' w' q
    unfold sins at q
    rw [if_neg (show ¬ i < sl by omega), if_neg (show ¬ i' < sl by omega)] at q
    by_cases r : i = sl
    · rw [if_pos r] at q
      by_cases r' : i' = sl
      · omega
      · rw [if_neg r'] at q; exact absurd q.symm (hch (i' - 1) (by omega)).2.2
    · rw [if_neg r] at q
      by_cases r' : i' = sl
      · rw [if_pos r'] at q; exact absurd q (hch (i - 1) (by omega)).2.2
      · rw [if_neg r'] at q; have := hin (i - 1) (i' - 1) (by omega) (by omega) q; omega
  obtain ⟨cq14, q14, q14'⟩ := Lq13.E.cell
  obtain ⟨_, _, ⟨T14, L14, k14, n14⟩, -, X14, ⟨Lc14, hQ14, l14, y14, z14⟩, st14⟩ := X13.privateBack hx (y := (⟨"com/example/ebbtide/ebbtide/cluster/LoadTrees", "numberSlots", "(II)V"⟩ : MethodName)) hown (mvT hZ (tw hw 108 rfl)) (mvT hZ (tw hw 109 rfl)) (mvT hZ (own_selP hw (tw hw 109 rfl) (tw hw 110 rfl))) (Cond.privateMethod_at (mvP hZ (tw hw 110 rfl) (args := #[]))) (mvT hZ (tw hw 111 rfl)) (by decide) (backOf (W := 0) (rmNS l Z a0 hw [] a1 A N (ui (ui (ui (mvI I (nd * 64 + sl) (nd * 64 + sl + 1) (n - sl)) 11 (nd) (Int32.ofNat (n + 1))) 7 (nd * 64 + sl) (Int32.ofNat (cd))) 10 (nd * 64 + sl) sv) (ui (ui (mvJ J (nd * 64 + sl) (nd * 64 + sl + 1) (n - sl)) 20 (nd * 64 + sl) kh) 21 (nd * 64 + sl) kl) cc M B nb nd sl (n + 1) (sins ch sl cd) h13 n0 Z13 Lq13 hS h11b hnd hnb (by omega) Y12 (by omega) hchb hinb) hZ (tw hw 111 rfl) (tw hw 14 rfl) (by decide) (by decide)) (g := (mkF m 124 #[vR a1, vN (nd), vN (sl), vN (cd), vJ kh, .second, vJ kl, .second, .val (.int sv), vN (nd * 64)] [(.int (Int32.ofNat (sl))), (.int (Int32.ofNat (nd))), (.ref a1)])) rfl (by rw [hml]; rfl) (Steps.refl _) (a := a1) (by rw [e13]; exact q14) q14' (argsL := [(.int (Int32.ofNat (nd))), (.int (Int32.ofNat (sl)))]) (rest := []) (lenOf pd__28II_29V rfl) rfl (by show 2 * 0 + _ ≤ _; exact Nat.le_of_eq rfl) (hb hby d10_124) (fun _ _ => ⟨rfl, e13, (by decide : 0 + 0 ≤ _), (by decide : 0 + 0 ≤ _)⟩)
  dsimp only [Pt.U, Pt.locs, Pt.cells, Pt.slots] at X14 l14 y14 z14 st14 hQ14
  subst l14 y14 z14
  obtain ⟨h14, e14⟩ : ∃ h', T14.heap = h' := ⟨_, rfl⟩
  rw [e14] at hQ14
  obtain ⟨P14, S14, rfl, N14q, K14q, Lq14, q1_14, q2_14⟩ := hQ14
  have K14 : KN n0 h0 h14 := K13.trans K14q
  have Z14 : n0 ≤ h14.size := Nat.le_trans Z13 K14q.1
  have N14 := Fr.app N13 N14q
  obtain ⟨cq15, q15, q15'⟩ := Lq14.E.cell
  obtain ⟨_, _, ⟨T15, L15, k15, n15⟩, -, X15, ⟨Lc15, hQ15, l15, y15, z15⟩, st15⟩ := X14.privateBack hx (y := (⟨"com/example/ebbtide/ebbtide/cluster/LoadTrees", "sum", "(II)V"⟩ : MethodName)) hown (mvT hZ (tw hw 112 rfl)) (mvT hZ (tw hw 113 rfl)) (mvT hZ (own_selP hw (tw hw 113 rfl) (tw hw 114 rfl))) (Cond.privateMethod_at (mvP hZ (tw hw 114 rfl) (args := #[]))) (mvT hZ (tw hw 115 rfl)) (by decide) (backOf (W := 0) (rmSum l Z a0 hw [] a1 A N (u1 (u1 (ui (ui (ui (mvI I (nd * 64 + sl) (nd * 64 + sl + 1) (n - sl)) 11 (nd) (Int32.ofNat (n + 1))) 7 (nd * 64 + sl) (Int32.ofNat (cd))) 10 (nd * 64 + sl) sv) 4 P14) 5 S14) (ui (ui (mvJ J (nd * 64 + sl) (nd * 64 + sl + 1) (n - sl)) 20 (nd * 64 + sl) kh) 21 (nd * 64 + sl) kl) cc M B nb nd sl cd h14 n0 Z14 Lq14 hS hnd hnb (by omega) Y12 (if_pos rfl) hc4 Y3) hZ (tw hw 115 rfl) (tw hw 14 rfl) (by decide) (by decide)) (g := (mkF m 130 #[vR a1, vN (nd), vN (sl), vN (cd), vJ kh, .second, vJ kl, .second, .val (.int sv), vN (nd * 64)] [(.int (Int32.ofNat (sl))), (.int (Int32.ofNat (nd))), (.ref a1)])) rfl (by rw [hml]; rfl) (Steps.refl _) (a := a1) (by rw [e14]; exact q15) q15' (argsL := [(.int (Int32.ofNat (nd))), (.int (Int32.ofNat (sl)))]) (rest := []) (lenOf pd__28II_29V rfl) rfl (by show 2 * 0 + _ ≤ _; exact Nat.le_of_eq rfl) (hb hby d10_130) (fun _ _ => ⟨rfl, e14, (by decide : 0 + 0 ≤ _), (by decide : 0 + 0 ≤ _)⟩)
  dsimp only [Pt.U, Pt.locs, Pt.cells, Pt.slots] at X15 l15 y15 z15 st15 hQ15
  subst l15 y15 z15
  obtain ⟨h15, e15⟩ : ∃ h', T15.heap = h' := ⟨_, rfl⟩
  rw [e15] at hQ15
  obtain ⟨rfl, N15q, K15q, Lq15⟩ := hQ15
  have K15 : KN n0 h0 h15 := K14.trans K15q
  have Z15 : n0 ≤ h15.size := Nat.le_trans Z14 K15q.1
  have N15 := Fr.app N14 N15q
  obtain ⟨fs, hr, hrun, hended, hW, hsame⟩ := X15.leave (v := none) (fun _ => rfl)
  refine ⟨_, _, pre0 _ (?_), hrun, hended, _, _, rfl, ?_, ⟨_, rfl⟩, hW, hsame.mono (by decide) (by decide)⟩
  · show Steps p.tables e below (s₁.setTop (mkF m 0 #[vR a1, vN (nd), vN (sl), vN (cd), vJ kh, .second, vJ kl, .second, .val (.int sv), uu] [])) _
    refine XS.aloadN X0.here hx rfl (hb hby d10_0) rfl rfl ?_
    refine st1 _ ?_
    refine XS.iloadN X1.here hx rfl (hb hby d10_4) rfl ?_
    refine own_ldIN X1 hx hZ e1 (L0.aI 11 (by decide)) (i := nd) (x := (Int32.ofNat (n))) (by omega) (congrArg Value.int (show (I 11 (nd)) = (Int32.ofNat (n)) from Y11)) (g := (mkF m 5 #[vR a1, vN (nd), vN (sl), vN (cd), vJ kh, .second, vJ kl, .second, .val (.int sv), uu] [(.int (Int32.ofNat (nd))), (.ref (A 11))])) rfl rfl (hb hby d10_5) _ ?_
    refine XS.bipush X1.here hx rfl (hb hby d10_6) ?_
    refine XS.icmpYes X1.here hx rfl (pc0 := 8) (pc' := 40) rfl (hb hby d10_8) rfl (feq (own_nne (a := n) (b := 64) (by omega) (by omega) (by omega))).2 (by decide) (by decide) ?_
    refine XS.iloadN X1.here hx rfl (hb hby d10_40) rfl ?_
    refine XS.bipush X1.here hx rfl (hb hby d10_41) ?_
    refine XS.imul X1.here hx rfl (hb hby d10_43) rfl ?_
    show Steps p.tables e below (T1.setTop (mkF m 44 #[vR a1, vN (nd), vN (sl), vN (cd), vJ kh, .second, vJ kl, .second, .val (.int sv), uu] [(.int ((Int32.ofNat (nd)) * (64 : Int32)))])) _
    rw [show (Int32.ofNat (nd)) * (64 : Int32) = Int32.ofNat (nd * 64) from own_nm (nd) (64)]
    show Steps p.tables e below (T1.setTop (mkF m 44 #[vR a1, vN (nd), vN (sl), vN (cd), vJ kh, .second, vJ kl, .second, .val (.int sv), uu] [(.int (Int32.ofNat (nd * 64)))])) _
    refine XS.istore X1.here hx rfl (hb hby d10_44) rfl (l' := #[vR a1, vN (nd), vN (sl), vN (cd), vJ kh, .second, vJ kl, .second, .val (.int sv), vN (nd * 64)]) rfl ?_
    refine XS.aloadN X1.here hx rfl (hb hby d10_46) rfl rfl ?_
    refine XS.iload X1.here hx rfl (hb hby d10_47) rfl ?_
    refine XS.iloadN X1.here hx rfl (hb hby d10_49) rfl ?_
    refine XS.iadd X1.here hx rfl (hb hby d10_50) rfl ?_
    show Steps p.tables e below (T1.setTop (mkF m 51 #[vR a1, vN (nd), vN (sl), vN (cd), vJ kh, .second, vJ kl, .second, .val (.int sv), vN (nd * 64)] [(.int ((Int32.ofNat (nd * 64)) + (Int32.ofNat (sl)))), (.ref a1)])) _
    rw [show (Int32.ofNat (nd * 64)) + (Int32.ofNat (sl)) = Int32.ofNat (nd * 64 + sl) from own_na (nd * 64) (sl)]
    show Steps p.tables e below (T1.setTop (mkF m 51 #[vR a1, vN (nd), vN (sl), vN (cd), vJ kh, .second, vJ kl, .second, .val (.int sv), vN (nd * 64)] [(.int (Int32.ofNat (nd * 64 + sl))), (.ref a1)])) _
    refine XS.iload X1.here hx rfl (hb hby d10_51) rfl ?_
    refine XS.iloadN X1.here hx rfl (hb hby d10_53) rfl ?_
    refine XS.iadd X1.here hx rfl (hb hby d10_54) rfl ?_
    show Steps p.tables e below (T1.setTop (mkF m 55 #[vR a1, vN (nd), vN (sl), vN (cd), vJ kh, .second, vJ kl, .second, .val (.int sv), vN (nd * 64)] [(.int ((Int32.ofNat (nd * 64)) + (Int32.ofNat (sl)))), (.int (Int32.ofNat (nd * 64 + sl))), (.ref a1)])) _
    rw [show (Int32.ofNat (nd * 64)) + (Int32.ofNat (sl)) = Int32.ofNat (nd * 64 + sl) from own_na (nd * 64) (sl)]
    show Steps p.tables e below (T1.setTop (mkF m 55 #[vR a1, vN (nd), vN (sl), vN (cd), vJ kh, .second, vJ kl, .second, .val (.int sv), vN (nd * 64)] [(.int (Int32.ofNat (nd * 64 + sl))), (.int (Int32.ofNat (nd * 64 + sl))), (.ref a1)])) _
    refine XS.iconst X1.here hx rfl (hb hby d10_55) ?_
    refine XS.iadd X1.here hx rfl (hb hby d10_56) rfl ?_
    show Steps p.tables e below (T1.setTop (mkF m 57 #[vR a1, vN (nd), vN (sl), vN (cd), vJ kh, .second, vJ kl, .second, .val (.int sv), vN (nd * 64)] [(.int ((Int32.ofNat (nd * 64 + sl)) + (1 : Int32))), (.int (Int32.ofNat (nd * 64 + sl))), (.ref a1)])) _
    rw [show (Int32.ofNat (nd * 64 + sl)) + (1 : Int32) = Int32.ofNat (nd * 64 + sl + 1) from own_na (nd * 64 + sl) (1)]
    show Steps p.tables e below (T1.setTop (mkF m 57 #[vR a1, vN (nd), vN (sl), vN (cd), vJ kh, .second, vJ kl, .second, .val (.int sv), vN (nd * 64)] [(.int (Int32.ofNat (nd * 64 + sl + 1))), (.int (Int32.ofNat (nd * 64 + sl))), (.ref a1)])) _
    refine XS.aloadN X1.here hx rfl (hb hby d10_57) rfl rfl ?_
    refine st2 _ ?_
    refine XS.iloadN X2.here hx rfl (hb hby d10_61) rfl ?_
    refine own_ldIN X2 hx hZ e2 (L0.aI 11 (by decide)) (i := nd) (x := (Int32.ofNat (n))) (by omega) (congrArg Value.int (show (I 11 (nd)) = (Int32.ofNat (n)) from Y11)) (g := (mkF m 62 #[vR a1, vN (nd), vN (sl), vN (cd), vJ kh, .second, vJ kl, .second, .val (.int sv), vN (nd * 64)] [(.int (Int32.ofNat (nd))), (.ref (A 11)), (.int (Int32.ofNat (nd * 64 + sl + 1))), (.int (Int32.ofNat (nd * 64 + sl))), (.ref a1)])) rfl rfl (hb hby d10_62) _ ?_
    refine XS.iloadN X2.here hx rfl (hb hby d10_63) rfl ?_
    refine XS.isub X2.here hx rfl (hb hby d10_64) rfl ?_
    show Steps p.tables e below (T2.setTop (mkF m 65 #[vR a1, vN (nd), vN (sl), vN (cd), vJ kh, .second, vJ kl, .second, .val (.int sv), vN (nd * 64)] [(.int ((Int32.ofNat (n)) - (Int32.ofNat (sl)))), (.int (Int32.ofNat (nd * 64 + sl + 1))), (.int (Int32.ofNat (nd * 64 + sl))), (.ref a1)])) _
    rw [show (Int32.ofNat (n)) - (Int32.ofNat (sl)) = Int32.ofNat (n - sl) from own_ns (a := n) (b := sl) (by omega)]
    show Steps p.tables e below (T2.setTop (mkF m 65 #[vR a1, vN (nd), vN (sl), vN (cd), vJ kh, .second, vJ kl, .second, .val (.int sv), vN (nd * 64)] [(.int (Int32.ofNat (n - sl))), (.int (Int32.ofNat (nd * 64 + sl + 1))), (.int (Int32.ofNat (nd * 64 + sl))), (.ref a1)])) _
    refine st3.trans ?_
    refine XS.aloadN X3.here hx rfl (hb hby d10_68) rfl rfl ?_
    refine st4 _ ?_
    refine XS.iloadN X4.here hx rfl (hb hby d10_72) rfl ?_
    refine Jvm.Free.XT.dup2 X4.here hx rfl (hb hby d10_73) rfl rfl rfl ?_
    refine own_ldIN X4 hx hZ e4 (Lq3.aI 11 (by decide)) (i := nd) (x := (Int32.ofNat (n))) (by omega) (congrArg Value.int (show ((mvI I (nd * 64 + sl) (nd * 64 + sl + 1) (n - sl)) 11 (nd)) = (Int32.ofNat (n)) from Y11)) (g := (mkF m 74 #[vR a1, vN (nd), vN (sl), vN (cd), vJ kh, .second, vJ kl, .second, .val (.int sv), vN (nd * 64)] [(.int (Int32.ofNat (nd))), (.ref (A 11)), (.int (Int32.ofNat (nd))), (.ref (A 11))])) rfl rfl (hb hby d10_74) _ ?_
    refine XS.iconst X4.here hx rfl (hb hby d10_75) ?_
    refine XS.iadd X4.here hx rfl (hb hby d10_76) rfl ?_
    show Steps p.tables e below (T4.setTop (mkF m 77 #[vR a1, vN (nd), vN (sl), vN (cd), vJ kh, .second, vJ kl, .second, .val (.int sv), vN (nd * 64)] [(.int ((Int32.ofNat (n)) + (1 : Int32))), (.int (Int32.ofNat (nd))), (.ref (A 11))])) _
    rw [show (Int32.ofNat (n)) + (1 : Int32) = Int32.ofNat (n + 1) from own_na (n) (1)]
    show Steps p.tables e below (T4.setTop (mkF m 77 #[vR a1, vN (nd), vN (sl), vN (cd), vJ kh, .second, vJ kl, .second, .val (.int sv), vN (nd * 64)] [(.int (Int32.ofNat (n + 1))), (.int (Int32.ofNat (nd))), (.ref (A 11))])) _
    refine st5 _ ?_
    refine XS.aloadN X5.here hx rfl (hb hby d10_78) rfl rfl ?_
    refine st6 _ ?_
    refine XS.iload X6.here hx rfl (hb hby d10_82) rfl ?_
    refine XS.iloadN X6.here hx rfl (hb hby d10_84) rfl ?_
    refine XS.iadd X6.here hx rfl (hb hby d10_85) rfl ?_
    show Steps p.tables e below (T6.setTop (mkF m 86 #[vR a1, vN (nd), vN (sl), vN (cd), vJ kh, .second, vJ kl, .second, .val (.int sv), vN (nd * 64)] [(.int ((Int32.ofNat (nd * 64)) + (Int32.ofNat (sl)))), (.ref (A 7))])) _
    rw [show (Int32.ofNat (nd * 64)) + (Int32.ofNat (sl)) = Int32.ofNat (nd * 64 + sl) from own_na (nd * 64) (sl)]
    show Steps p.tables e below (T6.setTop (mkF m 86 #[vR a1, vN (nd), vN (sl), vN (cd), vJ kh, .second, vJ kl, .second, .val (.int sv), vN (nd * 64)] [(.int (Int32.ofNat (nd * 64 + sl))), (.ref (A 7))])) _
    refine XS.iloadN X6.here hx rfl (hb hby d10_86) rfl ?_
    refine st7 _ ?_
    refine XS.aloadN X7.here hx rfl (hb hby d10_88) rfl rfl ?_
    refine st8 _ ?_
    refine XS.iload X8.here hx rfl (hb hby d10_92) rfl ?_
    refine XS.iloadN X8.here hx rfl (hb hby d10_94) rfl ?_
    refine XS.iadd X8.here hx rfl (hb hby d10_95) rfl ?_
    show Steps p.tables e below (T8.setTop (mkF m 96 #[vR a1, vN (nd), vN (sl), vN (cd), vJ kh, .second, vJ kl, .second, .val (.int sv), vN (nd * 64)] [(.int ((Int32.ofNat (nd * 64)) + (Int32.ofNat (sl)))), (.ref (A 20))])) _
    rw [show (Int32.ofNat (nd * 64)) + (Int32.ofNat (sl)) = Int32.ofNat (nd * 64 + sl) from own_na (nd * 64) (sl)]
    show Steps p.tables e below (T8.setTop (mkF m 96 #[vR a1, vN (nd), vN (sl), vN (cd), vJ kh, .second, vJ kl, .second, .val (.int sv), vN (nd * 64)] [(.int (Int32.ofNat (nd * 64 + sl))), (.ref (A 20))])) _
    refine XS.lload X8.here hx rfl (hb hby d10_96) rfl ?_
    refine st9 _ ?_
    refine XS.aloadN X9.here hx rfl (hb hby d10_99) rfl rfl ?_
    refine st10 _ ?_
    refine XS.iload X10.here hx rfl (hb hby d10_103) rfl ?_
    refine XS.iloadN X10.here hx rfl (hb hby d10_105) rfl ?_
    refine XS.iadd X10.here hx rfl (hb hby d10_106) rfl ?_
    show Steps p.tables e below (T10.setTop (mkF m 107 #[vR a1, vN (nd), vN (sl), vN (cd), vJ kh, .second, vJ kl, .second, .val (.int sv), vN (nd * 64)] [(.int ((Int32.ofNat (nd * 64)) + (Int32.ofNat (sl)))), (.ref (A 21))])) _
    rw [show (Int32.ofNat (nd * 64)) + (Int32.ofNat (sl)) = Int32.ofNat (nd * 64 + sl) from own_na (nd * 64) (sl)]
    show Steps p.tables e below (T10.setTop (mkF m 107 #[vR a1, vN (nd), vN (sl), vN (cd), vJ kh, .second, vJ kl, .second, .val (.int sv), vN (nd * 64)] [(.int (Int32.ofNat (nd * 64 + sl))), (.ref (A 21))])) _
    refine XS.lload X10.here hx rfl (hb hby d10_107) rfl ?_
    refine st11 _ ?_
    refine XS.aloadN X11.here hx rfl (hb hby d10_110) rfl rfl ?_
    refine st12 _ ?_
    refine XS.iload X12.here hx rfl (hb hby d10_114) rfl ?_
    refine XS.iloadN X12.here hx rfl (hb hby d10_116) rfl ?_
    refine XS.iadd X12.here hx rfl (hb hby d10_117) rfl ?_
    show Steps p.tables e below (T12.setTop (mkF m 118 #[vR a1, vN (nd), vN (sl), vN (cd), vJ kh, .second, vJ kl, .second, .val (.int sv), vN (nd * 64)] [(.int ((Int32.ofNat (nd * 64)) + (Int32.ofNat (sl)))), (.ref (A 10))])) _
    rw [show (Int32.ofNat (nd * 64)) + (Int32.ofNat (sl)) = Int32.ofNat (nd * 64 + sl) from own_na (nd * 64) (sl)]
    show Steps p.tables e below (T12.setTop (mkF m 118 #[vR a1, vN (nd), vN (sl), vN (cd), vJ kh, .second, vJ kl, .second, .val (.int sv), vN (nd * 64)] [(.int (Int32.ofNat (nd * 64 + sl))), (.ref (A 10))])) _
    refine XS.iload X12.here hx rfl (hb hby d10_118) rfl ?_
    refine st13 _ ?_
    refine XS.aloadN X13.here hx rfl (hb hby d10_121) rfl rfl ?_
    refine XS.iloadN X13.here hx rfl (hb hby d10_122) rfl ?_
    refine XS.iloadN X13.here hx rfl (hb hby d10_123) rfl ?_
    refine st14.trans ?_
    refine XS.aloadN X14.here hx rfl (hb hby d10_127) rfl rfl ?_
    refine XS.iloadN X14.here hx rfl (hb hby d10_128) rfl ?_
    refine XS.iloadN X14.here hx rfl (hb hby d10_129) rfl ?_
    refine st15.trans ?_
    show Steps p.tables e below (T15.setTop (mkF m 133 #[vR a1, vN (nd), vN (sl), vN (cd), vJ kh, .second, vJ kl, .second, .val (.int sv), vN (nd * 64)] [])) _
    exact X15.returnOut hx Bd.returns (hb hby d10_133) hr
  · show QrmAS Z a1 A N I J cc M B nb nd sl cd n kh kl sv ch h0 n0 _ T15.heap _
    rw [e15]
    exact ⟨_, _, rfl, N15, K15, Lq15, q1_14, q2_14⟩
theorem d14_0 : decode q3 0 = .ok (.iload_n 1, 1) := by decide +kernel
theorem d14_1 : decode q3 1 = .ok (.bipush 64, 2) := by decide +kernel
theorem d14_3 : decode q3 3 = .ok (.imul, 1) := by decide +kernel
theorem d14_4 : decode q3 4 = .ok (.istore 7, 2) := by decide +kernel
theorem d14_6 : decode q3 6 = .ok (.iconst 1, 1) := by decide +kernel
theorem d14_7 : decode q3 7 = .ok (.istore 8, 2) := by decide +kernel
theorem d14_9 : decode q3 9 = .ok (.aload_n 0, 1) := by decide +kernel
theorem d14_10 : decode q3 10 = .ok (.getfield 73, 3) := by decide +kernel
theorem d14_13 : decode q3 13 = .ok (.iload_n 1, 1) := by decide +kernel
theorem d14_14 : decode q3 14 = .ok (.iaload, 1) := by decide +kernel
theorem d14_15 : decode q3 15 = .ok (.istore 9, 2) := by decide +kernel
theorem d14_17 : decode q3 17 = .ok (.iload 8, 2) := by decide +kernel
theorem d14_19 : decode q3 19 = .ok (.iload 9, 2) := by decide +kernel
theorem d14_21 : decode q3 21 = .ok (.if_icmp .ge 69, 3) := by decide +kernel
theorem d14_90 : decode q3 90 = .ok (.iload 8, 2) := by decide +kernel
theorem d14_92 : decode q3 92 = .ok (.iconst 1, 1) := by decide +kernel
theorem d14_93 : decode q3 93 = .ok (.isub, 1) := by decide +kernel
theorem d14_94 : decode q3 94 = .ok (.ireturn, 1) := by decide +kernel
theorem ef_rmSF1 (m : MethodId) (x0 : Addr) (x1 : Int32) (x2 : Int64) (x3 : Int64) (x4 : Int32) : entryFrame m #[(.ref x0), (.int x1), (.long x2), (.long x3), (.int x4)] 11 = mkF m 0 #[vR x0, .val (.int x1), vJ x2, .second, vJ x3, .second, .val (.int x4), uu, uu, uu, uu] [] := by first | (simp [entryFrame, mkF, argsToLocals, Value.category]; done) | rfl
def QrmSF1 (Z : State) (a1 : Addr) (A : Nat → Addr) (N : Nat → Nat) (I : Nat → Nat → Int32) (J : Nat → Nat → Int64) (cc : Nat → Int32) (M : Nat → Option Addr) (B : Nat → Nat → Int32) (nb nd : Nat) (kh kl : Int64) (sv : Nat) (h0 : Heap) (n0 : Nat) (v : Option Value) (h : Heap) (L : List Loc) : Prop := v = some (.int (0 : Int32)) ∧ Fr n0 L ∧ h = h0
set_option maxRecDepth 65536 in
set_option maxHeartbeats 40000000 in
theorem rmSF1 (l : Launch) (Z : State) (a0 : Array Value) (hw : ∀ d ∈ tables_1, d.before a0 Z = true) (ws : List Jvm.Cond) (a1 : Addr) (A : Nat → Addr) (N : Nat → Nat) (I : Nat → Nat → Int32) (J : Nat → Nat → Int64) (cc : Nat → Int32) (M : Nat → Option Addr) (B : Nat → Nat → Int32) (nb nd : Nat) (kh kl : Int64) (sv : Nat) (h0 : Heap) (n0 : Nat) (Z0 : n0 ≤ h0.size) (L0 : LT Z h0 n0 a1 A N I J cc M B) (hS : SZ N nb) (hnd : nd < nb) (hnb : nb < 1000) (Y11 : I 11 nd = (1 : Int32)) :
    MetFree l (⟨"com/example/ebbtide/ebbtide/cluster/LoadTrees", "slotFor", "(IJJI)I"⟩ : MethodName) (head1 (Jvm.Cond.code (⟨"com/example/ebbtide/ebbtide/cluster/LoadTrees", "slotFor", "(IJJI)I"⟩ : MethodName) prog_74_method_14_code 11 (some .int) :: ws) ({ frames := 0, cells := 0, slots := 0, locals := 0 } : Room)) (fun a U => a = #[(.ref a1), (.int (Int32.ofNat (nd))), (.long kh), (.long kl), (.int (Int32.ofNat (sv)))] ∧ Z.Warmed39 U.vm ∧ U.heap = h0) (fun _ _ _ _ _ => True) (fun _ U o U' => ∃ v L, o = .returned v ∧ QrmSF1 Z a1 A N I J cc M B nb nd kh kl sv h0 n0 v U'.heap L ∧ FrameEnd U o U' L ({ frames := 0, cells := 0, slots := 0, locals := 0 } : Room).cells ({ frames := 0, cells := 0, slots := 0, locals := 0 } : Room).slots) := by
  refine MetFree.of_bodySF (plainFor_of_name pn_com_example_ebbtide_ebbtide_cluster_LoadTrees) hisR ?_
  intro p e s m args below meth c s₁ Bd hml0 hP hK
  obtain ⟨rfl, hZ, hh⟩ := hP
  have hx := Bd.exec
  have hby := Bd.bytes
  have hml : c.maxLocals = 11 := hml0
  have hown : s.vm.findClass "com/example/ebbtide/ebbtide/cluster/LoadTrees" = some m.cls := findClass_of_methodNamed Bd.named
  have hnm := (name_of_methodNamed Bd.named Bd.method).1
  have X0 : Stand p l e ({ frames := 0, cells := 0, slots := 0, locals := 0 } : Room) s m #[(.ref a1), (.int (Int32.ofNat (nd))), (.long kh), (.long kl), (.int (Int32.ofNat (sv)))] below meth c s₁ [] 0 0 := Stand.of_body Bd
  have e0 : s₁.heap = h0 := by rw [← hh, Bd.state]; rfl
  have N0 := Fr.nil n0
  have pre0 : ∀ t, Steps p.tables e below (s₁.setTop (mkF m 0 #[vR a1, vN (nd), vJ kh, .second, vJ kl, .second, vN (sv), uu, uu, uu, uu] [])) t → Steps p.tables e below (s₁.setTop (entryFrame m #[(.ref a1), (.int (Int32.ofNat (nd))), (.long kh), (.long kl), (.int (Int32.ofNat (sv)))] 11)) t := fun t k => castTop (ef_rmSF1 m a1 (Int32.ofNat (nd)) kh kl (Int32.ofNat (sv))) k
  obtain ⟨S0, S1, S2, S3, S4, S5, S6, S7, S8, S9, S10, S11, S12, S13, S14, S15, S16, S17, S18, S19, S20, S21, S22⟩ := hS
  obtain ⟨T1, X1, e1, st1⟩ := getF X0 hx hZ hown (host := "") (Or.inl (tw hw 64 rfl)) Via.refl e0 (L0.FI 11 (by decide) rfl) (g := (mkF m 10 #[vR a1, vN (nd), vJ kh, .second, vJ kl, .second, vN (sv), vN (nd * 64), vI 1, uu, uu] [(.ref a1)])) rfl rfl (hb hby d14_10)
  obtain ⟨fs, hr, hrun, hended, hW, hsame⟩ := X1.leave (v := some (.int (0 : Int32))) (fun h => by rw [Bd.returns] at h; cases h)
  refine ⟨_, _, pre0 _ (?_), hrun, hended, _, _, rfl, ?_, ⟨_, rfl⟩, hW, hsame.mono (by decide) (by decide)⟩
  · show Steps p.tables e below (s₁.setTop (mkF m 0 #[vR a1, vN (nd), vJ kh, .second, vJ kl, .second, vN (sv), uu, uu, uu, uu] [])) _
    refine XS.iloadN X0.here hx rfl (hb hby d14_0) rfl ?_
    refine XS.bipush X0.here hx rfl (hb hby d14_1) ?_
    refine XS.imul X0.here hx rfl (hb hby d14_3) rfl ?_
    show Steps p.tables e below (s₁.setTop (mkF m 4 #[vR a1, vN (nd), vJ kh, .second, vJ kl, .second, vN (sv), uu, uu, uu, uu] [(.int ((Int32.ofNat (nd)) * (64 : Int32)))])) _
    rw [show (Int32.ofNat (nd)) * (64 : Int32) = Int32.ofNat (nd * 64) from own_nm (nd) (64)]
    show Steps p.tables e below (s₁.setTop (mkF m 4 #[vR a1, vN (nd), vJ kh, .second, vJ kl, .second, vN (sv), uu, uu, uu, uu] [(.int (Int32.ofNat (nd * 64)))])) _
    refine XS.istore X0.here hx rfl (hb hby d14_4) rfl (l' := #[vR a1, vN (nd), vJ kh, .second, vJ kl, .second, vN (sv), vN (nd * 64), uu, uu, uu]) rfl ?_
    refine XS.iconst X0.here hx rfl (hb hby d14_6) ?_
    refine XS.istore X0.here hx rfl (hb hby d14_7) rfl (l' := #[vR a1, vN (nd), vJ kh, .second, vJ kl, .second, vN (sv), vN (nd * 64), vI 1, uu, uu]) rfl ?_
    refine XS.aloadN X0.here hx rfl (hb hby d14_9) rfl rfl ?_
    refine st1 _ ?_
    refine XS.iloadN X1.here hx rfl (hb hby d14_13) rfl ?_
    refine own_ldIN X1 hx hZ e1 (L0.aI 11 (by decide)) (i := nd) (x := (1 : Int32)) (by omega) (congrArg Value.int (show (I 11 (nd)) = (1 : Int32) from Y11)) (g := (mkF m 14 #[vR a1, vN (nd), vJ kh, .second, vJ kl, .second, vN (sv), vN (nd * 64), vI 1, uu, uu] [(.int (Int32.ofNat (nd))), (.ref (A 11))])) rfl rfl (hb hby d14_14) _ ?_
    refine XS.istore X1.here hx rfl (hb hby d14_15) rfl (l' := #[vR a1, vN (nd), vJ kh, .second, vJ kl, .second, vN (sv), vN (nd * 64), vI 1, vI 1, uu]) rfl ?_
    refine XS.iload X1.here hx rfl (hb hby d14_17) rfl ?_
    refine XS.iload X1.here hx rfl (hb hby d14_19) rfl ?_
    refine XS.icmpYes X1.here hx rfl (pc0 := 21) (pc' := 90) rfl (hb hby d14_21) rfl (flt (by decide : ¬ ((1 : Int32) < (1 : Int32)))).2.1 (by decide) (by decide) ?_
    refine XS.iload X1.here hx rfl (hb hby d14_90) rfl ?_
    show Steps p.tables e below (T1.setTop (mkF m 92 #[vR a1, vN (nd), vJ kh, .second, vJ kl, .second, vN (sv), vN (nd * 64), vI 1, vI 1, uu] [(.int (1 : Int32))])) _
    refine XS.iconst X1.here hx rfl (hb hby d14_92) ?_
    refine XS.isub X1.here hx rfl (hb hby d14_93) rfl ?_
    show Steps p.tables e below (T1.setTop (mkF m 94 #[vR a1, vN (nd), vJ kh, .second, vJ kl, .second, vN (sv), vN (nd * 64), vI 1, vI 1, uu] [(.int (0 : Int32))])) _
    exact retI X1 hx Bd.returns (hb hby d14_94) hr
  · show QrmSF1 Z a1 A N I J cc M B nb nd kh kl sv h0 n0 _ T1.heap _
    rw [e1]
    exact ⟨rfl, N0, rfl⟩
theorem d14_24 : decode q3 24 = .ok (.iload 8, 2) := by decide +kernel
theorem d14_26 : decode q3 26 = .ok (.iload 9, 2) := by decide +kernel
theorem d14_28 : decode q3 28 = .ok (.iadd, 1) := by decide +kernel
theorem d14_29 : decode q3 29 = .ok (.iconst 1, 1) := by decide +kernel
theorem d14_30 : decode q3 30 = .ok (.iushr, 1) := by decide +kernel
theorem d14_31 : decode q3 31 = .ok (.istore 10, 2) := by decide +kernel
theorem d14_33 : decode q3 33 = .ok (.lload_n 2, 1) := by decide +kernel
theorem d14_34 : decode q3 34 = .ok (.lload 4, 2) := by decide +kernel
theorem d14_36 : decode q3 36 = .ok (.iload 6, 2) := by decide +kernel
theorem d14_38 : decode q3 38 = .ok (.aload_n 0, 1) := by decide +kernel
theorem d14_39 : decode q3 39 = .ok (.getfield 64, 3) := by decide +kernel
theorem d14_42 : decode q3 42 = .ok (.iload 7, 2) := by decide +kernel
theorem d14_44 : decode q3 44 = .ok (.iload 10, 2) := by decide +kernel
theorem d14_46 : decode q3 46 = .ok (.iadd, 1) := by decide +kernel
theorem d14_47 : decode q3 47 = .ok (.laload, 1) := by decide +kernel
theorem d14_48 : decode q3 48 = .ok (.aload_n 0, 1) := by decide +kernel
theorem d14_49 : decode q3 49 = .ok (.getfield 67, 3) := by decide +kernel
theorem d14_52 : decode q3 52 = .ok (.iload 7, 2) := by decide +kernel
theorem d14_54 : decode q3 54 = .ok (.iload 10, 2) := by decide +kernel
theorem d14_56 : decode q3 56 = .ok (.iadd, 1) := by decide +kernel
theorem d14_57 : decode q3 57 = .ok (.laload, 1) := by decide +kernel
theorem d14_58 : decode q3 58 = .ok (.aload_n 0, 1) := by decide +kernel
theorem d14_59 : decode q3 59 = .ok (.getfield 70, 3) := by decide +kernel
theorem d14_62 : decode q3 62 = .ok (.iload 7, 2) := by decide +kernel
theorem d14_64 : decode q3 64 = .ok (.iload 10, 2) := by decide +kernel
theorem d14_66 : decode q3 66 = .ok (.iadd, 1) := by decide +kernel
theorem d14_67 : decode q3 67 = .ok (.iaload, 1) := by decide +kernel
theorem d14_68 : decode q3 68 = .ok (.invokestatic 169, 3) := by decide +kernel
theorem d14_71 : decode q3 71 = .ok (.ifCond .eq 10, 3) := by decide +kernel
theorem d14_74 : decode q3 74 = .ok (.iload 10, 2) := by decide +kernel
theorem d14_76 : decode q3 76 = .ok (.istore 9, 2) := by decide +kernel
theorem d14_78 : decode q3 78 = .ok (.goto 9, 3) := by decide +kernel
theorem d14_87 : decode q3 87 = .ok (.goto (-70), 3) := by decide +kernel
theorem pd__28JJIJJI_29Z : parseMethodDescriptor "(JJIJJI)Z" = some ⟨[.long, .long, .int, .long, .long, .int], some .boolean⟩ := by decide +kernel
theorem ef_rmSF2a (m : MethodId) (x0 : Addr) (x1 : Int32) (x2 : Int64) (x3 : Int64) (x4 : Int32) : entryFrame m #[(.ref x0), (.int x1), (.long x2), (.long x3), (.int x4)] 11 = mkF m 0 #[vR x0, .val (.int x1), vJ x2, .second, vJ x3, .second, .val (.int x4), uu, uu, uu, uu] [] := by first | (simp [entryFrame, mkF, argsToLocals, Value.category]; done) | rfl
def QrmSF2a (Z : State) (a1 : Addr) (A : Nat → Addr) (N : Nat → Nat) (I : Nat → Nat → Int32) (J : Nat → Nat → Int64) (cc : Nat → Int32) (M : Nat → Option Addr) (B : Nat → Nat → Int32) (nb nd : Nat) (kh kl : Int64) (sv : Nat) (Y1 l1 : Int64) (h0 : Heap) (n0 : Nat) (v : Option Value) (h : Heap) (L : List Loc) : Prop := v = some (.int (0 : Int32)) ∧ Fr n0 L ∧ h = h0
set_option maxRecDepth 65536 in
set_option maxHeartbeats 40000000 in
theorem rmSF2a (l : Launch) (Z : State) (a0 : Array Value) (hw : ∀ d ∈ tables_1, d.before a0 Z = true) (ws : List Jvm.Cond) (a1 : Addr) (A : Nat → Addr) (N : Nat → Nat) (I : Nat → Nat → Int32) (J : Nat → Nat → Int64) (cc : Nat → Int32) (M : Nat → Option Addr) (B : Nat → Nat → Int32) (nb nd : Nat) (kh kl : Int64) (sv : Nat) (Y1 l1 : Int64) (h0 : Heap) (n0 : Nat) (Z0 : n0 ≤ h0.size) (L0 : LT Z h0 n0 a1 A N I J cc M B) (hS : SZ N nb) (hnd : nd < nb) (hnb : nb < 1000) (Y11 : I 11 nd = (2 : Int32)) (Y20 : J 20 (nd * 64 + 1) = Y1) (Y21 : J 21 (nd * 64 + 1) = l1) (Y10 : I 10 (nd * 64 + 1) = (-1 : Int32)) (hsv : sv < 1000) (hk : own_k kh kl Y1 l1 < 0) :
    MetFree l (⟨"com/example/ebbtide/ebbtide/cluster/LoadTrees", "slotFor", "(IJJI)I"⟩ : MethodName) (head1 (Jvm.Cond.code (⟨"com/example/ebbtide/ebbtide/cluster/LoadTrees", "slotFor", "(IJJI)I"⟩ : MethodName) prog_74_method_14_code 11 (some .int) :: ws) ({ frames := 5, cells := 0, slots := 0, locals := 89 } : Room)) (fun a U => a = #[(.ref a1), (.int (Int32.ofNat (nd))), (.long kh), (.long kl), (.int (Int32.ofNat (sv)))] ∧ Z.Warmed39 U.vm ∧ U.heap = h0) (fun _ _ _ _ _ => True) (fun _ U o U' => ∃ v L, o = .returned v ∧ QrmSF2a Z a1 A N I J cc M B nb nd kh kl sv Y1 l1 h0 n0 v U'.heap L ∧ FrameEnd U o U' L ({ frames := 5, cells := 0, slots := 0, locals := 89 } : Room).cells ({ frames := 5, cells := 0, slots := 0, locals := 89 } : Room).slots) := by
  refine MetFree.of_bodySF (plainFor_of_name pn_com_example_ebbtide_ebbtide_cluster_LoadTrees) hisR ?_
  intro p e s m args below meth c s₁ Bd hml0 hP hK
  obtain ⟨rfl, hZ, hh⟩ := hP
  have hx := Bd.exec
  have hby := Bd.bytes
  have hml : c.maxLocals = 11 := hml0
  have hown : s.vm.findClass "com/example/ebbtide/ebbtide/cluster/LoadTrees" = some m.cls := findClass_of_methodNamed Bd.named
  have hnm := (name_of_methodNamed Bd.named Bd.method).1
  have X0 : Stand p l e ({ frames := 5, cells := 0, slots := 0, locals := 89 } : Room) s m #[(.ref a1), (.int (Int32.ofNat (nd))), (.long kh), (.long kl), (.int (Int32.ofNat (sv)))] below meth c s₁ [] 0 0 := Stand.of_body Bd
  have e0 : s₁.heap = h0 := by rw [← hh, Bd.state]; rfl
  have N0 := Fr.nil n0
  have pre0 : ∀ t, Steps p.tables e below (s₁.setTop (mkF m 0 #[vR a1, vN (nd), vJ kh, .second, vJ kl, .second, vN (sv), uu, uu, uu, uu] [])) t → Steps p.tables e below (s₁.setTop (entryFrame m #[(.ref a1), (.int (Int32.ofNat (nd))), (.long kh), (.long kl), (.int (Int32.ofNat (sv)))] 11)) t := fun t k => castTop (ef_rmSF2a m a1 (Int32.ofNat (nd)) kh kl (Int32.ofNat (sv))) k
  obtain ⟨S0, S1, S2, S3, S4, S5, S6, S7, S8, S9, S10, S11, S12, S13, S14, S15, S16, S17, S18, S19, S20, S21, S22⟩ := hS
  obtain ⟨T1, X1, e1, st1⟩ := getF X0 hx hZ hown (host := "") (Or.inl (tw hw 64 rfl)) Via.refl e0 (L0.FI 11 (by decide) rfl) (g := (mkF m 10 #[vR a1, vN (nd), vJ kh, .second, vJ kl, .second, vN (sv), vN (nd * 64), vI 1, uu, uu] [(.ref a1)])) rfl rfl (hb hby d14_10)
  obtain ⟨T2, X2, e2, st2⟩ := getF X1 hx hZ hown (host := "") (Or.inl (tw hw 58 rfl)) Via.refl e1 (L0.FJ 20 (by decide) (by decide) rfl) (g := (mkF m 39 #[vR a1, vN (nd), vJ kh, .second, vJ kl, .second, vN (sv), vN (nd * 64), vI 1, vI 2, vI 1] [(.ref a1), (.int (Int32.ofNat (sv))), (.long kl), (.long kh)])) rfl rfl (hb hby d14_39)
  obtain ⟨T3, X3, e3, st3⟩ := getF X2 hx hZ hown (host := "") (Or.inl (tw hw 60 rfl)) Via.refl e2 (L0.FJ 21 (by decide) (by decide) rfl) (g := (mkF m 49 #[vR a1, vN (nd), vJ kh, .second, vJ kl, .second, vN (sv), vN (nd * 64), vI 1, vI 2, vI 1] [(.ref a1), (.long Y1), (.int (Int32.ofNat (sv))), (.long kl), (.long kh)])) rfl rfl (hb hby d14_49)
  obtain ⟨T4, X4, e4, st4⟩ := getF X3 hx hZ hown (host := "") (Or.inl (tw hw 62 rfl)) Via.refl e3 (L0.FI 10 (by decide) rfl) (g := (mkF m 59 #[vR a1, vN (nd), vJ kh, .second, vJ kl, .second, vN (sv), vN (nd * 64), vI 1, vI 2, vI 1] [(.ref a1), (.long l1), (.long Y1), (.int (Int32.ofNat (sv))), (.long kl), (.long kh)])) rfl rfl (hb hby d14_59)
  obtain ⟨_, _, ⟨T5, L5, k5, n5⟩, -, X5, ⟨Lc5, hQ5, l5, y5, z5⟩, st5⟩ := Jvm.LawKit.callS X4 hx (y := (⟨"com/example/ebbtide/ebbtide/cluster/LoadTrees", "before", "(JJIJJI)Z"⟩ : MethodName)) hown (mvT hZ (tw hw 144 rfl)) (mvT hZ (tw hw 145 rfl)) (mvT hZ (tw hw 14 rfl)) (mvT hZ (tw hw 146 rfl)) (by decide) (backOf (W := 0) (rmBef l Z a0 hw [] kh kl (Int32.ofNat (sv)) Y1 l1 h0 n0 Z0 (own_neg1 hsv)) hZ (tw hw 146 rfl) (tw hw 14 rfl) (by decide) (by decide)) (g := (mkF m 68 #[vR a1, vN (nd), vJ kh, .second, vJ kl, .second, vN (sv), vN (nd * 64), vI 1, vI 2, vI 1] [(.int (-1 : Int32)), (.long l1), (.long Y1), (.int (Int32.ofNat (sv))), (.long kl), (.long kh)])) rfl (by rw [hml]; rfl) (argsL := [(.long kh), (.long kl), (.int (Int32.ofNat (sv))), (.long Y1), (.long l1), (.int (-1 : Int32))]) (rest := []) (lenOf pd__28JJIJJI_29Z rfl) rfl (by show 2 * 0 + _ ≤ _; exact Nat.le_of_eq rfl) (hb hby d14_68) (fun _ _ => ⟨rfl, e4, (by decide : 0 + 0 ≤ _), (by decide : 0 + 0 ≤ _)⟩)
  dsimp only [Pt.U, Pt.locs, Pt.cells, Pt.slots] at X5 l5 y5 z5 st5 hQ5
  subst l5 y5 z5
  obtain ⟨rfl, N5q, e5⟩ := hQ5
  have N5 := Fr.app N0 N5q
  obtain ⟨fs, hr, hrun, hended, hW, hsame⟩ := X5.leave (v := some (.int (0 : Int32))) (fun h => by rw [Bd.returns] at h; cases h)
  refine ⟨_, _, pre0 _ (?_), hrun, hended, _, _, rfl, ?_, ⟨_, rfl⟩, hW, hsame.mono (by decide) (by decide)⟩
  · show Steps p.tables e below (s₁.setTop (mkF m 0 #[vR a1, vN (nd), vJ kh, .second, vJ kl, .second, vN (sv), uu, uu, uu, uu] [])) _
    refine XS.iloadN X0.here hx rfl (hb hby d14_0) rfl ?_
    refine XS.bipush X0.here hx rfl (hb hby d14_1) ?_
    refine XS.imul X0.here hx rfl (hb hby d14_3) rfl ?_
    show Steps p.tables e below (s₁.setTop (mkF m 4 #[vR a1, vN (nd), vJ kh, .second, vJ kl, .second, vN (sv), uu, uu, uu, uu] [(.int ((Int32.ofNat (nd)) * (64 : Int32)))])) _
    rw [show (Int32.ofNat (nd)) * (64 : Int32) = Int32.ofNat (nd * 64) from own_nm (nd) (64)]
    show Steps p.tables e below (s₁.setTop (mkF m 4 #[vR a1, vN (nd), vJ kh, .second, vJ kl, .second, vN (sv), uu, uu, uu, uu] [(.int (Int32.ofNat (nd * 64)))])) _
    refine XS.istore X0.here hx rfl (hb hby d14_4) rfl (l' := #[vR a1, vN (nd), vJ kh, .second, vJ kl, .second, vN (sv), vN (nd * 64), uu, uu, uu]) rfl ?_
    refine XS.iconst X0.here hx rfl (hb hby d14_6) ?_
    refine XS.istore X0.here hx rfl (hb hby d14_7) rfl (l' := #[vR a1, vN (nd), vJ kh, .second, vJ kl, .second, vN (sv), vN (nd * 64), vI 1, uu, uu]) rfl ?_
    refine XS.aloadN X0.here hx rfl (hb hby d14_9) rfl rfl ?_
    refine st1 _ ?_
    refine XS.iloadN X1.here hx rfl (hb hby d14_13) rfl ?_
    refine own_ldIN X1 hx hZ e1 (L0.aI 11 (by decide)) (i := nd) (x := (2 : Int32)) (by omega) (congrArg Value.int (show (I 11 (nd)) = (2 : Int32) from Y11)) (g := (mkF m 14 #[vR a1, vN (nd), vJ kh, .second, vJ kl, .second, vN (sv), vN (nd * 64), vI 1, uu, uu] [(.int (Int32.ofNat (nd))), (.ref (A 11))])) rfl rfl (hb hby d14_14) _ ?_
    refine XS.istore X1.here hx rfl (hb hby d14_15) rfl (l' := #[vR a1, vN (nd), vJ kh, .second, vJ kl, .second, vN (sv), vN (nd * 64), vI 1, vI 2, uu]) rfl ?_
    refine XS.iload X1.here hx rfl (hb hby d14_17) rfl ?_
    refine XS.iload X1.here hx rfl (hb hby d14_19) rfl ?_
    refine XS.icmpNo X1.here hx rfl (hb hby d14_21) rfl (tlt (by decide : (1 : Int32) < (2 : Int32))).2.1 ?_
    refine XS.iload X1.here hx rfl (hb hby d14_24) rfl ?_
    show Steps p.tables e below (T1.setTop (mkF m 26 #[vR a1, vN (nd), vJ kh, .second, vJ kl, .second, vN (sv), vN (nd * 64), vI 1, vI 2, uu] [(.int (1 : Int32))])) _
    refine XS.iload X1.here hx rfl (hb hby d14_26) rfl ?_
    refine XS.iadd X1.here hx rfl (hb hby d14_28) rfl ?_
    refine XS.iconst X1.here hx rfl (hb hby d14_29) ?_
    refine XS.iushr X1.here hx rfl (hb hby d14_30) rfl ?_
    refine XS.istore X1.here hx rfl (hb hby d14_31) rfl (l' := #[vR a1, vN (nd), vJ kh, .second, vJ kl, .second, vN (sv), vN (nd * 64), vI 1, vI 2, vI 1]) rfl ?_
    refine XS.lloadN X1.here hx rfl (hb hby d14_33) rfl ?_
    refine XS.lload X1.here hx rfl (hb hby d14_34) rfl ?_
    refine XS.iload X1.here hx rfl (hb hby d14_36) rfl ?_
    refine XS.aloadN X1.here hx rfl (hb hby d14_38) rfl rfl ?_
    refine st2 _ ?_
    refine XS.iload X2.here hx rfl (hb hby d14_42) rfl ?_
    refine XS.iload X2.here hx rfl (hb hby d14_44) rfl ?_
    show Steps p.tables e below (T2.setTop (mkF m 46 #[vR a1, vN (nd), vJ kh, .second, vJ kl, .second, vN (sv), vN (nd * 64), vI 1, vI 2, vI 1] [(.int (1 : Int32)), (.int (Int32.ofNat (nd * 64))), (.ref (A 20)), (.int (Int32.ofNat (sv))), (.long kl), (.long kh)])) _
    refine XS.iadd X2.here hx rfl (hb hby d14_46) rfl ?_
    show Steps p.tables e below (T2.setTop (mkF m 47 #[vR a1, vN (nd), vJ kh, .second, vJ kl, .second, vN (sv), vN (nd * 64), vI 1, vI 2, vI 1] [(.int ((Int32.ofNat (nd * 64)) + (1 : Int32))), (.ref (A 20)), (.int (Int32.ofNat (sv))), (.long kl), (.long kh)])) _
    rw [show (Int32.ofNat (nd * 64)) + (1 : Int32) = Int32.ofNat (nd * 64 + 1) from own_na (nd * 64) (1)]
    show Steps p.tables e below (T2.setTop (mkF m 47 #[vR a1, vN (nd), vJ kh, .second, vJ kl, .second, vN (sv), vN (nd * 64), vI 1, vI 2, vI 1] [(.int (Int32.ofNat (nd * 64 + 1))), (.ref (A 20)), (.int (Int32.ofNat (sv))), (.long kl), (.long kh)])) _
    refine own_ldJN X2 hx hZ e2 (L0.aJ 20 (by decide) (by decide)) (i := nd * 64 + 1) (x := Y1) (by omega) (congrArg Value.long (show (J 20 (nd * 64 + 1)) = Y1 from Y20)) (g := (mkF m 47 #[vR a1, vN (nd), vJ kh, .second, vJ kl, .second, vN (sv), vN (nd * 64), vI 1, vI 2, vI 1] [(.int (Int32.ofNat (nd * 64 + 1))), (.ref (A 20)), (.int (Int32.ofNat (sv))), (.long kl), (.long kh)])) rfl rfl (hb hby d14_47) _ ?_
    refine XS.aloadN X2.here hx rfl (hb hby d14_48) rfl rfl ?_
    refine st3 _ ?_
    refine XS.iload X3.here hx rfl (hb hby d14_52) rfl ?_
    refine XS.iload X3.here hx rfl (hb hby d14_54) rfl ?_
    refine XS.iadd X3.here hx rfl (hb hby d14_56) rfl ?_
    show Steps p.tables e below (T3.setTop (mkF m 57 #[vR a1, vN (nd), vJ kh, .second, vJ kl, .second, vN (sv), vN (nd * 64), vI 1, vI 2, vI 1] [(.int ((Int32.ofNat (nd * 64)) + (1 : Int32))), (.ref (A 21)), (.long Y1), (.int (Int32.ofNat (sv))), (.long kl), (.long kh)])) _
    rw [show (Int32.ofNat (nd * 64)) + (1 : Int32) = Int32.ofNat (nd * 64 + 1) from own_na (nd * 64) (1)]
    show Steps p.tables e below (T3.setTop (mkF m 57 #[vR a1, vN (nd), vJ kh, .second, vJ kl, .second, vN (sv), vN (nd * 64), vI 1, vI 2, vI 1] [(.int (Int32.ofNat (nd * 64 + 1))), (.ref (A 21)), (.long Y1), (.int (Int32.ofNat (sv))), (.long kl), (.long kh)])) _
    refine own_ldJN X3 hx hZ e3 (L0.aJ 21 (by decide) (by decide)) (i := nd * 64 + 1) (x := l1) (by omega) (congrArg Value.long (show (J 21 (nd * 64 + 1)) = l1 from Y21)) (g := (mkF m 57 #[vR a1, vN (nd), vJ kh, .second, vJ kl, .second, vN (sv), vN (nd * 64), vI 1, vI 2, vI 1] [(.int (Int32.ofNat (nd * 64 + 1))), (.ref (A 21)), (.long Y1), (.int (Int32.ofNat (sv))), (.long kl), (.long kh)])) rfl rfl (hb hby d14_57) _ ?_
    refine XS.aloadN X3.here hx rfl (hb hby d14_58) rfl rfl ?_
    refine st4 _ ?_
    refine XS.iload X4.here hx rfl (hb hby d14_62) rfl ?_
    refine XS.iload X4.here hx rfl (hb hby d14_64) rfl ?_
    refine XS.iadd X4.here hx rfl (hb hby d14_66) rfl ?_
    show Steps p.tables e below (T4.setTop (mkF m 67 #[vR a1, vN (nd), vJ kh, .second, vJ kl, .second, vN (sv), vN (nd * 64), vI 1, vI 2, vI 1] [(.int ((Int32.ofNat (nd * 64)) + (1 : Int32))), (.ref (A 10)), (.long l1), (.long Y1), (.int (Int32.ofNat (sv))), (.long kl), (.long kh)])) _
    rw [show (Int32.ofNat (nd * 64)) + (1 : Int32) = Int32.ofNat (nd * 64 + 1) from own_na (nd * 64) (1)]
    show Steps p.tables e below (T4.setTop (mkF m 67 #[vR a1, vN (nd), vJ kh, .second, vJ kl, .second, vN (sv), vN (nd * 64), vI 1, vI 2, vI 1] [(.int (Int32.ofNat (nd * 64 + 1))), (.ref (A 10)), (.long l1), (.long Y1), (.int (Int32.ofNat (sv))), (.long kl), (.long kh)])) _
    refine own_ldIN X4 hx hZ e4 (L0.aI 10 (by decide)) (i := nd * 64 + 1) (x := (-1 : Int32)) (by omega) (congrArg Value.int (show (I 10 (nd * 64 + 1)) = (-1 : Int32) from Y10)) (g := (mkF m 67 #[vR a1, vN (nd), vJ kh, .second, vJ kl, .second, vN (sv), vN (nd * 64), vI 1, vI 2, vI 1] [(.int (Int32.ofNat (nd * 64 + 1))), (.ref (A 10)), (.long l1), (.long Y1), (.int (Int32.ofNat (sv))), (.long kl), (.long kh)])) rfl rfl (hb hby d14_67) _ ?_
    refine st5 _ ?_
    refine XS.ifNo X5.here hx rfl (hb hby d14_71) rfl ((if0 _ _).trans (feq (by rw [if_pos hk]; decide)).1) ?_
    refine XS.iload X5.here hx rfl (hb hby d14_74) rfl ?_
    refine XS.istore X5.here hx rfl (hb hby d14_76) rfl (l' := #[vR a1, vN (nd), vJ kh, .second, vJ kl, .second, vN (sv), vN (nd * 64), vI 1, vI 1, vI 1]) rfl ?_
    refine XS.goto X5.here hx rfl (pc0 := 78) (pc' := 87) rfl (hb hby d14_78) (by decide) (by decide) ?_
    refine XS.goto X5.here hx rfl (pc0 := 87) (pc' := 17) rfl (hb hby d14_87) (by decide) (by decide) ?_
    refine XS.iload X5.here hx rfl (hb hby d14_17) rfl ?_
    refine XS.iload X5.here hx rfl (hb hby d14_19) rfl ?_
    refine XS.icmpYes X5.here hx rfl (pc0 := 21) (pc' := 90) rfl (hb hby d14_21) rfl (flt (by decide : ¬ ((1 : Int32) < (1 : Int32)))).2.1 (by decide) (by decide) ?_
    refine XS.iload X5.here hx rfl (hb hby d14_90) rfl ?_
    refine XS.iconst X5.here hx rfl (hb hby d14_92) ?_
    show Steps p.tables e below (T5.setTop (mkF m 93 #[vR a1, vN (nd), vJ kh, .second, vJ kl, .second, vN (sv), vN (nd * 64), vI 1, vI 1, vI 1] [(.int (1 : Int32)), (.int (1 : Int32))])) _
    refine XS.isub X5.here hx rfl (hb hby d14_93) rfl ?_
    show Steps p.tables e below (T5.setTop (mkF m 94 #[vR a1, vN (nd), vJ kh, .second, vJ kl, .second, vN (sv), vN (nd * 64), vI 1, vI 1, vI 1] [(.int (0 : Int32))])) _
    exact retI X5 hx Bd.returns (hb hby d14_94) hr
  · show QrmSF2a Z a1 A N I J cc M B nb nd kh kl sv Y1 l1 h0 n0 _ T5.heap _
    rw [e5]
    exact ⟨rfl, N5, rfl⟩
theorem d14_81 : decode q3 81 = .ok (.iload 10, 2) := by decide +kernel
theorem d14_83 : decode q3 83 = .ok (.iconst 1, 1) := by decide +kernel
theorem d14_84 : decode q3 84 = .ok (.iadd, 1) := by decide +kernel
theorem d14_85 : decode q3 85 = .ok (.istore 8, 2) := by decide +kernel
theorem ef_rmSF2b (m : MethodId) (x0 : Addr) (x1 : Int32) (x2 : Int64) (x3 : Int64) (x4 : Int32) : entryFrame m #[(.ref x0), (.int x1), (.long x2), (.long x3), (.int x4)] 11 = mkF m 0 #[vR x0, .val (.int x1), vJ x2, .second, vJ x3, .second, .val (.int x4), uu, uu, uu, uu] [] := by first | (simp [entryFrame, mkF, argsToLocals, Value.category]; done) | rfl
def QrmSF2b (Z : State) (a1 : Addr) (A : Nat → Addr) (N : Nat → Nat) (I : Nat → Nat → Int32) (J : Nat → Nat → Int64) (cc : Nat → Int32) (M : Nat → Option Addr) (B : Nat → Nat → Int32) (nb nd : Nat) (kh kl : Int64) (sv : Nat) (Y1 l1 : Int64) (h0 : Heap) (n0 : Nat) (v : Option Value) (h : Heap) (L : List Loc) : Prop := v = some (.int (1 : Int32)) ∧ Fr n0 L ∧ h = h0
set_option maxRecDepth 65536 in
set_option maxHeartbeats 40000000 in
theorem rmSF2b (l : Launch) (Z : State) (a0 : Array Value) (hw : ∀ d ∈ tables_1, d.before a0 Z = true) (ws : List Jvm.Cond) (a1 : Addr) (A : Nat → Addr) (N : Nat → Nat) (I : Nat → Nat → Int32) (J : Nat → Nat → Int64) (cc : Nat → Int32) (M : Nat → Option Addr) (B : Nat → Nat → Int32) (nb nd : Nat) (kh kl : Int64) (sv : Nat) (Y1 l1 : Int64) (h0 : Heap) (n0 : Nat) (Z0 : n0 ≤ h0.size) (L0 : LT Z h0 n0 a1 A N I J cc M B) (hS : SZ N nb) (hnd : nd < nb) (hnb : nb < 1000) (Y11 : I 11 nd = (2 : Int32)) (Y20 : J 20 (nd * 64 + 1) = Y1) (Y21 : J 21 (nd * 64 + 1) = l1) (Y10 : I 10 (nd * 64 + 1) = (-1 : Int32)) (hsv : sv < 1000) (hk : ¬ own_k kh kl Y1 l1 < 0) :
    MetFree l (⟨"com/example/ebbtide/ebbtide/cluster/LoadTrees", "slotFor", "(IJJI)I"⟩ : MethodName) (head1 (Jvm.Cond.code (⟨"com/example/ebbtide/ebbtide/cluster/LoadTrees", "slotFor", "(IJJI)I"⟩ : MethodName) prog_74_method_14_code 11 (some .int) :: ws) ({ frames := 5, cells := 0, slots := 0, locals := 89 } : Room)) (fun a U => a = #[(.ref a1), (.int (Int32.ofNat (nd))), (.long kh), (.long kl), (.int (Int32.ofNat (sv)))] ∧ Z.Warmed39 U.vm ∧ U.heap = h0) (fun _ _ _ _ _ => True) (fun _ U o U' => ∃ v L, o = .returned v ∧ QrmSF2b Z a1 A N I J cc M B nb nd kh kl sv Y1 l1 h0 n0 v U'.heap L ∧ FrameEnd U o U' L ({ frames := 5, cells := 0, slots := 0, locals := 89 } : Room).cells ({ frames := 5, cells := 0, slots := 0, locals := 89 } : Room).slots) := by
  refine MetFree.of_bodySF (plainFor_of_name pn_com_example_ebbtide_ebbtide_cluster_LoadTrees) hisR ?_
  intro p e s m args below meth c s₁ Bd hml0 hP hK
  obtain ⟨rfl, hZ, hh⟩ := hP
  have hx := Bd.exec
  have hby := Bd.bytes
  have hml : c.maxLocals = 11 := hml0
  have hown : s.vm.findClass "com/example/ebbtide/ebbtide/cluster/LoadTrees" = some m.cls := findClass_of_methodNamed Bd.named
  have hnm := (name_of_methodNamed Bd.named Bd.method).1
  have X0 : Stand p l e ({ frames := 5, cells := 0, slots := 0, locals := 89 } : Room) s m #[(.ref a1), (.int (Int32.ofNat (nd))), (.long kh), (.long kl), (.int (Int32.ofNat (sv)))] below meth c s₁ [] 0 0 := Stand.of_body Bd
  have e0 : s₁.heap = h0 := by rw [← hh, Bd.state]; rfl
  have N0 := Fr.nil n0
  have pre0 : ∀ t, Steps p.tables e below (s₁.setTop (mkF m 0 #[vR a1, vN (nd), vJ kh, .second, vJ kl, .second, vN (sv), uu, uu, uu, uu] [])) t → Steps p.tables e below (s₁.setTop (entryFrame m #[(.ref a1), (.int (Int32.ofNat (nd))), (.long kh), (.long kl), (.int (Int32.ofNat (sv)))] 11)) t := fun t k => castTop (ef_rmSF2b m a1 (Int32.ofNat (nd)) kh kl (Int32.ofNat (sv))) k
  obtain ⟨S0, S1, S2, S3, S4, S5, S6, S7, S8, S9, S10, S11, S12, S13, S14, S15, S16, S17, S18, S19, S20, S21, S22⟩ := hS
  obtain ⟨T1, X1, e1, st1⟩ := getF X0 hx hZ hown (host := "") (Or.inl (tw hw 64 rfl)) Via.refl e0 (L0.FI 11 (by decide) rfl) (g := (mkF m 10 #[vR a1, vN (nd), vJ kh, .second, vJ kl, .second, vN (sv), vN (nd * 64), vI 1, uu, uu] [(.ref a1)])) rfl rfl (hb hby d14_10)
  obtain ⟨T2, X2, e2, st2⟩ := getF X1 hx hZ hown (host := "") (Or.inl (tw hw 58 rfl)) Via.refl e1 (L0.FJ 20 (by decide) (by decide) rfl) (g := (mkF m 39 #[vR a1, vN (nd), vJ kh, .second, vJ kl, .second, vN (sv), vN (nd * 64), vI 1, vI 2, vI 1] [(.ref a1), (.int (Int32.ofNat (sv))), (.long kl), (.long kh)])) rfl rfl (hb hby d14_39)
  obtain ⟨T3, X3, e3, st3⟩ := getF X2 hx hZ hown (host := "") (Or.inl (tw hw 60 rfl)) Via.refl e2 (L0.FJ 21 (by decide) (by decide) rfl) (g := (mkF m 49 #[vR a1, vN (nd), vJ kh, .second, vJ kl, .second, vN (sv), vN (nd * 64), vI 1, vI 2, vI 1] [(.ref a1), (.long Y1), (.int (Int32.ofNat (sv))), (.long kl), (.long kh)])) rfl rfl (hb hby d14_49)
  obtain ⟨T4, X4, e4, st4⟩ := getF X3 hx hZ hown (host := "") (Or.inl (tw hw 62 rfl)) Via.refl e3 (L0.FI 10 (by decide) rfl) (g := (mkF m 59 #[vR a1, vN (nd), vJ kh, .second, vJ kl, .second, vN (sv), vN (nd * 64), vI 1, vI 2, vI 1] [(.ref a1), (.long l1), (.long Y1), (.int (Int32.ofNat (sv))), (.long kl), (.long kh)])) rfl rfl (hb hby d14_59)
  obtain ⟨_, _, ⟨T5, L5, k5, n5⟩, -, X5, ⟨Lc5, hQ5, l5, y5, z5⟩, st5⟩ := Jvm.LawKit.callS X4 hx (y := (⟨"com/example/ebbtide/ebbtide/cluster/LoadTrees", "before", "(JJIJJI)Z"⟩ : MethodName)) hown (mvT hZ (tw hw 144 rfl)) (mvT hZ (tw hw 145 rfl)) (mvT hZ (tw hw 14 rfl)) (mvT hZ (tw hw 146 rfl)) (by decide) (backOf (W := 0) (rmBef l Z a0 hw [] kh kl (Int32.ofNat (sv)) Y1 l1 h0 n0 Z0 (own_neg1 hsv)) hZ (tw hw 146 rfl) (tw hw 14 rfl) (by decide) (by decide)) (g := (mkF m 68 #[vR a1, vN (nd), vJ kh, .second, vJ kl, .second, vN (sv), vN (nd * 64), vI 1, vI 2, vI 1] [(.int (-1 : Int32)), (.long l1), (.long Y1), (.int (Int32.ofNat (sv))), (.long kl), (.long kh)])) rfl (by rw [hml]; rfl) (argsL := [(.long kh), (.long kl), (.int (Int32.ofNat (sv))), (.long Y1), (.long l1), (.int (-1 : Int32))]) (rest := []) (lenOf pd__28JJIJJI_29Z rfl) rfl (by show 2 * 0 + _ ≤ _; exact Nat.le_of_eq rfl) (hb hby d14_68) (fun _ _ => ⟨rfl, e4, (by decide : 0 + 0 ≤ _), (by decide : 0 + 0 ≤ _)⟩)
  dsimp only [Pt.U, Pt.locs, Pt.cells, Pt.slots] at X5 l5 y5 z5 st5 hQ5
  subst l5 y5 z5
  obtain ⟨rfl, N5q, e5⟩ := hQ5
  have N5 := Fr.app N0 N5q
  obtain ⟨fs, hr, hrun, hended, hW, hsame⟩ := X5.leave (v := some (.int (1 : Int32))) (fun h => by rw [Bd.returns] at h; cases h)
  refine ⟨_, _, pre0 _ (?_), hrun, hended, _, _, rfl, ?_, ⟨_, rfl⟩, hW, hsame.mono (by decide) (by decide)⟩
  · show Steps p.tables e below (s₁.setTop (mkF m 0 #[vR a1, vN (nd), vJ kh, .second, vJ kl, .second, vN (sv), uu, uu, uu, uu] [])) _
    refine XS.iloadN X0.here hx rfl (hb hby d14_0) rfl ?_
    refine XS.bipush X0.here hx rfl (hb hby d14_1) ?_
    refine XS.imul X0.here hx rfl (hb hby d14_3) rfl ?_
    show Steps p.tables e below (s₁.setTop (mkF m 4 #[vR a1, vN (nd), vJ kh, .second, vJ kl, .second, vN (sv), uu, uu, uu, uu] [(.int ((Int32.ofNat (nd)) * (64 : Int32)))])) _
    rw [show (Int32.ofNat (nd)) * (64 : Int32) = Int32.ofNat (nd * 64) from own_nm (nd) (64)]
    show Steps p.tables e below (s₁.setTop (mkF m 4 #[vR a1, vN (nd), vJ kh, .second, vJ kl, .second, vN (sv), uu, uu, uu, uu] [(.int (Int32.ofNat (nd * 64)))])) _
    refine XS.istore X0.here hx rfl (hb hby d14_4) rfl (l' := #[vR a1, vN (nd), vJ kh, .second, vJ kl, .second, vN (sv), vN (nd * 64), uu, uu, uu]) rfl ?_
    refine XS.iconst X0.here hx rfl (hb hby d14_6) ?_
    refine XS.istore X0.here hx rfl (hb hby d14_7) rfl (l' := #[vR a1, vN (nd), vJ kh, .second, vJ kl, .second, vN (sv), vN (nd * 64), vI 1, uu, uu]) rfl ?_
    refine XS.aloadN X0.here hx rfl (hb hby d14_9) rfl rfl ?_
    refine st1 _ ?_
    refine XS.iloadN X1.here hx rfl (hb hby d14_13) rfl ?_
    refine own_ldIN X1 hx hZ e1 (L0.aI 11 (by decide)) (i := nd) (x := (2 : Int32)) (by omega) (congrArg Value.int (show (I 11 (nd)) = (2 : Int32) from Y11)) (g := (mkF m 14 #[vR a1, vN (nd), vJ kh, .second, vJ kl, .second, vN (sv), vN (nd * 64), vI 1, uu, uu] [(.int (Int32.ofNat (nd))), (.ref (A 11))])) rfl rfl (hb hby d14_14) _ ?_
    refine XS.istore X1.here hx rfl (hb hby d14_15) rfl (l' := #[vR a1, vN (nd), vJ kh, .second, vJ kl, .second, vN (sv), vN (nd * 64), vI 1, vI 2, uu]) rfl ?_
    refine XS.iload X1.here hx rfl (hb hby d14_17) rfl ?_
    refine XS.iload X1.here hx rfl (hb hby d14_19) rfl ?_
    refine XS.icmpNo X1.here hx rfl (hb hby d14_21) rfl (tlt (by decide : (1 : Int32) < (2 : Int32))).2.1 ?_
    refine XS.iload X1.here hx rfl (hb hby d14_24) rfl ?_
    show Steps p.tables e below (T1.setTop (mkF m 26 #[vR a1, vN (nd), vJ kh, .second, vJ kl, .second, vN (sv), vN (nd * 64), vI 1, vI 2, uu] [(.int (1 : Int32))])) _
    refine XS.iload X1.here hx rfl (hb hby d14_26) rfl ?_
    refine XS.iadd X1.here hx rfl (hb hby d14_28) rfl ?_
    refine XS.iconst X1.here hx rfl (hb hby d14_29) ?_
    refine XS.iushr X1.here hx rfl (hb hby d14_30) rfl ?_
    refine XS.istore X1.here hx rfl (hb hby d14_31) rfl (l' := #[vR a1, vN (nd), vJ kh, .second, vJ kl, .second, vN (sv), vN (nd * 64), vI 1, vI 2, vI 1]) rfl ?_
    refine XS.lloadN X1.here hx rfl (hb hby d14_33) rfl ?_
    refine XS.lload X1.here hx rfl (hb hby d14_34) rfl ?_
    refine XS.iload X1.here hx rfl (hb hby d14_36) rfl ?_
    refine XS.aloadN X1.here hx rfl (hb hby d14_38) rfl rfl ?_
    refine st2 _ ?_
    refine XS.iload X2.here hx rfl (hb hby d14_42) rfl ?_
    refine XS.iload X2.here hx rfl (hb hby d14_44) rfl ?_
    show Steps p.tables e below (T2.setTop (mkF m 46 #[vR a1, vN (nd), vJ kh, .second, vJ kl, .second, vN (sv), vN (nd * 64), vI 1, vI 2, vI 1] [(.int (1 : Int32)), (.int (Int32.ofNat (nd * 64))), (.ref (A 20)), (.int (Int32.ofNat (sv))), (.long kl), (.long kh)])) _
    refine XS.iadd X2.here hx rfl (hb hby d14_46) rfl ?_
    show Steps p.tables e below (T2.setTop (mkF m 47 #[vR a1, vN (nd), vJ kh, .second, vJ kl, .second, vN (sv), vN (nd * 64), vI 1, vI 2, vI 1] [(.int ((Int32.ofNat (nd * 64)) + (1 : Int32))), (.ref (A 20)), (.int (Int32.ofNat (sv))), (.long kl), (.long kh)])) _
    rw [show (Int32.ofNat (nd * 64)) + (1 : Int32) = Int32.ofNat (nd * 64 + 1) from own_na (nd * 64) (1)]
    show Steps p.tables e below (T2.setTop (mkF m 47 #[vR a1, vN (nd), vJ kh, .second, vJ kl, .second, vN (sv), vN (nd * 64), vI 1, vI 2, vI 1] [(.int (Int32.ofNat (nd * 64 + 1))), (.ref (A 20)), (.int (Int32.ofNat (sv))), (.long kl), (.long kh)])) _
    refine own_ldJN X2 hx hZ e2 (L0.aJ 20 (by decide) (by decide)) (i := nd * 64 + 1) (x := Y1) (by omega) (congrArg Value.long (show (J 20 (nd * 64 + 1)) = Y1 from Y20)) (g := (mkF m 47 #[vR a1, vN (nd), vJ kh, .second, vJ kl, .second, vN (sv), vN (nd * 64), vI 1, vI 2, vI 1] [(.int (Int32.ofNat (nd * 64 + 1))), (.ref (A 20)), (.int (Int32.ofNat (sv))), (.long kl), (.long kh)])) rfl rfl (hb hby d14_47) _ ?_
    refine XS.aloadN X2.here hx rfl (hb hby d14_48) rfl rfl ?_
    refine st3 _ ?_
    refine XS.iload X3.here hx rfl (hb hby d14_52) rfl ?_
    refine XS.iload X3.here hx rfl (hb hby d14_54) rfl ?_
    refine XS.iadd X3.here hx rfl (hb hby d14_56) rfl ?_
    show Steps p.tables e below (T3.setTop (mkF m 57 #[vR a1, vN (nd), vJ kh, .second, vJ kl, .second, vN (sv), vN (nd * 64), vI 1, vI 2, vI 1] [(.int ((Int32.ofNat (nd * 64)) + (1 : Int32))), (.ref (A 21)), (.long Y1), (.int (Int32.ofNat (sv))), (.long kl), (.long kh)])) _
    rw [show (Int32.ofNat (nd * 64)) + (1 : Int32) = Int32.ofNat (nd * 64 + 1) from own_na (nd * 64) (1)]
    show Steps p.tables e below (T3.setTop (mkF m 57 #[vR a1, vN (nd), vJ kh, .second, vJ kl, .second, vN (sv), vN (nd * 64), vI 1, vI 2, vI 1] [(.int (Int32.ofNat (nd * 64 + 1))), (.ref (A 21)), (.long Y1), (.int (Int32.ofNat (sv))), (.long kl), (.long kh)])) _
    refine own_ldJN X3 hx hZ e3 (L0.aJ 21 (by decide) (by decide)) (i := nd * 64 + 1) (x := l1) (by omega) (congrArg Value.long (show (J 21 (nd * 64 + 1)) = l1 from Y21)) (g := (mkF m 57 #[vR a1, vN (nd), vJ kh, .second, vJ kl, .second, vN (sv), vN (nd * 64), vI 1, vI 2, vI 1] [(.int (Int32.ofNat (nd * 64 + 1))), (.ref (A 21)), (.long Y1), (.int (Int32.ofNat (sv))), (.long kl), (.long kh)])) rfl rfl (hb hby d14_57) _ ?_
    refine XS.aloadN X3.here hx rfl (hb hby d14_58) rfl rfl ?_
    refine st4 _ ?_
    refine XS.iload X4.here hx rfl (hb hby d14_62) rfl ?_
    refine XS.iload X4.here hx rfl (hb hby d14_64) rfl ?_
    refine XS.iadd X4.here hx rfl (hb hby d14_66) rfl ?_
    show Steps p.tables e below (T4.setTop (mkF m 67 #[vR a1, vN (nd), vJ kh, .second, vJ kl, .second, vN (sv), vN (nd * 64), vI 1, vI 2, vI 1] [(.int ((Int32.ofNat (nd * 64)) + (1 : Int32))), (.ref (A 10)), (.long l1), (.long Y1), (.int (Int32.ofNat (sv))), (.long kl), (.long kh)])) _
    rw [show (Int32.ofNat (nd * 64)) + (1 : Int32) = Int32.ofNat (nd * 64 + 1) from own_na (nd * 64) (1)]
    show Steps p.tables e below (T4.setTop (mkF m 67 #[vR a1, vN (nd), vJ kh, .second, vJ kl, .second, vN (sv), vN (nd * 64), vI 1, vI 2, vI 1] [(.int (Int32.ofNat (nd * 64 + 1))), (.ref (A 10)), (.long l1), (.long Y1), (.int (Int32.ofNat (sv))), (.long kl), (.long kh)])) _
    refine own_ldIN X4 hx hZ e4 (L0.aI 10 (by decide)) (i := nd * 64 + 1) (x := (-1 : Int32)) (by omega) (congrArg Value.int (show (I 10 (nd * 64 + 1)) = (-1 : Int32) from Y10)) (g := (mkF m 67 #[vR a1, vN (nd), vJ kh, .second, vJ kl, .second, vN (sv), vN (nd * 64), vI 1, vI 2, vI 1] [(.int (Int32.ofNat (nd * 64 + 1))), (.ref (A 10)), (.long l1), (.long Y1), (.int (Int32.ofNat (sv))), (.long kl), (.long kh)])) rfl rfl (hb hby d14_67) _ ?_
    refine st5 _ ?_
    refine XS.ifYes X5.here hx rfl (pc0 := 71) (pc' := 81) rfl (hb hby d14_71) rfl ((if0 _ _).trans (teq (by rw [if_neg hk])).1) (by decide) (by decide) ?_
    refine XS.iload X5.here hx rfl (hb hby d14_81) rfl ?_
    refine XS.iconst X5.here hx rfl (hb hby d14_83) ?_
    refine XS.iadd X5.here hx rfl (hb hby d14_84) rfl ?_
    refine XS.istore X5.here hx rfl (hb hby d14_85) rfl (l' := #[vR a1, vN (nd), vJ kh, .second, vJ kl, .second, vN (sv), vN (nd * 64), vI 2, vI 2, vI 1]) rfl ?_
    refine XS.goto X5.here hx rfl (pc0 := 87) (pc' := 17) rfl (hb hby d14_87) (by decide) (by decide) ?_
    refine XS.iload X5.here hx rfl (hb hby d14_17) rfl ?_
    refine XS.iload X5.here hx rfl (hb hby d14_19) rfl ?_
    refine XS.icmpYes X5.here hx rfl (pc0 := 21) (pc' := 90) rfl (hb hby d14_21) rfl (flt (by decide : ¬ ((2 : Int32) < (2 : Int32)))).2.1 (by decide) (by decide) ?_
    refine XS.iload X5.here hx rfl (hb hby d14_90) rfl ?_
    show Steps p.tables e below (T5.setTop (mkF m 92 #[vR a1, vN (nd), vJ kh, .second, vJ kl, .second, vN (sv), vN (nd * 64), vI 2, vI 2, vI 1] [(.int (2 : Int32))])) _
    refine XS.iconst X5.here hx rfl (hb hby d14_92) ?_
    refine XS.isub X5.here hx rfl (hb hby d14_93) rfl ?_
    show Steps p.tables e below (T5.setTop (mkF m 94 #[vR a1, vN (nd), vJ kh, .second, vJ kl, .second, vN (sv), vN (nd * 64), vI 2, vI 2, vI 1] [(.int (1 : Int32))])) _
    exact retI X5 hx Bd.returns (hb hby d14_94) hr
  · show QrmSF2b Z a1 A N I J cc M B nb nd kh kl sv Y1 l1 h0 n0 _ T5.heap _
    rw [e5]
    exact ⟨rfl, N5, rfl⟩
theorem d20_0 : decode q4 0 = .ok (.aload_n 0, 1) := by decide +kernel
theorem d20_1 : decode q4 1 = .ok (.getfield 46, 3) := by decide +kernel
theorem d20_4 : decode q4 4 = .ok (.iload_n 1, 1) := by decide +kernel
theorem d20_5 : decode q4 5 = .ok (.iaload, 1) := by decide +kernel
theorem d20_6 : decode q4 6 = .ok (.istore_n 2, 1) := by decide +kernel
theorem d20_7 : decode q4 7 = .ok (.aload_n 0, 1) := by decide +kernel
theorem d20_8 : decode q4 8 = .ok (.getfield 43, 3) := by decide +kernel
theorem d20_11 : decode q4 11 = .ok (.iload_n 1, 1) := by decide +kernel
theorem d20_12 : decode q4 12 = .ok (.iaload, 1) := by decide +kernel
theorem d20_13 : decode q4 13 = .ok (.istore_n 3, 1) := by decide +kernel
theorem d20_14 : decode q4 14 = .ok (.iconst 1, 1) := by decide +kernel
theorem d20_15 : decode q4 15 = .ok (.istore 4, 2) := by decide +kernel
theorem d20_17 : decode q4 17 = .ok (.iload_n 2, 1) := by decide +kernel
theorem d20_18 : decode q4 18 = .ok (.aload_n 0, 1) := by decide +kernel
theorem d20_19 : decode q4 19 = .ok (.getfield 73, 3) := by decide +kernel
theorem d20_22 : decode q4 22 = .ok (.iload_n 3, 1) := by decide +kernel
theorem d20_23 : decode q4 23 = .ok (.iaload, 1) := by decide +kernel
theorem d20_24 : decode q4 24 = .ok (.iconst 1, 1) := by decide +kernel
theorem d20_25 : decode q4 25 = .ok (.isub, 1) := by decide +kernel
theorem d20_26 : decode q4 26 = .ok (.if_icmp .ne 34, 3) := by decide +kernel
theorem d20_29 : decode q4 29 = .ok (.aload_n 0, 1) := by decide +kernel
theorem d20_30 : decode q4 30 = .ok (.getfield 79, 3) := by decide +kernel
theorem d20_33 : decode q4 33 = .ok (.iload_n 3, 1) := by decide +kernel
theorem d20_34 : decode q4 34 = .ok (.iaload, 1) := by decide +kernel
theorem d20_35 : decode q4 35 = .ok (.ifCond .ge 5, 3) := by decide +kernel
theorem d20_38 : decode q4 38 = .ok (.iconst (-1), 1) := by decide +kernel
theorem d20_39 : decode q4 39 = .ok (.ireturn, 1) := by decide +kernel
theorem ef_rmNXe (m : MethodId) (x0 : Addr) (x1 : Int32) : entryFrame m #[(.ref x0), (.int x1)] 6 = mkF m 0 #[vR x0, .val (.int x1), uu, uu, uu, uu] [] := by first | (simp [entryFrame, mkF, argsToLocals, Value.category]; done) | rfl
def QrmNXe (Z : State) (a1 : Addr) (A : Nat → Addr) (N : Nat → Nat) (I : Nat → Nat → Int32) (J : Nat → Nat → Int64) (cc : Nat → Int32) (M : Nat → Option Addr) (B : Nat → Nat → Int32) (nb nd lf s1 n : Nat) (h0 : Heap) (n0 : Nat) (v : Option Value) (h : Heap) (L : List Loc) : Prop := v = some (.int (-1 : Int32)) ∧ Fr n0 L ∧ h = h0
set_option maxRecDepth 65536 in
set_option maxHeartbeats 40000000 in
theorem rmNXe (l : Launch) (Z : State) (a0 : Array Value) (hw : ∀ d ∈ tables_1, d.before a0 Z = true) (ws : List Jvm.Cond) (a1 : Addr) (A : Nat → Addr) (N : Nat → Nat) (I : Nat → Nat → Int32) (J : Nat → Nat → Int64) (cc : Nat → Int32) (M : Nat → Option Addr) (B : Nat → Nat → Int32) (nb nd lf s1 n : Nat) (h0 : Heap) (n0 : Nat) (Z0 : n0 ≤ h0.size) (L0 : LT Z h0 n0 a1 A N I J cc M B) (hS : SZ N nb) (hnd : nd < nb) (hnb : nb < 1000) (hlf : lf < 4) (Y5 : I 5 lf = Int32.ofNat s1) (Y4 : I 4 lf = Int32.ofNat nd) (Y11 : I 11 nd = Int32.ofNat n) (hn : n < 60) (hs1 : s1 + 1 = n) (Y13 : I 13 nd = (-1 : Int32)) :
    MetFree l (⟨"com/example/ebbtide/ebbtide/cluster/LoadTrees", "nextLeaf", "(I)I"⟩ : MethodName) (head1 (Jvm.Cond.code (⟨"com/example/ebbtide/ebbtide/cluster/LoadTrees", "nextLeaf", "(I)I"⟩ : MethodName) prog_74_method_15_code 6 (some .int) :: ws) ({ frames := 0, cells := 0, slots := 0, locals := 0 } : Room)) (fun a U => a = #[(.ref a1), (.int (Int32.ofNat (lf)))] ∧ Z.Warmed39 U.vm ∧ U.heap = h0) (fun _ _ _ _ _ => True) (fun _ U o U' => ∃ v L, o = .returned v ∧ QrmNXe Z a1 A N I J cc M B nb nd lf s1 n h0 n0 v U'.heap L ∧ FrameEnd U o U' L ({ frames := 0, cells := 0, slots := 0, locals := 0 } : Room).cells ({ frames := 0, cells := 0, slots := 0, locals := 0 } : Room).slots) := by
  refine MetFree.of_bodySF (plainFor_of_name pn_com_example_ebbtide_ebbtide_cluster_LoadTrees) hisR ?_
  intro p e s m args below meth c s₁ Bd hml0 hP hK
  obtain ⟨rfl, hZ, hh⟩ := hP
  have hx := Bd.exec
  have hby := Bd.bytes
  have hml : c.maxLocals = 6 := hml0
  have hown : s.vm.findClass "com/example/ebbtide/ebbtide/cluster/LoadTrees" = some m.cls := findClass_of_methodNamed Bd.named
  have hnm := (name_of_methodNamed Bd.named Bd.method).1
  have X0 : Stand p l e ({ frames := 0, cells := 0, slots := 0, locals := 0 } : Room) s m #[(.ref a1), (.int (Int32.ofNat (lf)))] below meth c s₁ [] 0 0 := Stand.of_body Bd
  have e0 : s₁.heap = h0 := by rw [← hh, Bd.state]; rfl
  have N0 := Fr.nil n0
  have pre0 : ∀ t, Steps p.tables e below (s₁.setTop (mkF m 0 #[vR a1, vN (lf), uu, uu, uu, uu] [])) t → Steps p.tables e below (s₁.setTop (entryFrame m #[(.ref a1), (.int (Int32.ofNat (lf)))] 6)) t := fun t k => castTop (ef_rmNXe m a1 (Int32.ofNat (lf))) k
  obtain ⟨S0, S1, S2, S3, S4, S5, S6, S7, S8, S9, S10, S11, S12, S13, S14, S15, S16, S17, S18, S19, S20, S21, S22⟩ := hS
  obtain ⟨T1, X1, e1, st1⟩ := getF X0 hx hZ hown (host := "") (Or.inl (tw hw 46 rfl)) Via.refl e0 (L0.FI 5 (by decide) rfl) (g := (mkF m 1 #[vR a1, vN (lf), uu, uu, uu, uu] [(.ref a1)])) rfl rfl (hb hby d20_1)
  obtain ⟨T2, X2, e2, st2⟩ := getF X1 hx hZ hown (host := "") (Or.inl (tw hw 44 rfl)) Via.refl e1 (L0.FI 4 (by decide) rfl) (g := (mkF m 8 #[vR a1, vN (lf), vN (s1), uu, uu, uu] [(.ref a1)])) rfl rfl (hb hby d20_8)
  obtain ⟨T3, X3, e3, st3⟩ := getF X2 hx hZ hown (host := "") (Or.inl (tw hw 64 rfl)) Via.refl e2 (L0.FI 11 (by decide) rfl) (g := (mkF m 19 #[vR a1, vN (lf), vN (s1), vN (nd), vI 1, uu] [(.ref a1), (.int (Int32.ofNat (s1)))])) rfl rfl (hb hby d20_19)
  obtain ⟨T4, X4, e4, st4⟩ := getF X3 hx hZ hown (host := "") (Or.inl (tw hw 68 rfl)) Via.refl e3 (L0.FI 13 (by decide) rfl) (g := (mkF m 30 #[vR a1, vN (lf), vN (s1), vN (nd), vI 1, uu] [(.ref a1)])) rfl rfl (hb hby d20_30)
  obtain ⟨fs, hr, hrun, hended, hW, hsame⟩ := X4.leave (v := some (.int (-1 : Int32))) (fun h => by rw [Bd.returns] at h; cases h)
  refine ⟨_, _, pre0 _ (?_), hrun, hended, _, _, rfl, ?_, ⟨_, rfl⟩, hW, hsame.mono (by decide) (by decide)⟩
  · show Steps p.tables e below (s₁.setTop (mkF m 0 #[vR a1, vN (lf), uu, uu, uu, uu] [])) _
    refine XS.aloadN X0.here hx rfl (hb hby d20_0) rfl rfl ?_
    refine st1 _ ?_
    refine XS.iloadN X1.here hx rfl (hb hby d20_4) rfl ?_
    refine own_ldIN X1 hx hZ e1 (L0.aI 5 (by decide)) (i := lf) (x := (Int32.ofNat (s1))) (by omega) (congrArg Value.int (show (I 5 (lf)) = (Int32.ofNat (s1)) from Y5)) (g := (mkF m 5 #[vR a1, vN (lf), uu, uu, uu, uu] [(.int (Int32.ofNat (lf))), (.ref (A 5))])) rfl rfl (hb hby d20_5) _ ?_
    refine XS.istoreN X1.here hx rfl (hb hby d20_6) rfl (l' := #[vR a1, vN (lf), vN (s1), uu, uu, uu]) rfl ?_
    refine XS.aloadN X1.here hx rfl (hb hby d20_7) rfl rfl ?_
    refine st2 _ ?_
    refine XS.iloadN X2.here hx rfl (hb hby d20_11) rfl ?_
    refine own_ldIN X2 hx hZ e2 (L0.aI 4 (by decide)) (i := lf) (x := (Int32.ofNat (nd))) (by omega) (congrArg Value.int (show (I 4 (lf)) = (Int32.ofNat (nd)) from Y4)) (g := (mkF m 12 #[vR a1, vN (lf), vN (s1), uu, uu, uu] [(.int (Int32.ofNat (lf))), (.ref (A 4))])) rfl rfl (hb hby d20_12) _ ?_
    refine XS.istoreN X2.here hx rfl (hb hby d20_13) rfl (l' := #[vR a1, vN (lf), vN (s1), vN (nd), uu, uu]) rfl ?_
    refine XS.iconst X2.here hx rfl (hb hby d20_14) ?_
    refine XS.istore X2.here hx rfl (hb hby d20_15) rfl (l' := #[vR a1, vN (lf), vN (s1), vN (nd), vI 1, uu]) rfl ?_
    show Steps p.tables e below (T2.setTop (mkF m 17 #[vR a1, vN (lf), vN (s1), vN (nd), vI 1, uu] [])) _
    refine XS.iloadN X2.here hx rfl (hb hby d20_17) rfl ?_
    refine XS.aloadN X2.here hx rfl (hb hby d20_18) rfl rfl ?_
    refine st3 _ ?_
    refine XS.iloadN X3.here hx rfl (hb hby d20_22) rfl ?_
    refine own_ldIN X3 hx hZ e3 (L0.aI 11 (by decide)) (i := nd) (x := (Int32.ofNat (n))) (by omega) (congrArg Value.int (show (I 11 (nd)) = (Int32.ofNat (n)) from Y11)) (g := (mkF m 23 #[vR a1, vN (lf), vN (s1), vN (nd), vI 1, uu] [(.int (Int32.ofNat (nd))), (.ref (A 11)), (.int (Int32.ofNat (s1)))])) rfl rfl (hb hby d20_23) _ ?_
    refine XS.iconst X3.here hx rfl (hb hby d20_24) ?_
    refine XS.isub X3.here hx rfl (hb hby d20_25) rfl ?_
    show Steps p.tables e below (T3.setTop (mkF m 26 #[vR a1, vN (lf), vN (s1), vN (nd), vI 1, uu] [(.int ((Int32.ofNat (n)) - (1 : Int32))), (.int (Int32.ofNat (s1)))])) _
    rw [show (Int32.ofNat (n)) - (1 : Int32) = Int32.ofNat (n - 1) from own_ns (a := n) (b := 1) (by omega)]
    show Steps p.tables e below (T3.setTop (mkF m 26 #[vR a1, vN (lf), vN (s1), vN (nd), vI 1, uu] [(.int (Int32.ofNat (n - 1))), (.int (Int32.ofNat (s1)))])) _
    refine XS.icmpNo X3.here hx rfl (hb hby d20_26) rfl (teq (congrArg Int32.ofNat (by omega : s1 = n - 1) : (Int32.ofNat (s1)) = (Int32.ofNat (n - 1)))).2 ?_
    refine XS.aloadN X3.here hx rfl (hb hby d20_29) rfl rfl ?_
    refine st4 _ ?_
    refine XS.iloadN X4.here hx rfl (hb hby d20_33) rfl ?_
    refine own_ldIN X4 hx hZ e4 (L0.aI 13 (by decide)) (i := nd) (x := (-1 : Int32)) (by omega) (congrArg Value.int (show (I 13 (nd)) = (-1 : Int32) from Y13)) (g := (mkF m 34 #[vR a1, vN (lf), vN (s1), vN (nd), vI 1, uu] [(.int (Int32.ofNat (nd))), (.ref (A 13))])) rfl rfl (hb hby d20_34) _ ?_
    refine XS.ifNo X4.here hx rfl (hb hby d20_35) rfl ((if0 _ _).trans (tlt (by decide : (-1 : Int32) < (0 : Int32))).2.1) ?_
    refine XS.iconst X4.here hx rfl (hb hby d20_38) ?_
    show Steps p.tables e below (T4.setTop (mkF m 39 #[vR a1, vN (lf), vN (s1), vN (nd), vI 1, uu] [(.int (-1 : Int32))])) _
    exact retI X4 hx Bd.returns (hb hby d20_39) hr
  · show QrmNXe Z a1 A N I J cc M B nb nd lf s1 n h0 n0 _ T4.heap _
    rw [e4]
    exact ⟨rfl, N0, rfl⟩
theorem d20_60 : decode q4 60 = .ok (.aload_n 0, 1) := by decide +kernel
theorem d20_61 : decode q4 61 = .ok (.getfield 52, 3) := by decide +kernel
theorem d20_64 : decode q4 64 = .ok (.iload_n 3, 1) := by decide +kernel
theorem d20_65 : decode q4 65 = .ok (.bipush 64, 2) := by decide +kernel
theorem d20_67 : decode q4 67 = .ok (.imul, 1) := by decide +kernel
theorem d20_68 : decode q4 68 = .ok (.iload_n 2, 1) := by decide +kernel
theorem d20_69 : decode q4 69 = .ok (.iadd, 1) := by decide +kernel
theorem d20_70 : decode q4 70 = .ok (.iconst 1, 1) := by decide +kernel
theorem d20_71 : decode q4 71 = .ok (.iadd, 1) := by decide +kernel
theorem d20_72 : decode q4 72 = .ok (.iaload, 1) := by decide +kernel
theorem d20_73 : decode q4 73 = .ok (.istore 5, 2) := by decide +kernel
theorem d20_75 : decode q4 75 = .ok (.iload 4, 2) := by decide +kernel
theorem d20_77 : decode q4 77 = .ok (.iconst 1, 1) := by decide +kernel
theorem d20_78 : decode q4 78 = .ok (.if_icmp .le 21, 3) := by decide +kernel
theorem d20_99 : decode q4 99 = .ok (.iload 5, 2) := by decide +kernel
theorem d20_101 : decode q4 101 = .ok (.ireturn, 1) := by decide +kernel
theorem ef_rmNXn (m : MethodId) (x0 : Addr) (x1 : Int32) : entryFrame m #[(.ref x0), (.int x1)] 6 = mkF m 0 #[vR x0, .val (.int x1), uu, uu, uu, uu] [] := by first | (simp [entryFrame, mkF, argsToLocals, Value.category]; done) | rfl
def QrmNXn (Z : State) (a1 : Addr) (A : Nat → Addr) (N : Nat → Nat) (I : Nat → Nat → Int32) (J : Nat → Nat → Int64) (cc : Nat → Int32) (M : Nat → Option Addr) (B : Nat → Nat → Int32) (nb nd lf s1 n : Nat) (c2 : Nat) (h0 : Heap) (n0 : Nat) (v : Option Value) (h : Heap) (L : List Loc) : Prop := v = some (.int (Int32.ofNat c2)) ∧ Fr n0 L ∧ h = h0
set_option maxRecDepth 65536 in
set_option maxHeartbeats 40000000 in
theorem rmNXn (l : Launch) (Z : State) (a0 : Array Value) (hw : ∀ d ∈ tables_1, d.before a0 Z = true) (ws : List Jvm.Cond) (a1 : Addr) (A : Nat → Addr) (N : Nat → Nat) (I : Nat → Nat → Int32) (J : Nat → Nat → Int64) (cc : Nat → Int32) (M : Nat → Option Addr) (B : Nat → Nat → Int32) (nb nd lf s1 n : Nat) (c2 : Nat) (h0 : Heap) (n0 : Nat) (Z0 : n0 ≤ h0.size) (L0 : LT Z h0 n0 a1 A N I J cc M B) (hS : SZ N nb) (hnd : nd < nb) (hnb : nb < 1000) (hlf : lf < 4) (Y5 : I 5 lf = Int32.ofNat s1) (Y4 : I 4 lf = Int32.ofNat nd) (Y11 : I 11 nd = Int32.ofNat n) (hn : n < 60) (hs1 : s1 + 1 < n) (Y7 : I 7 (nd * 64 + s1 + 1) = Int32.ofNat c2) :
    MetFree l (⟨"com/example/ebbtide/ebbtide/cluster/LoadTrees", "nextLeaf", "(I)I"⟩ : MethodName) (head1 (Jvm.Cond.code (⟨"com/example/ebbtide/ebbtide/cluster/LoadTrees", "nextLeaf", "(I)I"⟩ : MethodName) prog_74_method_15_code 6 (some .int) :: ws) ({ frames := 0, cells := 0, slots := 0, locals := 0 } : Room)) (fun a U => a = #[(.ref a1), (.int (Int32.ofNat (lf)))] ∧ Z.Warmed39 U.vm ∧ U.heap = h0) (fun _ _ _ _ _ => True) (fun _ U o U' => ∃ v L, o = .returned v ∧ QrmNXn Z a1 A N I J cc M B nb nd lf s1 n c2 h0 n0 v U'.heap L ∧ FrameEnd U o U' L ({ frames := 0, cells := 0, slots := 0, locals := 0 } : Room).cells ({ frames := 0, cells := 0, slots := 0, locals := 0 } : Room).slots) := by
  refine MetFree.of_bodySF (plainFor_of_name pn_com_example_ebbtide_ebbtide_cluster_LoadTrees) hisR ?_
  intro p e s m args below meth c s₁ Bd hml0 hP hK
  obtain ⟨rfl, hZ, hh⟩ := hP
  have hx := Bd.exec
  have hby := Bd.bytes
  have hml : c.maxLocals = 6 := hml0
  have hown : s.vm.findClass "com/example/ebbtide/ebbtide/cluster/LoadTrees" = some m.cls := findClass_of_methodNamed Bd.named
  have hnm := (name_of_methodNamed Bd.named Bd.method).1
  have X0 : Stand p l e ({ frames := 0, cells := 0, slots := 0, locals := 0 } : Room) s m #[(.ref a1), (.int (Int32.ofNat (lf)))] below meth c s₁ [] 0 0 := Stand.of_body Bd
  have e0 : s₁.heap = h0 := by rw [← hh, Bd.state]; rfl
  have N0 := Fr.nil n0
  have pre0 : ∀ t, Steps p.tables e below (s₁.setTop (mkF m 0 #[vR a1, vN (lf), uu, uu, uu, uu] [])) t → Steps p.tables e below (s₁.setTop (entryFrame m #[(.ref a1), (.int (Int32.ofNat (lf)))] 6)) t := fun t k => castTop (ef_rmNXn m a1 (Int32.ofNat (lf))) k
  obtain ⟨S0, S1, S2, S3, S4, S5, S6, S7, S8, S9, S10, S11, S12, S13, S14, S15, S16, S17, S18, S19, S20, S21, S22⟩ := hS
  obtain ⟨T1, X1, e1, st1⟩ := getF X0 hx hZ hown (host := "") (Or.inl (tw hw 46 rfl)) Via.refl e0 (L0.FI 5 (by decide) rfl) (g := (mkF m 1 #[vR a1, vN (lf), uu, uu, uu, uu] [(.ref a1)])) rfl rfl (hb hby d20_1)
  obtain ⟨T2, X2, e2, st2⟩ := getF X1 hx hZ hown (host := "") (Or.inl (tw hw 44 rfl)) Via.refl e1 (L0.FI 4 (by decide) rfl) (g := (mkF m 8 #[vR a1, vN (lf), vN (s1), uu, uu, uu] [(.ref a1)])) rfl rfl (hb hby d20_8)
  obtain ⟨T3, X3, e3, st3⟩ := getF X2 hx hZ hown (host := "") (Or.inl (tw hw 64 rfl)) Via.refl e2 (L0.FI 11 (by decide) rfl) (g := (mkF m 19 #[vR a1, vN (lf), vN (s1), vN (nd), vI 1, uu] [(.ref a1), (.int (Int32.ofNat (s1)))])) rfl rfl (hb hby d20_19)
  obtain ⟨T4, X4, e4, st4⟩ := getF X3 hx hZ hown (host := "") (Or.inl (tw hw 50 rfl)) Via.refl e3 (L0.FI 7 (by decide) rfl) (g := (mkF m 61 #[vR a1, vN (lf), vN (s1), vN (nd), vI 1, uu] [(.ref a1)])) rfl rfl (hb hby d20_61)
  obtain ⟨fs, hr, hrun, hended, hW, hsame⟩ := X4.leave (v := some (.int (Int32.ofNat (c2)))) (fun h => by rw [Bd.returns] at h; cases h)
  refine ⟨_, _, pre0 _ (?_), hrun, hended, _, _, rfl, ?_, ⟨_, rfl⟩, hW, hsame.mono (by decide) (by decide)⟩
  · show Steps p.tables e below (s₁.setTop (mkF m 0 #[vR a1, vN (lf), uu, uu, uu, uu] [])) _
    refine XS.aloadN X0.here hx rfl (hb hby d20_0) rfl rfl ?_
    refine st1 _ ?_
    refine XS.iloadN X1.here hx rfl (hb hby d20_4) rfl ?_
    refine own_ldIN X1 hx hZ e1 (L0.aI 5 (by decide)) (i := lf) (x := (Int32.ofNat (s1))) (by omega) (congrArg Value.int (show (I 5 (lf)) = (Int32.ofNat (s1)) from Y5)) (g := (mkF m 5 #[vR a1, vN (lf), uu, uu, uu, uu] [(.int (Int32.ofNat (lf))), (.ref (A 5))])) rfl rfl (hb hby d20_5) _ ?_
    refine XS.istoreN X1.here hx rfl (hb hby d20_6) rfl (l' := #[vR a1, vN (lf), vN (s1), uu, uu, uu]) rfl ?_
    refine XS.aloadN X1.here hx rfl (hb hby d20_7) rfl rfl ?_
    refine st2 _ ?_
    refine XS.iloadN X2.here hx rfl (hb hby d20_11) rfl ?_
    refine own_ldIN X2 hx hZ e2 (L0.aI 4 (by decide)) (i := lf) (x := (Int32.ofNat (nd))) (by omega) (congrArg Value.int (show (I 4 (lf)) = (Int32.ofNat (nd)) from Y4)) (g := (mkF m 12 #[vR a1, vN (lf), vN (s1), uu, uu, uu] [(.int (Int32.ofNat (lf))), (.ref (A 4))])) rfl rfl (hb hby d20_12) _ ?_
    refine XS.istoreN X2.here hx rfl (hb hby d20_13) rfl (l' := #[vR a1, vN (lf), vN (s1), vN (nd), uu, uu]) rfl ?_
    refine XS.iconst X2.here hx rfl (hb hby d20_14) ?_
    refine XS.istore X2.here hx rfl (hb hby d20_15) rfl (l' := #[vR a1, vN (lf), vN (s1), vN (nd), vI 1, uu]) rfl ?_
    show Steps p.tables e below (T2.setTop (mkF m 17 #[vR a1, vN (lf), vN (s1), vN (nd), vI 1, uu] [])) _
    refine XS.iloadN X2.here hx rfl (hb hby d20_17) rfl ?_
    refine XS.aloadN X2.here hx rfl (hb hby d20_18) rfl rfl ?_
    refine st3 _ ?_
    refine XS.iloadN X3.here hx rfl (hb hby d20_22) rfl ?_
    refine own_ldIN X3 hx hZ e3 (L0.aI 11 (by decide)) (i := nd) (x := (Int32.ofNat (n))) (by omega) (congrArg Value.int (show (I 11 (nd)) = (Int32.ofNat (n)) from Y11)) (g := (mkF m 23 #[vR a1, vN (lf), vN (s1), vN (nd), vI 1, uu] [(.int (Int32.ofNat (nd))), (.ref (A 11)), (.int (Int32.ofNat (s1)))])) rfl rfl (hb hby d20_23) _ ?_
    refine XS.iconst X3.here hx rfl (hb hby d20_24) ?_
    refine XS.isub X3.here hx rfl (hb hby d20_25) rfl ?_
    show Steps p.tables e below (T3.setTop (mkF m 26 #[vR a1, vN (lf), vN (s1), vN (nd), vI 1, uu] [(.int ((Int32.ofNat (n)) - (1 : Int32))), (.int (Int32.ofNat (s1)))])) _
    rw [show (Int32.ofNat (n)) - (1 : Int32) = Int32.ofNat (n - 1) from own_ns (a := n) (b := 1) (by omega)]
    show Steps p.tables e below (T3.setTop (mkF m 26 #[vR a1, vN (lf), vN (s1), vN (nd), vI 1, uu] [(.int (Int32.ofNat (n - 1))), (.int (Int32.ofNat (s1)))])) _
    refine XS.icmpYes X3.here hx rfl (pc0 := 26) (pc' := 60) rfl (hb hby d20_26) rfl (feq (own_nne (by omega) (by omega) (by omega))).2 (by decide) (by decide) ?_
    refine XS.aloadN X3.here hx rfl (hb hby d20_60) rfl rfl ?_
    refine st4 _ ?_
    refine XS.iloadN X4.here hx rfl (hb hby d20_64) rfl ?_
    refine XS.bipush X4.here hx rfl (hb hby d20_65) ?_
    refine XS.imul X4.here hx rfl (hb hby d20_67) rfl ?_
    show Steps p.tables e below (T4.setTop (mkF m 68 #[vR a1, vN (lf), vN (s1), vN (nd), vI 1, uu] [(.int ((Int32.ofNat (nd)) * (64 : Int32))), (.ref (A 7))])) _
    rw [show (Int32.ofNat (nd)) * (64 : Int32) = Int32.ofNat (nd * 64) from own_nm (nd) (64)]
    show Steps p.tables e below (T4.setTop (mkF m 68 #[vR a1, vN (lf), vN (s1), vN (nd), vI 1, uu] [(.int (Int32.ofNat (nd * 64))), (.ref (A 7))])) _
    refine XS.iloadN X4.here hx rfl (hb hby d20_68) rfl ?_
    refine XS.iadd X4.here hx rfl (hb hby d20_69) rfl ?_
    show Steps p.tables e below (T4.setTop (mkF m 70 #[vR a1, vN (lf), vN (s1), vN (nd), vI 1, uu] [(.int ((Int32.ofNat (nd * 64)) + (Int32.ofNat (s1)))), (.ref (A 7))])) _
    rw [show (Int32.ofNat (nd * 64)) + (Int32.ofNat (s1)) = Int32.ofNat (nd * 64 + s1) from own_na (nd * 64) (s1)]
    show Steps p.tables e below (T4.setTop (mkF m 70 #[vR a1, vN (lf), vN (s1), vN (nd), vI 1, uu] [(.int (Int32.ofNat (nd * 64 + s1))), (.ref (A 7))])) _
    refine XS.iconst X4.here hx rfl (hb hby d20_70) ?_
    refine XS.iadd X4.here hx rfl (hb hby d20_71) rfl ?_
    show Steps p.tables e below (T4.setTop (mkF m 72 #[vR a1, vN (lf), vN (s1), vN (nd), vI 1, uu] [(.int ((Int32.ofNat (nd * 64 + s1)) + (1 : Int32))), (.ref (A 7))])) _
    rw [show (Int32.ofNat (nd * 64 + s1)) + (1 : Int32) = Int32.ofNat (nd * 64 + s1 + 1) from own_na (nd * 64 + s1) (1)]
    show Steps p.tables e below (T4.setTop (mkF m 72 #[vR a1, vN (lf), vN (s1), vN (nd), vI 1, uu] [(.int (Int32.ofNat (nd * 64 + s1 + 1))), (.ref (A 7))])) _
    refine own_ldIN X4 hx hZ e4 (L0.aI 7 (by decide)) (i := nd * 64 + s1 + 1) (x := (Int32.ofNat (c2))) (by omega) (congrArg Value.int (show (I 7 (nd * 64 + s1 + 1)) = (Int32.ofNat (c2)) from Y7)) (g := (mkF m 72 #[vR a1, vN (lf), vN (s1), vN (nd), vI 1, uu] [(.int (Int32.ofNat (nd * 64 + s1 + 1))), (.ref (A 7))])) rfl rfl (hb hby d20_72) _ ?_
    refine XS.istore X4.here hx rfl (hb hby d20_73) rfl (l' := #[vR a1, vN (lf), vN (s1), vN (nd), vI 1, vN (c2)]) rfl ?_
    refine XS.iload X4.here hx rfl (hb hby d20_75) rfl ?_
    refine XS.iconst X4.here hx rfl (hb hby d20_77) ?_
    refine XS.icmpYes X4.here hx rfl (pc0 := 78) (pc' := 99) rfl (hb hby d20_78) rfl (flt (by decide : ¬ ((1 : Int32) < (1 : Int32)))).2.2.2 (by decide) (by decide) ?_
    refine XS.iload X4.here hx rfl (hb hby d20_99) rfl ?_
    show Steps p.tables e below (T4.setTop (mkF m 101 #[vR a1, vN (lf), vN (s1), vN (nd), vI 1, vN (c2)] [(.int (Int32.ofNat (c2)))])) _
    exact retI X4 hx Bd.returns (hb hby d20_101) hr
  · show QrmNXn Z a1 A N I J cc M B nb nd lf s1 n c2 h0 n0 _ T4.heap _
    rw [e4]
    exact ⟨rfl, N0, rfl⟩
theorem d22_0 : decode q5 0 = .ok (.aload_n 0, 1) := by decide +kernel
theorem d22_1 : decode q5 1 = .ok (.getfield 46, 3) := by decide +kernel
theorem d22_4 : decode q5 4 = .ok (.iload_n 1, 1) := by decide +kernel
theorem d22_5 : decode q5 5 = .ok (.iaload, 1) := by decide +kernel
theorem d22_6 : decode q5 6 = .ok (.istore_n 2, 1) := by decide +kernel
theorem d22_7 : decode q5 7 = .ok (.aload_n 0, 1) := by decide +kernel
theorem d22_8 : decode q5 8 = .ok (.getfield 43, 3) := by decide +kernel
theorem d22_11 : decode q5 11 = .ok (.iload_n 1, 1) := by decide +kernel
theorem d22_12 : decode q5 12 = .ok (.iaload, 1) := by decide +kernel
theorem d22_13 : decode q5 13 = .ok (.istore_n 3, 1) := by decide +kernel
theorem d22_14 : decode q5 14 = .ok (.iconst 1, 1) := by decide +kernel
theorem d22_15 : decode q5 15 = .ok (.istore 4, 2) := by decide +kernel
theorem d22_17 : decode q5 17 = .ok (.iload_n 2, 1) := by decide +kernel
theorem d22_18 : decode q5 18 = .ok (.ifCond .ne 34, 3) := by decide +kernel
theorem d22_21 : decode q5 21 = .ok (.aload_n 0, 1) := by decide +kernel
theorem d22_22 : decode q5 22 = .ok (.getfield 79, 3) := by decide +kernel
theorem d22_25 : decode q5 25 = .ok (.iload_n 3, 1) := by decide +kernel
theorem d22_26 : decode q5 26 = .ok (.iaload, 1) := by decide +kernel
theorem d22_27 : decode q5 27 = .ok (.ifCond .ge 5, 3) := by decide +kernel
theorem d22_30 : decode q5 30 = .ok (.iconst (-1), 1) := by decide +kernel
theorem d22_31 : decode q5 31 = .ok (.ireturn, 1) := by decide +kernel
theorem ef_rmPV (m : MethodId) (x0 : Addr) (x1 : Int32) : entryFrame m #[(.ref x0), (.int x1)] 6 = mkF m 0 #[vR x0, .val (.int x1), uu, uu, uu, uu] [] := by first | (simp [entryFrame, mkF, argsToLocals, Value.category]; done) | rfl
def QrmPV (Z : State) (a1 : Addr) (A : Nat → Addr) (N : Nat → Nat) (I : Nat → Nat → Int32) (J : Nat → Nat → Int64) (cc : Nat → Int32) (M : Nat → Option Addr) (B : Nat → Nat → Int32) (nb nd lf : Nat) (h0 : Heap) (n0 : Nat) (v : Option Value) (h : Heap) (L : List Loc) : Prop := v = some (.int (-1 : Int32)) ∧ Fr n0 L ∧ h = h0
set_option maxRecDepth 65536 in
set_option maxHeartbeats 40000000 in
theorem rmPV (l : Launch) (Z : State) (a0 : Array Value) (hw : ∀ d ∈ tables_1, d.before a0 Z = true) (ws : List Jvm.Cond) (a1 : Addr) (A : Nat → Addr) (N : Nat → Nat) (I : Nat → Nat → Int32) (J : Nat → Nat → Int64) (cc : Nat → Int32) (M : Nat → Option Addr) (B : Nat → Nat → Int32) (nb nd lf : Nat) (h0 : Heap) (n0 : Nat) (Z0 : n0 ≤ h0.size) (L0 : LT Z h0 n0 a1 A N I J cc M B) (hS : SZ N nb) (hnd : nd < nb) (hnb : nb < 1000) (hlf : lf < 4) (Y5 : I 5 lf = (0 : Int32)) (Y4 : I 4 lf = Int32.ofNat nd) (Y13 : I 13 nd = (-1 : Int32)) :
    MetFree l (⟨"com/example/ebbtide/ebbtide/cluster/LoadTrees", "previousLeaf", "(I)I"⟩ : MethodName) (head1 (Jvm.Cond.code (⟨"com/example/ebbtide/ebbtide/cluster/LoadTrees", "previousLeaf", "(I)I"⟩ : MethodName) prog_74_method_16_code 6 (some .int) :: ws) ({ frames := 0, cells := 0, slots := 0, locals := 0 } : Room)) (fun a U => a = #[(.ref a1), (.int (Int32.ofNat (lf)))] ∧ Z.Warmed39 U.vm ∧ U.heap = h0) (fun _ _ _ _ _ => True) (fun _ U o U' => ∃ v L, o = .returned v ∧ QrmPV Z a1 A N I J cc M B nb nd lf h0 n0 v U'.heap L ∧ FrameEnd U o U' L ({ frames := 0, cells := 0, slots := 0, locals := 0 } : Room).cells ({ frames := 0, cells := 0, slots := 0, locals := 0 } : Room).slots) := by
  refine MetFree.of_bodySF (plainFor_of_name pn_com_example_ebbtide_ebbtide_cluster_LoadTrees) hisR ?_
  intro p e s m args below meth c s₁ Bd hml0 hP hK
  obtain ⟨rfl, hZ, hh⟩ := hP
  have hx := Bd.exec
  have hby := Bd.bytes
  have hml : c.maxLocals = 6 := hml0
  have hown : s.vm.findClass "com/example/ebbtide/ebbtide/cluster/LoadTrees" = some m.cls := findClass_of_methodNamed Bd.named
  have hnm := (name_of_methodNamed Bd.named Bd.method).1
  have X0 : Stand p l e ({ frames := 0, cells := 0, slots := 0, locals := 0 } : Room) s m #[(.ref a1), (.int (Int32.ofNat (lf)))] below meth c s₁ [] 0 0 := Stand.of_body Bd
  have e0 : s₁.heap = h0 := by rw [← hh, Bd.state]; rfl
  have N0 := Fr.nil n0
  have pre0 : ∀ t, Steps p.tables e below (s₁.setTop (mkF m 0 #[vR a1, vN (lf), uu, uu, uu, uu] [])) t → Steps p.tables e below (s₁.setTop (entryFrame m #[(.ref a1), (.int (Int32.ofNat (lf)))] 6)) t := fun t k => castTop (ef_rmPV m a1 (Int32.ofNat (lf))) k
  obtain ⟨S0, S1, S2, S3, S4, S5, S6, S7, S8, S9, S10, S11, S12, S13, S14, S15, S16, S17, S18, S19, S20, S21, S22⟩ := hS
  obtain ⟨T1, X1, e1, st1⟩ := getF X0 hx hZ hown (host := "") (Or.inl (tw hw 46 rfl)) Via.refl e0 (L0.FI 5 (by decide) rfl) (g := (mkF m 1 #[vR a1, vN (lf), uu, uu, uu, uu] [(.ref a1)])) rfl rfl (hb hby d22_1)
  obtain ⟨T2, X2, e2, st2⟩ := getF X1 hx hZ hown (host := "") (Or.inl (tw hw 44 rfl)) Via.refl e1 (L0.FI 4 (by decide) rfl) (g := (mkF m 8 #[vR a1, vN (lf), vI 0, uu, uu, uu] [(.ref a1)])) rfl rfl (hb hby d22_8)
  obtain ⟨T3, X3, e3, st3⟩ := getF X2 hx hZ hown (host := "") (Or.inl (tw hw 68 rfl)) Via.refl e2 (L0.FI 13 (by decide) rfl) (g := (mkF m 22 #[vR a1, vN (lf), vI 0, vN (nd), vI 1, uu] [(.ref a1)])) rfl rfl (hb hby d22_22)
  obtain ⟨fs, hr, hrun, hended, hW, hsame⟩ := X3.leave (v := some (.int (-1 : Int32))) (fun h => by rw [Bd.returns] at h; cases h)
  refine ⟨_, _, pre0 _ (?_), hrun, hended, _, _, rfl, ?_, ⟨_, rfl⟩, hW, hsame.mono (by decide) (by decide)⟩
  · show Steps p.tables e below (s₁.setTop (mkF m 0 #[vR a1, vN (lf), uu, uu, uu, uu] [])) _
    refine XS.aloadN X0.here hx rfl (hb hby d22_0) rfl rfl ?_
    refine st1 _ ?_
    refine XS.iloadN X1.here hx rfl (hb hby d22_4) rfl ?_
    refine own_ldIN X1 hx hZ e1 (L0.aI 5 (by decide)) (i := lf) (x := (0 : Int32)) (by omega) (congrArg Value.int (show (I 5 (lf)) = (0 : Int32) from Y5)) (g := (mkF m 5 #[vR a1, vN (lf), uu, uu, uu, uu] [(.int (Int32.ofNat (lf))), (.ref (A 5))])) rfl rfl (hb hby d22_5) _ ?_
    refine XS.istoreN X1.here hx rfl (hb hby d22_6) rfl (l' := #[vR a1, vN (lf), vI 0, uu, uu, uu]) rfl ?_
    refine XS.aloadN X1.here hx rfl (hb hby d22_7) rfl rfl ?_
    refine st2 _ ?_
    refine XS.iloadN X2.here hx rfl (hb hby d22_11) rfl ?_
    refine own_ldIN X2 hx hZ e2 (L0.aI 4 (by decide)) (i := lf) (x := (Int32.ofNat (nd))) (by omega) (congrArg Value.int (show (I 4 (lf)) = (Int32.ofNat (nd)) from Y4)) (g := (mkF m 12 #[vR a1, vN (lf), vI 0, uu, uu, uu] [(.int (Int32.ofNat (lf))), (.ref (A 4))])) rfl rfl (hb hby d22_12) _ ?_
    refine XS.istoreN X2.here hx rfl (hb hby d22_13) rfl (l' := #[vR a1, vN (lf), vI 0, vN (nd), uu, uu]) rfl ?_
    refine XS.iconst X2.here hx rfl (hb hby d22_14) ?_
    refine XS.istore X2.here hx rfl (hb hby d22_15) rfl (l' := #[vR a1, vN (lf), vI 0, vN (nd), vI 1, uu]) rfl ?_
    show Steps p.tables e below (T2.setTop (mkF m 17 #[vR a1, vN (lf), vI 0, vN (nd), vI 1, uu] [])) _
    refine XS.iloadN X2.here hx rfl (hb hby d22_17) rfl ?_
    refine XS.ifNo X2.here hx rfl (hb hby d22_18) rfl ((if0 _ _).trans (teq (by decide : (0 : Int32) = (0 : Int32))).2) ?_
    refine XS.aloadN X2.here hx rfl (hb hby d22_21) rfl rfl ?_
    refine st3 _ ?_
    refine XS.iloadN X3.here hx rfl (hb hby d22_25) rfl ?_
    refine own_ldIN X3 hx hZ e3 (L0.aI 13 (by decide)) (i := nd) (x := (-1 : Int32)) (by omega) (congrArg Value.int (show (I 13 (nd)) = (-1 : Int32) from Y13)) (g := (mkF m 26 #[vR a1, vN (lf), vI 0, vN (nd), vI 1, uu] [(.int (Int32.ofNat (nd))), (.ref (A 13))])) rfl rfl (hb hby d22_26) _ ?_
    refine XS.ifNo X3.here hx rfl (hb hby d22_27) rfl ((if0 _ _).trans (tlt (by decide : (-1 : Int32) < (0 : Int32))).2.1) ?_
    refine XS.iconst X3.here hx rfl (hb hby d22_30) ?_
    show Steps p.tables e below (T3.setTop (mkF m 31 #[vR a1, vN (lf), vI 0, vN (nd), vI 1, uu] [(.int (-1 : Int32))])) _
    exact retI X3 hx Bd.returns (hb hby d22_31) hr
  · show QrmPV Z a1 A N I J cc M B nb nd lf h0 n0 _ T3.heap _
    rw [e3]
    exact ⟨rfl, N0, rfl⟩
theorem d23_0 : decode q6 0 = .ok (.aload_n 0, 1) := by decide +kernel
theorem d23_1 : decode q6 1 = .ok (.getfield 46, 3) := by decide +kernel
theorem d23_4 : decode q6 4 = .ok (.iload_n 1, 1) := by decide +kernel
theorem d23_5 : decode q6 5 = .ok (.iaload, 1) := by decide +kernel
theorem d23_6 : decode q6 6 = .ok (.istore 7, 2) := by decide +kernel
theorem d23_8 : decode q6 8 = .ok (.aload_n 0, 1) := by decide +kernel
theorem d23_9 : decode q6 9 = .ok (.getfield 43, 3) := by decide +kernel
theorem d23_12 : decode q6 12 = .ok (.iload_n 1, 1) := by decide +kernel
theorem d23_13 : decode q6 13 = .ok (.iaload, 1) := by decide +kernel
theorem d23_14 : decode q6 14 = .ok (.istore 8, 2) := by decide +kernel
theorem d23_16 : decode q6 16 = .ok (.iload 7, 2) := by decide +kernel
theorem d23_18 : decode q6 18 = .ok (.ifCond .ne 35, 3) := by decide +kernel
theorem d23_53 : decode q6 53 = .ok (.iload 8, 2) := by decide +kernel
theorem d23_55 : decode q6 55 = .ok (.bipush 64, 2) := by decide +kernel
theorem d23_57 : decode q6 57 = .ok (.imul, 1) := by decide +kernel
theorem d23_58 : decode q6 58 = .ok (.iload 7, 2) := by decide +kernel
theorem d23_60 : decode q6 60 = .ok (.iadd, 1) := by decide +kernel
theorem d23_61 : decode q6 61 = .ok (.istore 9, 2) := by decide +kernel
theorem d23_63 : decode q6 63 = .ok (.aload_n 0, 1) := by decide +kernel
theorem d23_64 : decode q6 64 = .ok (.getfield 64, 3) := by decide +kernel
theorem d23_67 : decode q6 67 = .ok (.iload 9, 2) := by decide +kernel
theorem d23_69 : decode q6 69 = .ok (.lload_n 2, 1) := by decide +kernel
theorem d23_70 : decode q6 70 = .ok (.lastore, 1) := by decide +kernel
theorem d23_71 : decode q6 71 = .ok (.aload_n 0, 1) := by decide +kernel
theorem d23_72 : decode q6 72 = .ok (.getfield 67, 3) := by decide +kernel
theorem d23_75 : decode q6 75 = .ok (.iload 9, 2) := by decide +kernel
theorem d23_77 : decode q6 77 = .ok (.lload 4, 2) := by decide +kernel
theorem d23_79 : decode q6 79 = .ok (.lastore, 1) := by decide +kernel
theorem d23_80 : decode q6 80 = .ok (.aload_n 0, 1) := by decide +kernel
theorem d23_81 : decode q6 81 = .ok (.getfield 70, 3) := by decide +kernel
theorem d23_84 : decode q6 84 = .ok (.iload 9, 2) := by decide +kernel
theorem d23_86 : decode q6 86 = .ok (.iload 6, 2) := by decide +kernel
theorem d23_88 : decode q6 88 = .ok (.iastore, 1) := by decide +kernel
theorem d23_89 : decode q6 89 = .ok (.return_, 1) := by decide +kernel
theorem ef_rmSt (m : MethodId) (x0 : Addr) (x1 : Int32) (x2 : Int64) (x3 : Int64) (x4 : Int32) : entryFrame m #[(.ref x0), (.int x1), (.long x2), (.long x3), (.int x4)] 10 = mkF m 0 #[vR x0, .val (.int x1), vJ x2, .second, vJ x3, .second, .val (.int x4), uu, uu, uu] [] := by first | (simp [entryFrame, mkF, argsToLocals, Value.category]; done) | rfl
def QrmSt (Z : State) (a1 : Addr) (A : Nat → Addr) (N : Nat → Nat) (I : Nat → Nat → Int32) (J : Nat → Nat → Int64) (cc : Nat → Int32) (M : Nat → Option Addr) (B : Nat → Nat → Int32) (nb nd lf s1 : Nat) (kh kl : Int64) (sv : Int32) (h0 : Heap) (n0 : Nat) (v : Option Value) (h : Heap) (L : List Loc) : Prop := v = none ∧ Fr n0 L ∧ KN n0 h0 h ∧ LT Z h n0 a1 A N (ui I 10 (nd * 64 + s1) sv) (ui (ui J 20 (nd * 64 + s1) kh) 21 (nd * 64 + s1) kl) cc M B
set_option maxRecDepth 65536 in
set_option maxHeartbeats 40000000 in
theorem rmSt (l : Launch) (Z : State) (a0 : Array Value) (hw : ∀ d ∈ tables_1, d.before a0 Z = true) (ws : List Jvm.Cond) (a1 : Addr) (A : Nat → Addr) (N : Nat → Nat) (I : Nat → Nat → Int32) (J : Nat → Nat → Int64) (cc : Nat → Int32) (M : Nat → Option Addr) (B : Nat → Nat → Int32) (nb nd lf s1 : Nat) (kh kl : Int64) (sv : Int32) (h0 : Heap) (n0 : Nat) (Z0 : n0 ≤ h0.size) (L0 : LT Z h0 n0 a1 A N I J cc M B) (hS : SZ N nb) (hnd : nd < nb) (hnb : nb < 1000) (hlf : lf < 4) (Y5 : I 5 lf = Int32.ofNat s1) (Y4 : I 4 lf = Int32.ofNat nd) (hs1 : 0 < s1) (hs2 : s1 < 60) :
    MetFree l (⟨"com/example/ebbtide/ebbtide/cluster/LoadTrees", "setFrom", "(IJJI)V"⟩ : MethodName) (head1 (Jvm.Cond.code (⟨"com/example/ebbtide/ebbtide/cluster/LoadTrees", "setFrom", "(IJJI)V"⟩ : MethodName) prog_74_method_17_code 10 none :: ws) ({ frames := 0, cells := 0, slots := 0, locals := 0 } : Room)) (fun a U => a = #[(.ref a1), (.int (Int32.ofNat (lf))), (.long kh), (.long kl), (.int sv)] ∧ Z.Warmed39 U.vm ∧ U.heap = h0) (fun _ _ _ _ _ => True) (fun _ U o U' => ∃ v L, o = .returned v ∧ QrmSt Z a1 A N I J cc M B nb nd lf s1 kh kl sv h0 n0 v U'.heap L ∧ FrameEnd U o U' L ({ frames := 0, cells := 0, slots := 0, locals := 0 } : Room).cells ({ frames := 0, cells := 0, slots := 0, locals := 0 } : Room).slots) := by
  refine MetFree.of_bodySF (plainFor_of_name pn_com_example_ebbtide_ebbtide_cluster_LoadTrees) hisR ?_
  intro p e s m args below meth c s₁ Bd hml0 hP hK
  obtain ⟨rfl, hZ, hh⟩ := hP
  have hx := Bd.exec
  have hby := Bd.bytes
  have hml : c.maxLocals = 10 := hml0
  have hown : s.vm.findClass "com/example/ebbtide/ebbtide/cluster/LoadTrees" = some m.cls := findClass_of_methodNamed Bd.named
  have hnm := (name_of_methodNamed Bd.named Bd.method).1
  have X0 : Stand p l e ({ frames := 0, cells := 0, slots := 0, locals := 0 } : Room) s m #[(.ref a1), (.int (Int32.ofNat (lf))), (.long kh), (.long kl), (.int sv)] below meth c s₁ [] 0 0 := Stand.of_body Bd
  have e0 : s₁.heap = h0 := by rw [← hh, Bd.state]; rfl
  have N0 := Fr.nil n0
  have pre0 : ∀ t, Steps p.tables e below (s₁.setTop (mkF m 0 #[vR a1, vN (lf), vJ kh, .second, vJ kl, .second, .val (.int sv), uu, uu, uu] [])) t → Steps p.tables e below (s₁.setTop (entryFrame m #[(.ref a1), (.int (Int32.ofNat (lf))), (.long kh), (.long kl), (.int sv)] 10)) t := fun t k => castTop (ef_rmSt m a1 (Int32.ofNat (lf)) kh kl sv) k
  obtain ⟨S0, S1, S2, S3, S4, S5, S6, S7, S8, S9, S10, S11, S12, S13, S14, S15, S16, S17, S18, S19, S20, S21, S22⟩ := hS
  obtain ⟨T1, X1, e1, st1⟩ := getF X0 hx hZ hown (host := "") (Or.inl (tw hw 46 rfl)) Via.refl e0 (L0.FI 5 (by decide) rfl) (g := (mkF m 1 #[vR a1, vN (lf), vJ kh, .second, vJ kl, .second, .val (.int sv), uu, uu, uu] [(.ref a1)])) rfl rfl (hb hby d23_1)
  obtain ⟨T2, X2, e2, st2⟩ := getF X1 hx hZ hown (host := "") (Or.inl (tw hw 44 rfl)) Via.refl e1 (L0.FI 4 (by decide) rfl) (g := (mkF m 9 #[vR a1, vN (lf), vJ kh, .second, vJ kl, .second, .val (.int sv), vN (s1), uu, uu] [(.ref a1)])) rfl rfl (hb hby d23_9)
  obtain ⟨T3, X3, e3, st3⟩ := getF X2 hx hZ hown (host := "") (Or.inl (tw hw 58 rfl)) Via.refl e2 (L0.FJ 20 (by decide) (by decide) rfl) (g := (mkF m 64 #[vR a1, vN (lf), vJ kh, .second, vJ kl, .second, .val (.int sv), vN (s1), vN (nd), vN (nd * 64 + s1)] [(.ref a1)])) rfl rfl (hb hby d23_64)
  obtain ⟨T4, h4, X4, e4, W4, st4⟩ := own_stJN X3 hx hZ e3 (L0.aJ 20 (by decide) (by decide)) (i := nd * 64 + s1) (by omega) (g := (mkF m 70 #[vR a1, vN (lf), vJ kh, .second, vJ kl, .second, .val (.int sv), vN (s1), vN (nd), vN (nd * 64 + s1)] [(.long kh), (.int (Int32.ofNat (nd * 64 + s1))), (.ref (A 20))])) rfl rfl (hb hby d23_70)
  have K4 : KN n0 h0 h4 := (KN.refl n0 h0).trans (KN.wr W4 (L0.gA 20 (by decide)))
  have N4 := Fr.snoc X4 N0 (L0.gA 20 (by decide))
  have Z4 : n0 ≤ h4.size := Nat.le_trans Z0 (Keep.of_wr W4).1
  have Lq4 := L0.wrJ (k := 20) (by decide) (by decide) W4
  obtain ⟨T5, X5, e5, st5⟩ := getF X4 hx hZ hown (host := "") (Or.inl (tw hw 60 rfl)) Via.refl e4 (Lq4.FJ 21 (by decide) (by decide) rfl) (g := (mkF m 72 #[vR a1, vN (lf), vJ kh, .second, vJ kl, .second, .val (.int sv), vN (s1), vN (nd), vN (nd * 64 + s1)] [(.ref a1)])) rfl rfl (hb hby d23_72)
  obtain ⟨T6, h6, X6, e6, W6, st6⟩ := own_stJN X5 hx hZ e5 (Lq4.aJ 21 (by decide) (by decide)) (i := nd * 64 + s1) (by omega) (g := (mkF m 79 #[vR a1, vN (lf), vJ kh, .second, vJ kl, .second, .val (.int sv), vN (s1), vN (nd), vN (nd * 64 + s1)] [(.long kl), (.int (Int32.ofNat (nd * 64 + s1))), (.ref (A 21))])) rfl rfl (hb hby d23_79)
  have K6 : KN n0 h0 h6 := K4.trans (KN.wr W6 (Lq4.gA 21 (by decide)))
  have N6 := Fr.snoc X6 N4 (Lq4.gA 21 (by decide))
  have Z6 : n0 ≤ h6.size := Nat.le_trans Z4 (Keep.of_wr W6).1
  have Lq6 := Lq4.wrJ (k := 21) (by decide) (by decide) W6
  obtain ⟨T7, X7, e7, st7⟩ := getF X6 hx hZ hown (host := "") (Or.inl (tw hw 62 rfl)) Via.refl e6 (Lq6.FI 10 (by decide) rfl) (g := (mkF m 81 #[vR a1, vN (lf), vJ kh, .second, vJ kl, .second, .val (.int sv), vN (s1), vN (nd), vN (nd * 64 + s1)] [(.ref a1)])) rfl rfl (hb hby d23_81)
  obtain ⟨T8, h8, X8, e8, W8, st8⟩ := own_stIN X7 hx hZ e7 (Lq6.aI 10 (by decide)) (i := nd * 64 + s1) (by omega) (g := (mkF m 88 #[vR a1, vN (lf), vJ kh, .second, vJ kl, .second, .val (.int sv), vN (s1), vN (nd), vN (nd * 64 + s1)] [(.int sv), (.int (Int32.ofNat (nd * 64 + s1))), (.ref (A 10))])) rfl rfl (hb hby d23_88)
  have K8 : KN n0 h0 h8 := K6.trans (KN.wr W8 (Lq6.gA 10 (by decide)))
  have N8 := Fr.snoc X8 N6 (Lq6.gA 10 (by decide))
  have Z8 : n0 ≤ h8.size := Nat.le_trans Z6 (Keep.of_wr W8).1
  have Lq8 := Lq6.wrI (k := 10) (by decide) W8
  obtain ⟨fs, hr, hrun, hended, hW, hsame⟩ := X8.leave (v := none) (fun _ => rfl)
  refine ⟨_, _, pre0 _ (?_), hrun, hended, _, _, rfl, ?_, ⟨_, rfl⟩, hW, hsame.mono (by decide) (by decide)⟩
  · show Steps p.tables e below (s₁.setTop (mkF m 0 #[vR a1, vN (lf), vJ kh, .second, vJ kl, .second, .val (.int sv), uu, uu, uu] [])) _
    refine XS.aloadN X0.here hx rfl (hb hby d23_0) rfl rfl ?_
    refine st1 _ ?_
    refine XS.iloadN X1.here hx rfl (hb hby d23_4) rfl ?_
    refine own_ldIN X1 hx hZ e1 (L0.aI 5 (by decide)) (i := lf) (x := (Int32.ofNat (s1))) (by omega) (congrArg Value.int (show (I 5 (lf)) = (Int32.ofNat (s1)) from Y5)) (g := (mkF m 5 #[vR a1, vN (lf), vJ kh, .second, vJ kl, .second, .val (.int sv), uu, uu, uu] [(.int (Int32.ofNat (lf))), (.ref (A 5))])) rfl rfl (hb hby d23_5) _ ?_
    refine XS.istore X1.here hx rfl (hb hby d23_6) rfl (l' := #[vR a1, vN (lf), vJ kh, .second, vJ kl, .second, .val (.int sv), vN (s1), uu, uu]) rfl ?_
    refine XS.aloadN X1.here hx rfl (hb hby d23_8) rfl rfl ?_
    refine st2 _ ?_
    refine XS.iloadN X2.here hx rfl (hb hby d23_12) rfl ?_
    refine own_ldIN X2 hx hZ e2 (L0.aI 4 (by decide)) (i := lf) (x := (Int32.ofNat (nd))) (by omega) (congrArg Value.int (show (I 4 (lf)) = (Int32.ofNat (nd)) from Y4)) (g := (mkF m 13 #[vR a1, vN (lf), vJ kh, .second, vJ kl, .second, .val (.int sv), vN (s1), uu, uu] [(.int (Int32.ofNat (lf))), (.ref (A 4))])) rfl rfl (hb hby d23_13) _ ?_
    refine XS.istore X2.here hx rfl (hb hby d23_14) rfl (l' := #[vR a1, vN (lf), vJ kh, .second, vJ kl, .second, .val (.int sv), vN (s1), vN (nd), uu]) rfl ?_
    refine XS.iload X2.here hx rfl (hb hby d23_16) rfl ?_
    refine XS.ifYes X2.here hx rfl (pc0 := 18) (pc' := 53) rfl (hb hby d23_18) rfl ((if0 _ _).trans (feq (own_nne (a := s1) (b := 0) (by omega) (by omega) (by omega))).2) (by decide) (by decide) ?_
    show Steps p.tables e below (T2.setTop (mkF m 53 #[vR a1, vN (lf), vJ kh, .second, vJ kl, .second, .val (.int sv), vN (s1), vN (nd), uu] [])) _
    refine XS.iload X2.here hx rfl (hb hby d23_53) rfl ?_
    refine XS.bipush X2.here hx rfl (hb hby d23_55) ?_
    refine XS.imul X2.here hx rfl (hb hby d23_57) rfl ?_
    show Steps p.tables e below (T2.setTop (mkF m 58 #[vR a1, vN (lf), vJ kh, .second, vJ kl, .second, .val (.int sv), vN (s1), vN (nd), uu] [(.int ((Int32.ofNat (nd)) * (64 : Int32)))])) _
    rw [show (Int32.ofNat (nd)) * (64 : Int32) = Int32.ofNat (nd * 64) from own_nm (nd) (64)]
    show Steps p.tables e below (T2.setTop (mkF m 58 #[vR a1, vN (lf), vJ kh, .second, vJ kl, .second, .val (.int sv), vN (s1), vN (nd), uu] [(.int (Int32.ofNat (nd * 64)))])) _
    refine XS.iload X2.here hx rfl (hb hby d23_58) rfl ?_
    refine XS.iadd X2.here hx rfl (hb hby d23_60) rfl ?_
    show Steps p.tables e below (T2.setTop (mkF m 61 #[vR a1, vN (lf), vJ kh, .second, vJ kl, .second, .val (.int sv), vN (s1), vN (nd), uu] [(.int ((Int32.ofNat (nd * 64)) + (Int32.ofNat (s1))))])) _
    rw [show (Int32.ofNat (nd * 64)) + (Int32.ofNat (s1)) = Int32.ofNat (nd * 64 + s1) from own_na (nd * 64) (s1)]
    show Steps p.tables e below (T2.setTop (mkF m 61 #[vR a1, vN (lf), vJ kh, .second, vJ kl, .second, .val (.int sv), vN (s1), vN (nd), uu] [(.int (Int32.ofNat (nd * 64 + s1)))])) _
    refine XS.istore X2.here hx rfl (hb hby d23_61) rfl (l' := #[vR a1, vN (lf), vJ kh, .second, vJ kl, .second, .val (.int sv), vN (s1), vN (nd), vN (nd * 64 + s1)]) rfl ?_
    refine XS.aloadN X2.here hx rfl (hb hby d23_63) rfl rfl ?_
    refine st3 _ ?_
    refine XS.iload X3.here hx rfl (hb hby d23_67) rfl ?_
    refine XS.lloadN X3.here hx rfl (hb hby d23_69) rfl ?_
    refine st4 _ ?_
    refine XS.aloadN X4.here hx rfl (hb hby d23_71) rfl rfl ?_
    refine st5 _ ?_
    refine XS.iload X5.here hx rfl (hb hby d23_75) rfl ?_
    refine XS.lload X5.here hx rfl (hb hby d23_77) rfl ?_
    refine st6 _ ?_
    refine XS.aloadN X6.here hx rfl (hb hby d23_80) rfl rfl ?_
    show Steps p.tables e below (T6.setTop (mkF m 81 #[vR a1, vN (lf), vJ kh, .second, vJ kl, .second, .val (.int sv), vN (s1), vN (nd), vN (nd * 64 + s1)] [(.ref a1)])) _
    refine st7 _ ?_
    refine XS.iload X7.here hx rfl (hb hby d23_84) rfl ?_
    refine XS.iload X7.here hx rfl (hb hby d23_86) rfl ?_
    refine st8 _ ?_
    show Steps p.tables e below (T8.setTop (mkF m 89 #[vR a1, vN (lf), vJ kh, .second, vJ kl, .second, .val (.int sv), vN (s1), vN (nd), vN (nd * 64 + s1)] [])) _
    exact X8.returnOut hx Bd.returns (hb hby d23_89) hr
  · show QrmSt Z a1 A N I J cc M B nb nd lf s1 kh kl sv h0 n0 _ T8.heap _
    rw [e8]
    exact ⟨rfl, N8, K8, Lq8⟩
theorem d19_0 : decode q18 0 = .ok (.aload_n 0, 1) := by decide +kernel
theorem d19_1 : decode q18 1 = .ok (.getfield 26, 3) := by decide +kernel
theorem d19_4 : decode q18 4 = .ok (.iload_n 1, 1) := by decide +kernel
theorem d19_5 : decode q18 5 = .ok (.iaload, 1) := by decide +kernel
theorem d19_6 : decode q18 6 = .ok (.istore_n 3, 1) := by decide +kernel
theorem d19_7 : decode q18 7 = .ok (.aload_n 0, 1) := by decide +kernel
theorem d19_8 : decode q18 8 = .ok (.getfield 76, 3) := by decide +kernel
theorem d19_11 : decode q18 11 = .ok (.iload_n 3, 1) := by decide +kernel
theorem d19_12 : decode q18 12 = .ok (.iaload, 1) := by decide +kernel
theorem d19_13 : decode q18 13 = .ok (.istore 4, 2) := by decide +kernel
theorem d19_15 : decode q18 15 = .ok (.iload 4, 2) := by decide +kernel
theorem d19_17 : decode q18 17 = .ok (.ifCond .le 50, 3) := by decide +kernel
theorem d19_20 : decode q18 20 = .ok (.iload_n 3, 1) := by decide +kernel
theorem d19_21 : decode q18 21 = .ok (.bipush 64, 2) := by decide +kernel
theorem d19_23 : decode q18 23 = .ok (.imul, 1) := by decide +kernel
theorem d19_24 : decode q18 24 = .ok (.istore 5, 2) := by decide +kernel
theorem d19_26 : decode q18 26 = .ok (.iload_n 2, 1) := by decide +kernel
theorem d19_27 : decode q18 27 = .ok (.aload_n 0, 1) := by decide +kernel
theorem d19_28 : decode q18 28 = .ok (.getfield 55, 3) := by decide +kernel
theorem d19_31 : decode q18 31 = .ok (.iload 5, 2) := by decide +kernel
theorem d19_33 : decode q18 33 = .ok (.iaload, 1) := by decide +kernel
theorem d19_34 : decode q18 34 = .ok (.if_icmp .lt 19, 3) := by decide +kernel
theorem d19_53 : decode q18 53 = .ok (.aload_n 0, 1) := by decide +kernel
theorem d19_54 : decode q18 54 = .ok (.getfield 52, 3) := by decide +kernel
theorem d19_57 : decode q18 57 = .ok (.iload 5, 2) := by decide +kernel
theorem d19_59 : decode q18 59 = .ok (.iaload, 1) := by decide +kernel
theorem d19_60 : decode q18 60 = .ok (.istore_n 3, 1) := by decide +kernel
theorem d19_61 : decode q18 61 = .ok (.iinc 4 (-1), 3) := by decide +kernel
theorem d19_64 : decode q18 64 = .ok (.goto (-49), 3) := by decide +kernel
theorem d19_67 : decode q18 67 = .ok (.aload_n 0, 1) := by decide +kernel
theorem d19_68 : decode q18 68 = .ok (.getfield 30, 3) := by decide +kernel
theorem d19_71 : decode q18 71 = .ok (.iload_n 3, 1) := by decide +kernel
theorem d19_72 : decode q18 72 = .ok (.aaload, 1) := by decide +kernel
theorem d19_73 : decode q18 73 = .ok (.iload_n 2, 1) := by decide +kernel
theorem d19_74 : decode q18 74 = .ok (.iaload, 1) := by decide +kernel
theorem d19_75 : decode q18 75 = .ok (.ireturn, 1) := by decide +kernel
theorem ef_rmAt0 (m : MethodId) (x0 : Addr) (x1 : Int32) (x2 : Int32) : entryFrame m #[(.ref x0), (.int x1), (.int x2)] 6 = mkF m 0 #[vR x0, .val (.int x1), .val (.int x2), uu, uu, uu] [] := by first | (simp [entryFrame, mkF, argsToLocals, Value.category]; done) | rfl
def QrmAt0 (Z : State) (a1 : Addr) (A : Nat → Addr) (N : Nat → Nat) (I : Nat → Nat → Int32) (J : Nat → Nat → Int64) (cc : Nat → Int32) (M : Nat → Option Addr) (B : Nat → Nat → Int32) (nb nd tr r1 lf x1 : Nat) (b1 : Addr) (k0 : Nat) (h0 : Heap) (n0 : Nat) (v : Option Value) (h : Heap) (L : List Loc) : Prop := v = some (.int (Int32.ofNat x1)) ∧ Fr n0 L ∧ h = h0
set_option maxRecDepth 65536 in
set_option maxHeartbeats 40000000 in
theorem rmAt0 (l : Launch) (Z : State) (a0 : Array Value) (hw : ∀ d ∈ tables_1, d.before a0 Z = true) (ws : List Jvm.Cond) (a1 : Addr) (A : Nat → Addr) (N : Nat → Nat) (I : Nat → Nat → Int32) (J : Nat → Nat → Int64) (cc : Nat → Int32) (M : Nat → Option Addr) (B : Nat → Nat → Int32) (nb nd tr r1 lf x1 : Nat) (b1 : Addr) (k0 : Nat) (h0 : Heap) (n0 : Nat) (Z0 : n0 ≤ h0.size) (L0 : LT Z h0 n0 a1 A N I J cc M B) (hS : SZ N nb) (hnd : nd < nb) (hnb : nb < 1000) (htr : tr < 2) (Y2 : I 2 tr = Int32.ofNat nd) (Y12 : I 12 nd = (1 : Int32)) (h8_0 : I 8 (nd * 64) = Int32.ofNat k0) (hk0 : k0 < 10) (Y7 : I 7 (nd * 64) = Int32.ofNat lf) (hlf : lf < 4) (hM : M lf = some b1) (hr1 : 0 ≤ r1) (hr2 : r1 < k0) (hr4 : r1 < 4) (hB : B lf (r1) = Int32.ofNat x1) :
    MetFree l (⟨"com/example/ebbtide/ebbtide/cluster/LoadTrees", "at", "(II)I"⟩ : MethodName) (head1 (Jvm.Cond.code (⟨"com/example/ebbtide/ebbtide/cluster/LoadTrees", "at", "(II)I"⟩ : MethodName) prog_74_method_4_code 6 (some .int) :: ws) ({ frames := 0, cells := 0, slots := 0, locals := 0 } : Room)) (fun a U => a = #[(.ref a1), (.int (Int32.ofNat (tr))), (.int (Int32.ofNat (r1)))] ∧ Z.Warmed39 U.vm ∧ U.heap = h0) (fun _ _ _ _ _ => True) (fun _ U o U' => ∃ v L, o = .returned v ∧ QrmAt0 Z a1 A N I J cc M B nb nd tr r1 lf x1 b1 k0 h0 n0 v U'.heap L ∧ FrameEnd U o U' L ({ frames := 0, cells := 0, slots := 0, locals := 0 } : Room).cells ({ frames := 0, cells := 0, slots := 0, locals := 0 } : Room).slots) := by
  refine MetFree.of_bodySF (plainFor_of_name pn_com_example_ebbtide_ebbtide_cluster_LoadTrees) hisR ?_
  intro p e s m args below meth c s₁ Bd hml0 hP hK
  obtain ⟨rfl, hZ, hh⟩ := hP
  have hx := Bd.exec
  have hby := Bd.bytes
  have hml : c.maxLocals = 6 := hml0
  have hown : s.vm.findClass "com/example/ebbtide/ebbtide/cluster/LoadTrees" = some m.cls := findClass_of_methodNamed Bd.named
  have hnm := (name_of_methodNamed Bd.named Bd.method).1
  have X0 : Stand p l e ({ frames := 0, cells := 0, slots := 0, locals := 0 } : Room) s m #[(.ref a1), (.int (Int32.ofNat (tr))), (.int (Int32.ofNat (r1)))] below meth c s₁ [] 0 0 := Stand.of_body Bd
  have e0 : s₁.heap = h0 := by rw [← hh, Bd.state]; rfl
  have N0 := Fr.nil n0
  have pre0 : ∀ t, Steps p.tables e below (s₁.setTop (mkF m 0 #[vR a1, vN (tr), vN (r1), uu, uu, uu] [])) t → Steps p.tables e below (s₁.setTop (entryFrame m #[(.ref a1), (.int (Int32.ofNat (tr))), (.int (Int32.ofNat (r1)))] 6)) t := fun t k => castTop (ef_rmAt0 m a1 (Int32.ofNat (tr)) (Int32.ofNat (r1))) k
  obtain ⟨S0, S1, S2, S3, S4, S5, S6, S7, S8, S9, S10, S11, S12, S13, S14, S15, S16, S17, S18, S19, S20, S21, S22⟩ := hS
  obtain ⟨T1, X1, e1, st1⟩ := getF X0 hx hZ hown (host := "") (Or.inl (tw hw 32 rfl)) Via.refl e0 (L0.FI 2 (by decide) rfl) (g := (mkF m 1 #[vR a1, vN (tr), vN (r1), uu, uu, uu] [(.ref a1)])) rfl rfl (hb hby d19_1)
  obtain ⟨T2, X2, e2, st2⟩ := getF X1 hx hZ hown (host := "") (Or.inl (tw hw 66 rfl)) Via.refl e1 (L0.FI 12 (by decide) rfl) (g := (mkF m 8 #[vR a1, vN (tr), vN (r1), vN (nd), uu, uu] [(.ref a1)])) rfl rfl (hb hby d19_8)
  obtain ⟨T3, X3, e3, st3⟩ := getF X2 hx hZ hown (host := "") (Or.inl (tw hw 52 rfl)) Via.refl e2 (L0.FI 8 (by decide) rfl) (g := (mkF m 28 #[vR a1, vN (tr), vN (r1), vN (nd), vI 1, vN (nd * 64)] [(.ref a1), (.int (Int32.ofNat (r1)))])) rfl rfl (hb hby d19_28)
  obtain ⟨T4, X4, e4, st4⟩ := getF X3 hx hZ hown (host := "") (Or.inl (tw hw 50 rfl)) Via.refl e3 (L0.FI 7 (by decide) rfl) (g := (mkF m 54 #[vR a1, vN (tr), vN (r1), vN (nd), vI 1, vN (nd * 64)] [(.ref a1)])) rfl rfl (hb hby d19_54)
  obtain ⟨T5, X5, e5, st5⟩ := getF X4 hx hZ hown (host := "") (Or.inl (tw hw 36 rfl)) Via.refl e4 L0.FM (g := (mkF m 68 #[vR a1, vN (tr), vN (r1), vN (lf), vI 0, vN (nd * 64)] [(.ref a1)])) rfl rfl (hb hby d19_68)
  obtain ⟨fs, hr, hrun, hended, hW, hsame⟩ := X5.leave (v := some (.int (Int32.ofNat (x1)))) (fun h => by rw [Bd.returns] at h; cases h)
  refine ⟨_, _, pre0 _ (?_), hrun, hended, _, _, rfl, ?_, ⟨_, rfl⟩, hW, hsame.mono (by decide) (by decide)⟩
  · show Steps p.tables e below (s₁.setTop (mkF m 0 #[vR a1, vN (tr), vN (r1), uu, uu, uu] [])) _
    refine XS.aloadN X0.here hx rfl (hb hby d19_0) rfl rfl ?_
    refine st1 _ ?_
    refine XS.iloadN X1.here hx rfl (hb hby d19_4) rfl ?_
    refine own_ldIN X1 hx hZ e1 (L0.aI 2 (by decide)) (i := tr) (x := (Int32.ofNat (nd))) (by omega) (congrArg Value.int (show (I 2 (tr)) = (Int32.ofNat (nd)) from Y2)) (g := (mkF m 5 #[vR a1, vN (tr), vN (r1), uu, uu, uu] [(.int (Int32.ofNat (tr))), (.ref (A 2))])) rfl rfl (hb hby d19_5) _ ?_
    refine XS.istoreN X1.here hx rfl (hb hby d19_6) rfl (l' := #[vR a1, vN (tr), vN (r1), vN (nd), uu, uu]) rfl ?_
    refine XS.aloadN X1.here hx rfl (hb hby d19_7) rfl rfl ?_
    refine st2 _ ?_
    refine XS.iloadN X2.here hx rfl (hb hby d19_11) rfl ?_
    refine own_ldIN X2 hx hZ e2 (L0.aI 12 (by decide)) (i := nd) (x := (1 : Int32)) (by omega) (congrArg Value.int (show (I 12 (nd)) = (1 : Int32) from Y12)) (g := (mkF m 12 #[vR a1, vN (tr), vN (r1), vN (nd), uu, uu] [(.int (Int32.ofNat (nd))), (.ref (A 12))])) rfl rfl (hb hby d19_12) _ ?_
    refine XS.istore X2.here hx rfl (hb hby d19_13) rfl (l' := #[vR a1, vN (tr), vN (r1), vN (nd), vI 1, uu]) rfl ?_
    refine XS.iload X2.here hx rfl (hb hby d19_15) rfl ?_
    refine XS.ifNo X2.here hx rfl (hb hby d19_17) rfl ((if0 _ _).trans (tlt (by decide : (0 : Int32) < (1 : Int32))).2.2.2) ?_
    show Steps p.tables e below (T2.setTop (mkF m 20 #[vR a1, vN (tr), vN (r1), vN (nd), vI 1, uu] [])) _
    refine XS.iloadN X2.here hx rfl (hb hby d19_20) rfl ?_
    refine XS.bipush X2.here hx rfl (hb hby d19_21) ?_
    refine XS.imul X2.here hx rfl (hb hby d19_23) rfl ?_
    show Steps p.tables e below (T2.setTop (mkF m 24 #[vR a1, vN (tr), vN (r1), vN (nd), vI 1, uu] [(.int ((Int32.ofNat (nd)) * (64 : Int32)))])) _
    rw [show (Int32.ofNat (nd)) * (64 : Int32) = Int32.ofNat (nd * 64) from own_nm (nd) (64)]
    show Steps p.tables e below (T2.setTop (mkF m 24 #[vR a1, vN (tr), vN (r1), vN (nd), vI 1, uu] [(.int (Int32.ofNat (nd * 64)))])) _
    refine XS.istore X2.here hx rfl (hb hby d19_24) rfl (l' := #[vR a1, vN (tr), vN (r1), vN (nd), vI 1, vN (nd * 64)]) rfl ?_
    refine XS.iloadN X2.here hx rfl (hb hby d19_26) rfl ?_
    refine XS.aloadN X2.here hx rfl (hb hby d19_27) rfl rfl ?_
    refine st3 _ ?_
    refine XS.iload X3.here hx rfl (hb hby d19_31) rfl ?_
    refine own_ldIN X3 hx hZ e3 (L0.aI 8 (by decide)) (i := nd * 64) (x := (Int32.ofNat (k0))) (by omega) (congrArg Value.int (show (I 8 (nd * 64)) = (Int32.ofNat (k0)) from h8_0)) (g := (mkF m 33 #[vR a1, vN (tr), vN (r1), vN (nd), vI 1, vN (nd * 64)] [(.int (Int32.ofNat (nd * 64))), (.ref (A 8)), (.int (Int32.ofNat (r1)))])) rfl rfl (hb hby d19_33) _ ?_
    refine XS.icmpYes X3.here hx rfl (pc0 := 34) (pc' := 53) rfl (hb hby d19_34) rfl (tlt (own_nlt (by omega) (by omega))).1 (by decide) (by decide) ?_
    refine XS.aloadN X3.here hx rfl (hb hby d19_53) rfl rfl ?_
    refine st4 _ ?_
    refine XS.iload X4.here hx rfl (hb hby d19_57) rfl ?_
    refine own_ldIN X4 hx hZ e4 (L0.aI 7 (by decide)) (i := nd * 64) (x := (Int32.ofNat (lf))) (by omega) (congrArg Value.int (show (I 7 (nd * 64)) = (Int32.ofNat (lf)) from Y7)) (g := (mkF m 59 #[vR a1, vN (tr), vN (r1), vN (nd), vI 1, vN (nd * 64)] [(.int (Int32.ofNat (nd * 64))), (.ref (A 7))])) rfl rfl (hb hby d19_59) _ ?_
    refine XS.istoreN X4.here hx rfl (hb hby d19_60) rfl (l' := #[vR a1, vN (tr), vN (r1), vN (lf), vI 1, vN (nd * 64)]) rfl ?_
    show Steps p.tables e below (T4.setTop (mkF m 61 #[vR a1, vN (tr), vN (r1), vN (lf), vI 1, vN (nd * 64)] [])) _
    refine XS.iinc X4.here hx rfl (hb hby d19_61) rfl (l' := #[vR a1, vN (tr), vN (r1), vN (lf), vI 0, vN (nd * 64)]) rfl ?_
    refine XS.goto X4.here hx rfl (pc0 := 64) (pc' := 15) rfl (hb hby d19_64) (by decide) (by decide) ?_
    refine XS.iload X4.here hx rfl (hb hby d19_15) rfl ?_
    refine XS.ifYes X4.here hx rfl (pc0 := 17) (pc' := 67) rfl (hb hby d19_17) rfl ((if0 _ _).trans (flt (by decide : ¬ ((0 : Int32) < (0 : Int32)))).2.2.2) (by decide) (by decide) ?_
    refine XS.aloadN X4.here hx rfl (hb hby d19_67) rfl rfl ?_
    refine st5 _ ?_
    refine XS.iloadN X5.here hx rfl (hb hby d19_71) rfl ?_
    refine own_ldAN X5 hx hZ e5 L0.Mo.1 rfl (i := lf) (v := (.ref b1)) (by omega) (own_mref hM) (g := (mkF m 72 #[vR a1, vN (tr), vN (r1), vN (lf), vI 0, vN (nd * 64)] [(.int (Int32.ofNat (lf))), (.ref (A 22))])) rfl rfl (hb hby d19_72) _ ?_
    refine XS.iloadN X5.here hx rfl (hb hby d19_73) rfl ?_
    refine own_ldIN X5 hx hZ e5 (L0.Bo (by omega) hM) (i := r1) (x := (Int32.ofNat (x1))) (by omega) (congrArg Value.int (show (B (lf) (r1)) = (Int32.ofNat (x1)) from hB)) (g := (mkF m 74 #[vR a1, vN (tr), vN (r1), vN (lf), vI 0, vN (nd * 64)] [(.int (Int32.ofNat (r1))), (.ref b1)])) rfl rfl (hb hby d19_74) _ ?_
    show Steps p.tables e below (T5.setTop (mkF m 75 #[vR a1, vN (tr), vN (r1), vN (lf), vI 0, vN (nd * 64)] [(.int (Int32.ofNat (x1)))])) _
    exact retI X5 hx Bd.returns (hb hby d19_75) hr
  · show QrmAt0 Z a1 A N I J cc M B nb nd tr r1 lf x1 b1 k0 h0 n0 _ T5.heap _
    rw [e5]
    exact ⟨rfl, N0, rfl⟩
theorem d19_37 : decode q18 37 = .ok (.iload_n 2, 1) := by decide +kernel
theorem d19_38 : decode q18 38 = .ok (.aload_n 0, 1) := by decide +kernel
theorem d19_39 : decode q18 39 = .ok (.getfield 55, 3) := by decide +kernel
theorem d19_42 : decode q18 42 = .ok (.iload 5, 2) := by decide +kernel
theorem d19_44 : decode q18 44 = .ok (.iinc 5 1, 3) := by decide +kernel
theorem d19_47 : decode q18 47 = .ok (.iaload, 1) := by decide +kernel
theorem d19_48 : decode q18 48 = .ok (.isub, 1) := by decide +kernel
theorem d19_49 : decode q18 49 = .ok (.istore_n 2, 1) := by decide +kernel
theorem d19_50 : decode q18 50 = .ok (.goto (-24), 3) := by decide +kernel
theorem ef_rmAt1 (m : MethodId) (x0 : Addr) (x1 : Int32) (x2 : Int32) : entryFrame m #[(.ref x0), (.int x1), (.int x2)] 6 = mkF m 0 #[vR x0, .val (.int x1), .val (.int x2), uu, uu, uu] [] := by first | (simp [entryFrame, mkF, argsToLocals, Value.category]; done) | rfl
def QrmAt1 (Z : State) (a1 : Addr) (A : Nat → Addr) (N : Nat → Nat) (I : Nat → Nat → Int32) (J : Nat → Nat → Int64) (cc : Nat → Int32) (M : Nat → Option Addr) (B : Nat → Nat → Int32) (nb nd tr r1 lf x1 : Nat) (b1 : Addr) (k0 k1 : Nat) (h0 : Heap) (n0 : Nat) (v : Option Value) (h : Heap) (L : List Loc) : Prop := v = some (.int (Int32.ofNat x1)) ∧ Fr n0 L ∧ h = h0
set_option maxRecDepth 65536 in
set_option maxHeartbeats 40000000 in
theorem rmAt1 (l : Launch) (Z : State) (a0 : Array Value) (hw : ∀ d ∈ tables_1, d.before a0 Z = true) (ws : List Jvm.Cond) (a1 : Addr) (A : Nat → Addr) (N : Nat → Nat) (I : Nat → Nat → Int32) (J : Nat → Nat → Int64) (cc : Nat → Int32) (M : Nat → Option Addr) (B : Nat → Nat → Int32) (nb nd tr r1 lf x1 : Nat) (b1 : Addr) (k0 k1 : Nat) (h0 : Heap) (n0 : Nat) (Z0 : n0 ≤ h0.size) (L0 : LT Z h0 n0 a1 A N I J cc M B) (hS : SZ N nb) (hnd : nd < nb) (hnb : nb < 1000) (htr : tr < 2) (Y2 : I 2 tr = Int32.ofNat nd) (Y12 : I 12 nd = (1 : Int32)) (h8_0 : I 8 (nd * 64) = Int32.ofNat k0) (h8_1 : I 8 (nd * 64 + 1) = Int32.ofNat k1) (hk0 : k0 < 10) (hk1 : k1 < 10) (Y7 : I 7 (nd * 64 + 1) = Int32.ofNat lf) (hlf : lf < 4) (hM : M lf = some b1) (hr1 : k0 ≤ r1) (hr2 : r1 < k0 + k1) (hr4 : k1 ≤ 4) (hB : B lf (r1 - k0) = Int32.ofNat x1) :
    MetFree l (⟨"com/example/ebbtide/ebbtide/cluster/LoadTrees", "at", "(II)I"⟩ : MethodName) (head1 (Jvm.Cond.code (⟨"com/example/ebbtide/ebbtide/cluster/LoadTrees", "at", "(II)I"⟩ : MethodName) prog_74_method_4_code 6 (some .int) :: ws) ({ frames := 0, cells := 0, slots := 0, locals := 0 } : Room)) (fun a U => a = #[(.ref a1), (.int (Int32.ofNat (tr))), (.int (Int32.ofNat (r1)))] ∧ Z.Warmed39 U.vm ∧ U.heap = h0) (fun _ _ _ _ _ => True) (fun _ U o U' => ∃ v L, o = .returned v ∧ QrmAt1 Z a1 A N I J cc M B nb nd tr r1 lf x1 b1 k0 k1 h0 n0 v U'.heap L ∧ FrameEnd U o U' L ({ frames := 0, cells := 0, slots := 0, locals := 0 } : Room).cells ({ frames := 0, cells := 0, slots := 0, locals := 0 } : Room).slots) := by
  refine MetFree.of_bodySF (plainFor_of_name pn_com_example_ebbtide_ebbtide_cluster_LoadTrees) hisR ?_
  intro p e s m args below meth c s₁ Bd hml0 hP hK
  obtain ⟨rfl, hZ, hh⟩ := hP
  have hx := Bd.exec
  have hby := Bd.bytes
  have hml : c.maxLocals = 6 := hml0
  have hown : s.vm.findClass "com/example/ebbtide/ebbtide/cluster/LoadTrees" = some m.cls := findClass_of_methodNamed Bd.named
  have hnm := (name_of_methodNamed Bd.named Bd.method).1
  have X0 : Stand p l e ({ frames := 0, cells := 0, slots := 0, locals := 0 } : Room) s m #[(.ref a1), (.int (Int32.ofNat (tr))), (.int (Int32.ofNat (r1)))] below meth c s₁ [] 0 0 := Stand.of_body Bd
  have e0 : s₁.heap = h0 := by rw [← hh, Bd.state]; rfl
  have N0 := Fr.nil n0
  have pre0 : ∀ t, Steps p.tables e below (s₁.setTop (mkF m 0 #[vR a1, vN (tr), vN (r1), uu, uu, uu] [])) t → Steps p.tables e below (s₁.setTop (entryFrame m #[(.ref a1), (.int (Int32.ofNat (tr))), (.int (Int32.ofNat (r1)))] 6)) t := fun t k => castTop (ef_rmAt1 m a1 (Int32.ofNat (tr)) (Int32.ofNat (r1))) k
  obtain ⟨S0, S1, S2, S3, S4, S5, S6, S7, S8, S9, S10, S11, S12, S13, S14, S15, S16, S17, S18, S19, S20, S21, S22⟩ := hS
  obtain ⟨T1, X1, e1, st1⟩ := getF X0 hx hZ hown (host := "") (Or.inl (tw hw 32 rfl)) Via.refl e0 (L0.FI 2 (by decide) rfl) (g := (mkF m 1 #[vR a1, vN (tr), vN (r1), uu, uu, uu] [(.ref a1)])) rfl rfl (hb hby d19_1)
  obtain ⟨T2, X2, e2, st2⟩ := getF X1 hx hZ hown (host := "") (Or.inl (tw hw 66 rfl)) Via.refl e1 (L0.FI 12 (by decide) rfl) (g := (mkF m 8 #[vR a1, vN (tr), vN (r1), vN (nd), uu, uu] [(.ref a1)])) rfl rfl (hb hby d19_8)
  obtain ⟨T3, X3, e3, st3⟩ := getF X2 hx hZ hown (host := "") (Or.inl (tw hw 52 rfl)) Via.refl e2 (L0.FI 8 (by decide) rfl) (g := (mkF m 28 #[vR a1, vN (tr), vN (r1), vN (nd), vI 1, vN (nd * 64)] [(.ref a1), (.int (Int32.ofNat (r1)))])) rfl rfl (hb hby d19_28)
  obtain ⟨T4, X4, e4, st4⟩ := getF X3 hx hZ hown (host := "") (Or.inl (tw hw 52 rfl)) Via.refl e3 (L0.FI 8 (by decide) rfl) (g := (mkF m 39 #[vR a1, vN (tr), vN (r1), vN (nd), vI 1, vN (nd * 64)] [(.ref a1), (.int (Int32.ofNat (r1)))])) rfl rfl (hb hby d19_39)
  obtain ⟨T5, X5, e5, st5⟩ := getF X4 hx hZ hown (host := "") (Or.inl (tw hw 52 rfl)) Via.refl e4 (L0.FI 8 (by decide) rfl) (g := (mkF m 28 #[vR a1, vN (tr), vN (r1 - k0), vN (nd), vI 1, vN (nd * 64 + 1)] [(.ref a1), (.int (Int32.ofNat (r1 - k0)))])) rfl rfl (hb hby d19_28)
  obtain ⟨T6, X6, e6, st6⟩ := getF X5 hx hZ hown (host := "") (Or.inl (tw hw 50 rfl)) Via.refl e5 (L0.FI 7 (by decide) rfl) (g := (mkF m 54 #[vR a1, vN (tr), vN (r1 - k0), vN (nd), vI 1, vN (nd * 64 + 1)] [(.ref a1)])) rfl rfl (hb hby d19_54)
  obtain ⟨T7, X7, e7, st7⟩ := getF X6 hx hZ hown (host := "") (Or.inl (tw hw 36 rfl)) Via.refl e6 L0.FM (g := (mkF m 68 #[vR a1, vN (tr), vN (r1 - k0), vN (lf), vI 0, vN (nd * 64 + 1)] [(.ref a1)])) rfl rfl (hb hby d19_68)
  obtain ⟨fs, hr, hrun, hended, hW, hsame⟩ := X7.leave (v := some (.int (Int32.ofNat (x1)))) (fun h => by rw [Bd.returns] at h; cases h)
  refine ⟨_, _, pre0 _ (?_), hrun, hended, _, _, rfl, ?_, ⟨_, rfl⟩, hW, hsame.mono (by decide) (by decide)⟩
  · show Steps p.tables e below (s₁.setTop (mkF m 0 #[vR a1, vN (tr), vN (r1), uu, uu, uu] [])) _
    refine XS.aloadN X0.here hx rfl (hb hby d19_0) rfl rfl ?_
    refine st1 _ ?_
    refine XS.iloadN X1.here hx rfl (hb hby d19_4) rfl ?_
    refine own_ldIN X1 hx hZ e1 (L0.aI 2 (by decide)) (i := tr) (x := (Int32.ofNat (nd))) (by omega) (congrArg Value.int (show (I 2 (tr)) = (Int32.ofNat (nd)) from Y2)) (g := (mkF m 5 #[vR a1, vN (tr), vN (r1), uu, uu, uu] [(.int (Int32.ofNat (tr))), (.ref (A 2))])) rfl rfl (hb hby d19_5) _ ?_
    refine XS.istoreN X1.here hx rfl (hb hby d19_6) rfl (l' := #[vR a1, vN (tr), vN (r1), vN (nd), uu, uu]) rfl ?_
    refine XS.aloadN X1.here hx rfl (hb hby d19_7) rfl rfl ?_
    refine st2 _ ?_
    refine XS.iloadN X2.here hx rfl (hb hby d19_11) rfl ?_
    refine own_ldIN X2 hx hZ e2 (L0.aI 12 (by decide)) (i := nd) (x := (1 : Int32)) (by omega) (congrArg Value.int (show (I 12 (nd)) = (1 : Int32) from Y12)) (g := (mkF m 12 #[vR a1, vN (tr), vN (r1), vN (nd), uu, uu] [(.int (Int32.ofNat (nd))), (.ref (A 12))])) rfl rfl (hb hby d19_12) _ ?_
    refine XS.istore X2.here hx rfl (hb hby d19_13) rfl (l' := #[vR a1, vN (tr), vN (r1), vN (nd), vI 1, uu]) rfl ?_
    refine XS.iload X2.here hx rfl (hb hby d19_15) rfl ?_
    refine XS.ifNo X2.here hx rfl (hb hby d19_17) rfl ((if0 _ _).trans (tlt (by decide : (0 : Int32) < (1 : Int32))).2.2.2) ?_
    show Steps p.tables e below (T2.setTop (mkF m 20 #[vR a1, vN (tr), vN (r1), vN (nd), vI 1, uu] [])) _
    refine XS.iloadN X2.here hx rfl (hb hby d19_20) rfl ?_
    refine XS.bipush X2.here hx rfl (hb hby d19_21) ?_
    refine XS.imul X2.here hx rfl (hb hby d19_23) rfl ?_
    show Steps p.tables e below (T2.setTop (mkF m 24 #[vR a1, vN (tr), vN (r1), vN (nd), vI 1, uu] [(.int ((Int32.ofNat (nd)) * (64 : Int32)))])) _
    rw [show (Int32.ofNat (nd)) * (64 : Int32) = Int32.ofNat (nd * 64) from own_nm (nd) (64)]
    show Steps p.tables e below (T2.setTop (mkF m 24 #[vR a1, vN (tr), vN (r1), vN (nd), vI 1, uu] [(.int (Int32.ofNat (nd * 64)))])) _
    refine XS.istore X2.here hx rfl (hb hby d19_24) rfl (l' := #[vR a1, vN (tr), vN (r1), vN (nd), vI 1, vN (nd * 64)]) rfl ?_
    refine XS.iloadN X2.here hx rfl (hb hby d19_26) rfl ?_
    refine XS.aloadN X2.here hx rfl (hb hby d19_27) rfl rfl ?_
    refine st3 _ ?_
    refine XS.iload X3.here hx rfl (hb hby d19_31) rfl ?_
    refine own_ldIN X3 hx hZ e3 (L0.aI 8 (by decide)) (i := nd * 64) (x := (Int32.ofNat (k0))) (by omega) (congrArg Value.int (show (I 8 (nd * 64)) = (Int32.ofNat (k0)) from h8_0)) (g := (mkF m 33 #[vR a1, vN (tr), vN (r1), vN (nd), vI 1, vN (nd * 64)] [(.int (Int32.ofNat (nd * 64))), (.ref (A 8)), (.int (Int32.ofNat (r1)))])) rfl rfl (hb hby d19_33) _ ?_
    refine XS.icmpNo X3.here hx rfl (hb hby d19_34) rfl (flt (own_nge (by omega) (by omega))).1 ?_
    refine XS.iloadN X3.here hx rfl (hb hby d19_37) rfl ?_
    refine XS.aloadN X3.here hx rfl (hb hby d19_38) rfl rfl ?_
    refine st4 _ ?_
    refine XS.iload X4.here hx rfl (hb hby d19_42) rfl ?_
    refine XS.iinc X4.here hx rfl (hb hby d19_44) rfl (l' := #[vR a1, vN (tr), vN (r1), vN (nd), vI 1, .val (.int ((Int32.ofNat (nd * 64)) + (1 : Int32)))]) rfl ?_
    show Steps p.tables e below (T4.setTop (mkF m 47 #[vR a1, vN (tr), vN (r1), vN (nd), vI 1, .val (.int ((Int32.ofNat (nd * 64)) + (1 : Int32)))] [(.int (Int32.ofNat (nd * 64))), (.ref (A 8)), (.int (Int32.ofNat (r1)))])) _
    rw [show ((Int32.ofNat (nd * 64)) + (1 : Int32)) = Int32.ofNat (nd * 64 + 1) from own_na (nd * 64) (1)]
    show Steps p.tables e below (T4.setTop (mkF m 47 #[vR a1, vN (tr), vN (r1), vN (nd), vI 1, vN (nd * 64 + 1)] [(.int (Int32.ofNat (nd * 64))), (.ref (A 8)), (.int (Int32.ofNat (r1)))])) _
    refine own_ldIN X4 hx hZ e4 (L0.aI 8 (by decide)) (i := nd * 64) (x := (Int32.ofNat (k0))) (by omega) (congrArg Value.int (show (I 8 (nd * 64)) = (Int32.ofNat (k0)) from h8_0)) (g := (mkF m 47 #[vR a1, vN (tr), vN (r1), vN (nd), vI 1, vN (nd * 64 + 1)] [(.int (Int32.ofNat (nd * 64))), (.ref (A 8)), (.int (Int32.ofNat (r1)))])) rfl rfl (hb hby d19_47) _ ?_
    refine XS.isub X4.here hx rfl (hb hby d19_48) rfl ?_
    show Steps p.tables e below (T4.setTop (mkF m 49 #[vR a1, vN (tr), vN (r1), vN (nd), vI 1, vN (nd * 64 + 1)] [(.int ((Int32.ofNat (r1)) - (Int32.ofNat (k0))))])) _
    rw [show (Int32.ofNat (r1)) - (Int32.ofNat (k0)) = Int32.ofNat (r1 - k0) from own_ns (a := r1) (b := k0) (by omega)]
    show Steps p.tables e below (T4.setTop (mkF m 49 #[vR a1, vN (tr), vN (r1), vN (nd), vI 1, vN (nd * 64 + 1)] [(.int (Int32.ofNat (r1 - k0)))])) _
    refine XS.istoreN X4.here hx rfl (hb hby d19_49) rfl (l' := #[vR a1, vN (tr), vN (r1 - k0), vN (nd), vI 1, vN (nd * 64 + 1)]) rfl ?_
    refine XS.goto X4.here hx rfl (pc0 := 50) (pc' := 26) rfl (hb hby d19_50) (by decide) (by decide) ?_
    refine XS.iloadN X4.here hx rfl (hb hby d19_26) rfl ?_
    refine XS.aloadN X4.here hx rfl (hb hby d19_27) rfl rfl ?_
    refine st5 _ ?_
    refine XS.iload X5.here hx rfl (hb hby d19_31) rfl ?_
    refine own_ldIN X5 hx hZ e5 (L0.aI 8 (by decide)) (i := nd * 64 + 1) (x := (Int32.ofNat (k1))) (by omega) (congrArg Value.int (show (I 8 (nd * 64 + 1)) = (Int32.ofNat (k1)) from h8_1)) (g := (mkF m 33 #[vR a1, vN (tr), vN (r1 - k0), vN (nd), vI 1, vN (nd * 64 + 1)] [(.int (Int32.ofNat (nd * 64 + 1))), (.ref (A 8)), (.int (Int32.ofNat (r1 - k0)))])) rfl rfl (hb hby d19_33) _ ?_
    refine XS.icmpYes X5.here hx rfl (pc0 := 34) (pc' := 53) rfl (hb hby d19_34) rfl (tlt (own_nlt (by omega) (by omega))).1 (by decide) (by decide) ?_
    refine XS.aloadN X5.here hx rfl (hb hby d19_53) rfl rfl ?_
    refine st6 _ ?_
    refine XS.iload X6.here hx rfl (hb hby d19_57) rfl ?_
    refine own_ldIN X6 hx hZ e6 (L0.aI 7 (by decide)) (i := nd * 64 + 1) (x := (Int32.ofNat (lf))) (by omega) (congrArg Value.int (show (I 7 (nd * 64 + 1)) = (Int32.ofNat (lf)) from Y7)) (g := (mkF m 59 #[vR a1, vN (tr), vN (r1 - k0), vN (nd), vI 1, vN (nd * 64 + 1)] [(.int (Int32.ofNat (nd * 64 + 1))), (.ref (A 7))])) rfl rfl (hb hby d19_59) _ ?_
    show Steps p.tables e below (T6.setTop (mkF m 60 #[vR a1, vN (tr), vN (r1 - k0), vN (nd), vI 1, vN (nd * 64 + 1)] [(.int (Int32.ofNat (lf)))])) _
    refine XS.istoreN X6.here hx rfl (hb hby d19_60) rfl (l' := #[vR a1, vN (tr), vN (r1 - k0), vN (lf), vI 1, vN (nd * 64 + 1)]) rfl ?_
    refine XS.iinc X6.here hx rfl (hb hby d19_61) rfl (l' := #[vR a1, vN (tr), vN (r1 - k0), vN (lf), vI 0, vN (nd * 64 + 1)]) rfl ?_
    refine XS.goto X6.here hx rfl (pc0 := 64) (pc' := 15) rfl (hb hby d19_64) (by decide) (by decide) ?_
    refine XS.iload X6.here hx rfl (hb hby d19_15) rfl ?_
    refine XS.ifYes X6.here hx rfl (pc0 := 17) (pc' := 67) rfl (hb hby d19_17) rfl ((if0 _ _).trans (flt (by decide : ¬ ((0 : Int32) < (0 : Int32)))).2.2.2) (by decide) (by decide) ?_
    refine XS.aloadN X6.here hx rfl (hb hby d19_67) rfl rfl ?_
    refine st7 _ ?_
    refine XS.iloadN X7.here hx rfl (hb hby d19_71) rfl ?_
    refine own_ldAN X7 hx hZ e7 L0.Mo.1 rfl (i := lf) (v := (.ref b1)) (by omega) (own_mref hM) (g := (mkF m 72 #[vR a1, vN (tr), vN (r1 - k0), vN (lf), vI 0, vN (nd * 64 + 1)] [(.int (Int32.ofNat (lf))), (.ref (A 22))])) rfl rfl (hb hby d19_72) _ ?_
    refine XS.iloadN X7.here hx rfl (hb hby d19_73) rfl ?_
    refine own_ldIN X7 hx hZ e7 (L0.Bo (by omega) hM) (i := r1 - k0) (x := (Int32.ofNat (x1))) (by omega) (congrArg Value.int (show (B (lf) (r1 - k0)) = (Int32.ofNat (x1)) from hB)) (g := (mkF m 74 #[vR a1, vN (tr), vN (r1 - k0), vN (lf), vI 0, vN (nd * 64 + 1)] [(.int (Int32.ofNat (r1 - k0))), (.ref b1)])) rfl rfl (hb hby d19_74) _ ?_
    show Steps p.tables e below (T7.setTop (mkF m 75 #[vR a1, vN (tr), vN (r1 - k0), vN (lf), vI 0, vN (nd * 64 + 1)] [(.int (Int32.ofNat (x1)))])) _
    exact retI X7 hx Bd.returns (hb hby d19_75) hr
  · show QrmAt1 Z a1 A N I J cc M B nb nd tr r1 lf x1 b1 k0 k1 h0 n0 _ T7.heap _
    rw [e7]
    exact ⟨rfl, N0, rfl⟩
theorem ef_rmAt2 (m : MethodId) (x0 : Addr) (x1 : Int32) (x2 : Int32) : entryFrame m #[(.ref x0), (.int x1), (.int x2)] 6 = mkF m 0 #[vR x0, .val (.int x1), .val (.int x2), uu, uu, uu] [] := by first | (simp [entryFrame, mkF, argsToLocals, Value.category]; done) | rfl
def QrmAt2 (Z : State) (a1 : Addr) (A : Nat → Addr) (N : Nat → Nat) (I : Nat → Nat → Int32) (J : Nat → Nat → Int64) (cc : Nat → Int32) (M : Nat → Option Addr) (B : Nat → Nat → Int32) (nb nd tr r1 lf x1 : Nat) (b1 : Addr) (k0 k1 k2 : Nat) (h0 : Heap) (n0 : Nat) (v : Option Value) (h : Heap) (L : List Loc) : Prop := v = some (.int (Int32.ofNat x1)) ∧ Fr n0 L ∧ h = h0
set_option maxRecDepth 65536 in
set_option maxHeartbeats 40000000 in
theorem rmAt2 (l : Launch) (Z : State) (a0 : Array Value) (hw : ∀ d ∈ tables_1, d.before a0 Z = true) (ws : List Jvm.Cond) (a1 : Addr) (A : Nat → Addr) (N : Nat → Nat) (I : Nat → Nat → Int32) (J : Nat → Nat → Int64) (cc : Nat → Int32) (M : Nat → Option Addr) (B : Nat → Nat → Int32) (nb nd tr r1 lf x1 : Nat) (b1 : Addr) (k0 k1 k2 : Nat) (h0 : Heap) (n0 : Nat) (Z0 : n0 ≤ h0.size) (L0 : LT Z h0 n0 a1 A N I J cc M B) (hS : SZ N nb) (hnd : nd < nb) (hnb : nb < 1000) (htr : tr < 2) (Y2 : I 2 tr = Int32.ofNat nd) (Y12 : I 12 nd = (1 : Int32)) (h8_0 : I 8 (nd * 64) = Int32.ofNat k0) (h8_1 : I 8 (nd * 64 + 1) = Int32.ofNat k1) (h8_2 : I 8 (nd * 64 + 1 + 1) = Int32.ofNat k2) (hk0 : k0 < 10) (hk1 : k1 < 10) (hk2 : k2 < 10) (Y7 : I 7 (nd * 64 + 1 + 1) = Int32.ofNat lf) (hlf : lf < 4) (hM : M lf = some b1) (hr1 : k0 + k1 ≤ r1) (hr2 : r1 < k0 + k1 + k2) (hr4 : k2 ≤ 4) (hB : B lf (r1 - k0 - k1) = Int32.ofNat x1) :
    MetFree l (⟨"com/example/ebbtide/ebbtide/cluster/LoadTrees", "at", "(II)I"⟩ : MethodName) (head1 (Jvm.Cond.code (⟨"com/example/ebbtide/ebbtide/cluster/LoadTrees", "at", "(II)I"⟩ : MethodName) prog_74_method_4_code 6 (some .int) :: ws) ({ frames := 0, cells := 0, slots := 0, locals := 0 } : Room)) (fun a U => a = #[(.ref a1), (.int (Int32.ofNat (tr))), (.int (Int32.ofNat (r1)))] ∧ Z.Warmed39 U.vm ∧ U.heap = h0) (fun _ _ _ _ _ => True) (fun _ U o U' => ∃ v L, o = .returned v ∧ QrmAt2 Z a1 A N I J cc M B nb nd tr r1 lf x1 b1 k0 k1 k2 h0 n0 v U'.heap L ∧ FrameEnd U o U' L ({ frames := 0, cells := 0, slots := 0, locals := 0 } : Room).cells ({ frames := 0, cells := 0, slots := 0, locals := 0 } : Room).slots) := by
  refine MetFree.of_bodySF (plainFor_of_name pn_com_example_ebbtide_ebbtide_cluster_LoadTrees) hisR ?_
  intro p e s m args below meth c s₁ Bd hml0 hP hK
  obtain ⟨rfl, hZ, hh⟩ := hP
  have hx := Bd.exec
  have hby := Bd.bytes
  have hml : c.maxLocals = 6 := hml0
  have hown : s.vm.findClass "com/example/ebbtide/ebbtide/cluster/LoadTrees" = some m.cls := findClass_of_methodNamed Bd.named
  have hnm := (name_of_methodNamed Bd.named Bd.method).1
  have X0 : Stand p l e ({ frames := 0, cells := 0, slots := 0, locals := 0 } : Room) s m #[(.ref a1), (.int (Int32.ofNat (tr))), (.int (Int32.ofNat (r1)))] below meth c s₁ [] 0 0 := Stand.of_body Bd
  have e0 : s₁.heap = h0 := by rw [← hh, Bd.state]; rfl
  have N0 := Fr.nil n0
  have pre0 : ∀ t, Steps p.tables e below (s₁.setTop (mkF m 0 #[vR a1, vN (tr), vN (r1), uu, uu, uu] [])) t → Steps p.tables e below (s₁.setTop (entryFrame m #[(.ref a1), (.int (Int32.ofNat (tr))), (.int (Int32.ofNat (r1)))] 6)) t := fun t k => castTop (ef_rmAt2 m a1 (Int32.ofNat (tr)) (Int32.ofNat (r1))) k
  obtain ⟨S0, S1, S2, S3, S4, S5, S6, S7, S8, S9, S10, S11, S12, S13, S14, S15, S16, S17, S18, S19, S20, S21, S22⟩ := hS
  obtain ⟨T1, X1, e1, st1⟩ := getF X0 hx hZ hown (host := "") (Or.inl (tw hw 32 rfl)) Via.refl e0 (L0.FI 2 (by decide) rfl) (g := (mkF m 1 #[vR a1, vN (tr), vN (r1), uu, uu, uu] [(.ref a1)])) rfl rfl (hb hby d19_1)
  obtain ⟨T2, X2, e2, st2⟩ := getF X1 hx hZ hown (host := "") (Or.inl (tw hw 66 rfl)) Via.refl e1 (L0.FI 12 (by decide) rfl) (g := (mkF m 8 #[vR a1, vN (tr), vN (r1), vN (nd), uu, uu] [(.ref a1)])) rfl rfl (hb hby d19_8)
  obtain ⟨T3, X3, e3, st3⟩ := getF X2 hx hZ hown (host := "") (Or.inl (tw hw 52 rfl)) Via.refl e2 (L0.FI 8 (by decide) rfl) (g := (mkF m 28 #[vR a1, vN (tr), vN (r1), vN (nd), vI 1, vN (nd * 64)] [(.ref a1), (.int (Int32.ofNat (r1)))])) rfl rfl (hb hby d19_28)
  obtain ⟨T4, X4, e4, st4⟩ := getF X3 hx hZ hown (host := "") (Or.inl (tw hw 52 rfl)) Via.refl e3 (L0.FI 8 (by decide) rfl) (g := (mkF m 39 #[vR a1, vN (tr), vN (r1), vN (nd), vI 1, vN (nd * 64)] [(.ref a1), (.int (Int32.ofNat (r1)))])) rfl rfl (hb hby d19_39)
  obtain ⟨T5, X5, e5, st5⟩ := getF X4 hx hZ hown (host := "") (Or.inl (tw hw 52 rfl)) Via.refl e4 (L0.FI 8 (by decide) rfl) (g := (mkF m 28 #[vR a1, vN (tr), vN (r1 - k0), vN (nd), vI 1, vN (nd * 64 + 1)] [(.ref a1), (.int (Int32.ofNat (r1 - k0)))])) rfl rfl (hb hby d19_28)
  obtain ⟨T6, X6, e6, st6⟩ := getF X5 hx hZ hown (host := "") (Or.inl (tw hw 52 rfl)) Via.refl e5 (L0.FI 8 (by decide) rfl) (g := (mkF m 39 #[vR a1, vN (tr), vN (r1 - k0), vN (nd), vI 1, vN (nd * 64 + 1)] [(.ref a1), (.int (Int32.ofNat (r1 - k0)))])) rfl rfl (hb hby d19_39)
  obtain ⟨T7, X7, e7, st7⟩ := getF X6 hx hZ hown (host := "") (Or.inl (tw hw 52 rfl)) Via.refl e6 (L0.FI 8 (by decide) rfl) (g := (mkF m 28 #[vR a1, vN (tr), vN ((r1 - k0) - k1), vN (nd), vI 1, vN (nd * 64 + 1 + 1)] [(.ref a1), (.int (Int32.ofNat ((r1 - k0) - k1)))])) rfl rfl (hb hby d19_28)
  obtain ⟨T8, X8, e8, st8⟩ := getF X7 hx hZ hown (host := "") (Or.inl (tw hw 50 rfl)) Via.refl e7 (L0.FI 7 (by decide) rfl) (g := (mkF m 54 #[vR a1, vN (tr), vN ((r1 - k0) - k1), vN (nd), vI 1, vN (nd * 64 + 1 + 1)] [(.ref a1)])) rfl rfl (hb hby d19_54)
  obtain ⟨T9, X9, e9, st9⟩ := getF X8 hx hZ hown (host := "") (Or.inl (tw hw 36 rfl)) Via.refl e8 L0.FM (g := (mkF m 68 #[vR a1, vN (tr), vN ((r1 - k0) - k1), vN (lf), vI 0, vN (nd * 64 + 1 + 1)] [(.ref a1)])) rfl rfl (hb hby d19_68)
  obtain ⟨fs, hr, hrun, hended, hW, hsame⟩ := X9.leave (v := some (.int (Int32.ofNat (x1)))) (fun h => by rw [Bd.returns] at h; cases h)
  refine ⟨_, _, pre0 _ (?_), hrun, hended, _, _, rfl, ?_, ⟨_, rfl⟩, hW, hsame.mono (by decide) (by decide)⟩
  · show Steps p.tables e below (s₁.setTop (mkF m 0 #[vR a1, vN (tr), vN (r1), uu, uu, uu] [])) _
    refine XS.aloadN X0.here hx rfl (hb hby d19_0) rfl rfl ?_
    refine st1 _ ?_
    refine XS.iloadN X1.here hx rfl (hb hby d19_4) rfl ?_
    refine own_ldIN X1 hx hZ e1 (L0.aI 2 (by decide)) (i := tr) (x := (Int32.ofNat (nd))) (by omega) (congrArg Value.int (show (I 2 (tr)) = (Int32.ofNat (nd)) from Y2)) (g := (mkF m 5 #[vR a1, vN (tr), vN (r1), uu, uu, uu] [(.int (Int32.ofNat (tr))), (.ref (A 2))])) rfl rfl (hb hby d19_5) _ ?_
    refine XS.istoreN X1.here hx rfl (hb hby d19_6) rfl (l' := #[vR a1, vN (tr), vN (r1), vN (nd), uu, uu]) rfl ?_
    refine XS.aloadN X1.here hx rfl (hb hby d19_7) rfl rfl ?_
    refine st2 _ ?_
    refine XS.iloadN X2.here hx rfl (hb hby d19_11) rfl ?_
    refine own_ldIN X2 hx hZ e2 (L0.aI 12 (by decide)) (i := nd) (x := (1 : Int32)) (by omega) (congrArg Value.int (show (I 12 (nd)) = (1 : Int32) from Y12)) (g := (mkF m 12 #[vR a1, vN (tr), vN (r1), vN (nd), uu, uu] [(.int (Int32.ofNat (nd))), (.ref (A 12))])) rfl rfl (hb hby d19_12) _ ?_
    refine XS.istore X2.here hx rfl (hb hby d19_13) rfl (l' := #[vR a1, vN (tr), vN (r1), vN (nd), vI 1, uu]) rfl ?_
    refine XS.iload X2.here hx rfl (hb hby d19_15) rfl ?_
    refine XS.ifNo X2.here hx rfl (hb hby d19_17) rfl ((if0 _ _).trans (tlt (by decide : (0 : Int32) < (1 : Int32))).2.2.2) ?_
    show Steps p.tables e below (T2.setTop (mkF m 20 #[vR a1, vN (tr), vN (r1), vN (nd), vI 1, uu] [])) _
    refine XS.iloadN X2.here hx rfl (hb hby d19_20) rfl ?_
    refine XS.bipush X2.here hx rfl (hb hby d19_21) ?_
    refine XS.imul X2.here hx rfl (hb hby d19_23) rfl ?_
    show Steps p.tables e below (T2.setTop (mkF m 24 #[vR a1, vN (tr), vN (r1), vN (nd), vI 1, uu] [(.int ((Int32.ofNat (nd)) * (64 : Int32)))])) _
    rw [show (Int32.ofNat (nd)) * (64 : Int32) = Int32.ofNat (nd * 64) from own_nm (nd) (64)]
    show Steps p.tables e below (T2.setTop (mkF m 24 #[vR a1, vN (tr), vN (r1), vN (nd), vI 1, uu] [(.int (Int32.ofNat (nd * 64)))])) _
    refine XS.istore X2.here hx rfl (hb hby d19_24) rfl (l' := #[vR a1, vN (tr), vN (r1), vN (nd), vI 1, vN (nd * 64)]) rfl ?_
    refine XS.iloadN X2.here hx rfl (hb hby d19_26) rfl ?_
    refine XS.aloadN X2.here hx rfl (hb hby d19_27) rfl rfl ?_
    refine st3 _ ?_
    refine XS.iload X3.here hx rfl (hb hby d19_31) rfl ?_
    refine own_ldIN X3 hx hZ e3 (L0.aI 8 (by decide)) (i := nd * 64) (x := (Int32.ofNat (k0))) (by omega) (congrArg Value.int (show (I 8 (nd * 64)) = (Int32.ofNat (k0)) from h8_0)) (g := (mkF m 33 #[vR a1, vN (tr), vN (r1), vN (nd), vI 1, vN (nd * 64)] [(.int (Int32.ofNat (nd * 64))), (.ref (A 8)), (.int (Int32.ofNat (r1)))])) rfl rfl (hb hby d19_33) _ ?_
    refine XS.icmpNo X3.here hx rfl (hb hby d19_34) rfl (flt (own_nge (by omega) (by omega))).1 ?_
    refine XS.iloadN X3.here hx rfl (hb hby d19_37) rfl ?_
    refine XS.aloadN X3.here hx rfl (hb hby d19_38) rfl rfl ?_
    refine st4 _ ?_
    refine XS.iload X4.here hx rfl (hb hby d19_42) rfl ?_
    refine XS.iinc X4.here hx rfl (hb hby d19_44) rfl (l' := #[vR a1, vN (tr), vN (r1), vN (nd), vI 1, .val (.int ((Int32.ofNat (nd * 64)) + (1 : Int32)))]) rfl ?_
    show Steps p.tables e below (T4.setTop (mkF m 47 #[vR a1, vN (tr), vN (r1), vN (nd), vI 1, .val (.int ((Int32.ofNat (nd * 64)) + (1 : Int32)))] [(.int (Int32.ofNat (nd * 64))), (.ref (A 8)), (.int (Int32.ofNat (r1)))])) _
    rw [show ((Int32.ofNat (nd * 64)) + (1 : Int32)) = Int32.ofNat (nd * 64 + 1) from own_na (nd * 64) (1)]
    show Steps p.tables e below (T4.setTop (mkF m 47 #[vR a1, vN (tr), vN (r1), vN (nd), vI 1, vN (nd * 64 + 1)] [(.int (Int32.ofNat (nd * 64))), (.ref (A 8)), (.int (Int32.ofNat (r1)))])) _
    refine own_ldIN X4 hx hZ e4 (L0.aI 8 (by decide)) (i := nd * 64) (x := (Int32.ofNat (k0))) (by omega) (congrArg Value.int (show (I 8 (nd * 64)) = (Int32.ofNat (k0)) from h8_0)) (g := (mkF m 47 #[vR a1, vN (tr), vN (r1), vN (nd), vI 1, vN (nd * 64 + 1)] [(.int (Int32.ofNat (nd * 64))), (.ref (A 8)), (.int (Int32.ofNat (r1)))])) rfl rfl (hb hby d19_47) _ ?_
    refine XS.isub X4.here hx rfl (hb hby d19_48) rfl ?_
    show Steps p.tables e below (T4.setTop (mkF m 49 #[vR a1, vN (tr), vN (r1), vN (nd), vI 1, vN (nd * 64 + 1)] [(.int ((Int32.ofNat (r1)) - (Int32.ofNat (k0))))])) _
    rw [show (Int32.ofNat (r1)) - (Int32.ofNat (k0)) = Int32.ofNat (r1 - k0) from own_ns (a := r1) (b := k0) (by omega)]
    show Steps p.tables e below (T4.setTop (mkF m 49 #[vR a1, vN (tr), vN (r1), vN (nd), vI 1, vN (nd * 64 + 1)] [(.int (Int32.ofNat (r1 - k0)))])) _
    refine XS.istoreN X4.here hx rfl (hb hby d19_49) rfl (l' := #[vR a1, vN (tr), vN (r1 - k0), vN (nd), vI 1, vN (nd * 64 + 1)]) rfl ?_
    refine XS.goto X4.here hx rfl (pc0 := 50) (pc' := 26) rfl (hb hby d19_50) (by decide) (by decide) ?_
    refine XS.iloadN X4.here hx rfl (hb hby d19_26) rfl ?_
    refine XS.aloadN X4.here hx rfl (hb hby d19_27) rfl rfl ?_
    refine st5 _ ?_
    refine XS.iload X5.here hx rfl (hb hby d19_31) rfl ?_
    refine own_ldIN X5 hx hZ e5 (L0.aI 8 (by decide)) (i := nd * 64 + 1) (x := (Int32.ofNat (k1))) (by omega) (congrArg Value.int (show (I 8 (nd * 64 + 1)) = (Int32.ofNat (k1)) from h8_1)) (g := (mkF m 33 #[vR a1, vN (tr), vN (r1 - k0), vN (nd), vI 1, vN (nd * 64 + 1)] [(.int (Int32.ofNat (nd * 64 + 1))), (.ref (A 8)), (.int (Int32.ofNat (r1 - k0)))])) rfl rfl (hb hby d19_33) _ ?_
    refine XS.icmpNo X5.here hx rfl (hb hby d19_34) rfl (flt (own_nge (by omega) (by omega))).1 ?_
    refine XS.iloadN X5.here hx rfl (hb hby d19_37) rfl ?_
    refine XS.aloadN X5.here hx rfl (hb hby d19_38) rfl rfl ?_
    refine st6 _ ?_
    refine XS.iload X6.here hx rfl (hb hby d19_42) rfl ?_
    show Steps p.tables e below (T6.setTop (mkF m 44 #[vR a1, vN (tr), vN (r1 - k0), vN (nd), vI 1, vN (nd * 64 + 1)] [(.int (Int32.ofNat (nd * 64 + 1))), (.ref (A 8)), (.int (Int32.ofNat (r1 - k0)))])) _
    refine XS.iinc X6.here hx rfl (hb hby d19_44) rfl (l' := #[vR a1, vN (tr), vN (r1 - k0), vN (nd), vI 1, .val (.int ((Int32.ofNat (nd * 64 + 1)) + (1 : Int32)))]) rfl ?_
    show Steps p.tables e below (T6.setTop (mkF m 47 #[vR a1, vN (tr), vN (r1 - k0), vN (nd), vI 1, .val (.int ((Int32.ofNat (nd * 64 + 1)) + (1 : Int32)))] [(.int (Int32.ofNat (nd * 64 + 1))), (.ref (A 8)), (.int (Int32.ofNat (r1 - k0)))])) _
    rw [show ((Int32.ofNat (nd * 64 + 1)) + (1 : Int32)) = Int32.ofNat (nd * 64 + 1 + 1) from own_na (nd * 64 + 1) (1)]
    show Steps p.tables e below (T6.setTop (mkF m 47 #[vR a1, vN (tr), vN (r1 - k0), vN (nd), vI 1, vN (nd * 64 + 1 + 1)] [(.int (Int32.ofNat (nd * 64 + 1))), (.ref (A 8)), (.int (Int32.ofNat (r1 - k0)))])) _
    refine own_ldIN X6 hx hZ e6 (L0.aI 8 (by decide)) (i := nd * 64 + 1) (x := (Int32.ofNat (k1))) (by omega) (congrArg Value.int (show (I 8 (nd * 64 + 1)) = (Int32.ofNat (k1)) from h8_1)) (g := (mkF m 47 #[vR a1, vN (tr), vN (r1 - k0), vN (nd), vI 1, vN (nd * 64 + 1 + 1)] [(.int (Int32.ofNat (nd * 64 + 1))), (.ref (A 8)), (.int (Int32.ofNat (r1 - k0)))])) rfl rfl (hb hby d19_47) _ ?_
    refine XS.isub X6.here hx rfl (hb hby d19_48) rfl ?_
    show Steps p.tables e below (T6.setTop (mkF m 49 #[vR a1, vN (tr), vN (r1 - k0), vN (nd), vI 1, vN (nd * 64 + 1 + 1)] [(.int ((Int32.ofNat (r1 - k0)) - (Int32.ofNat (k1))))])) _
    rw [show (Int32.ofNat (r1 - k0)) - (Int32.ofNat (k1)) = Int32.ofNat ((r1 - k0) - k1) from own_ns (a := r1 - k0) (b := k1) (by omega)]
    show Steps p.tables e below (T6.setTop (mkF m 49 #[vR a1, vN (tr), vN (r1 - k0), vN (nd), vI 1, vN (nd * 64 + 1 + 1)] [(.int (Int32.ofNat ((r1 - k0) - k1)))])) _
    refine XS.istoreN X6.here hx rfl (hb hby d19_49) rfl (l' := #[vR a1, vN (tr), vN ((r1 - k0) - k1), vN (nd), vI 1, vN (nd * 64 + 1 + 1)]) rfl ?_
    refine XS.goto X6.here hx rfl (pc0 := 50) (pc' := 26) rfl (hb hby d19_50) (by decide) (by decide) ?_
    refine XS.iloadN X6.here hx rfl (hb hby d19_26) rfl ?_
    refine XS.aloadN X6.here hx rfl (hb hby d19_27) rfl rfl ?_
    refine st7 _ ?_
    refine XS.iload X7.here hx rfl (hb hby d19_31) rfl ?_
    refine own_ldIN X7 hx hZ e7 (L0.aI 8 (by decide)) (i := nd * 64 + 1 + 1) (x := (Int32.ofNat (k2))) (by omega) (congrArg Value.int (show (I 8 (nd * 64 + 1 + 1)) = (Int32.ofNat (k2)) from h8_2)) (g := (mkF m 33 #[vR a1, vN (tr), vN ((r1 - k0) - k1), vN (nd), vI 1, vN (nd * 64 + 1 + 1)] [(.int (Int32.ofNat (nd * 64 + 1 + 1))), (.ref (A 8)), (.int (Int32.ofNat ((r1 - k0) - k1)))])) rfl rfl (hb hby d19_33) _ ?_
    refine XS.icmpYes X7.here hx rfl (pc0 := 34) (pc' := 53) rfl (hb hby d19_34) rfl (tlt (own_nlt (by omega) (by omega))).1 (by decide) (by decide) ?_
    refine XS.aloadN X7.here hx rfl (hb hby d19_53) rfl rfl ?_
    refine st8 _ ?_
    refine XS.iload X8.here hx rfl (hb hby d19_57) rfl ?_
    refine own_ldIN X8 hx hZ e8 (L0.aI 7 (by decide)) (i := nd * 64 + 1 + 1) (x := (Int32.ofNat (lf))) (by omega) (congrArg Value.int (show (I 7 (nd * 64 + 1 + 1)) = (Int32.ofNat (lf)) from Y7)) (g := (mkF m 59 #[vR a1, vN (tr), vN ((r1 - k0) - k1), vN (nd), vI 1, vN (nd * 64 + 1 + 1)] [(.int (Int32.ofNat (nd * 64 + 1 + 1))), (.ref (A 7))])) rfl rfl (hb hby d19_59) _ ?_
    show Steps p.tables e below (T8.setTop (mkF m 60 #[vR a1, vN (tr), vN ((r1 - k0) - k1), vN (nd), vI 1, vN (nd * 64 + 1 + 1)] [(.int (Int32.ofNat (lf)))])) _
    refine XS.istoreN X8.here hx rfl (hb hby d19_60) rfl (l' := #[vR a1, vN (tr), vN ((r1 - k0) - k1), vN (lf), vI 1, vN (nd * 64 + 1 + 1)]) rfl ?_
    refine XS.iinc X8.here hx rfl (hb hby d19_61) rfl (l' := #[vR a1, vN (tr), vN ((r1 - k0) - k1), vN (lf), vI 0, vN (nd * 64 + 1 + 1)]) rfl ?_
    refine XS.goto X8.here hx rfl (pc0 := 64) (pc' := 15) rfl (hb hby d19_64) (by decide) (by decide) ?_
    refine XS.iload X8.here hx rfl (hb hby d19_15) rfl ?_
    refine XS.ifYes X8.here hx rfl (pc0 := 17) (pc' := 67) rfl (hb hby d19_17) rfl ((if0 _ _).trans (flt (by decide : ¬ ((0 : Int32) < (0 : Int32)))).2.2.2) (by decide) (by decide) ?_
    refine XS.aloadN X8.here hx rfl (hb hby d19_67) rfl rfl ?_
    refine st9 _ ?_
    refine XS.iloadN X9.here hx rfl (hb hby d19_71) rfl ?_
    refine own_ldAN X9 hx hZ e9 L0.Mo.1 rfl (i := lf) (v := (.ref b1)) (by omega) (own_mref hM) (g := (mkF m 72 #[vR a1, vN (tr), vN ((r1 - k0) - k1), vN (lf), vI 0, vN (nd * 64 + 1 + 1)] [(.int (Int32.ofNat (lf))), (.ref (A 22))])) rfl rfl (hb hby d19_72) _ ?_
    refine XS.iloadN X9.here hx rfl (hb hby d19_73) rfl ?_
    refine own_ldIN X9 hx hZ e9 (L0.Bo (by omega) hM) (i := (r1 - k0) - k1) (x := (Int32.ofNat (x1))) (by omega) (congrArg Value.int (show (B (lf) ((r1 - k0) - k1)) = (Int32.ofNat (x1)) from hB)) (g := (mkF m 74 #[vR a1, vN (tr), vN ((r1 - k0) - k1), vN (lf), vI 0, vN (nd * 64 + 1 + 1)] [(.int (Int32.ofNat ((r1 - k0) - k1))), (.ref b1)])) rfl rfl (hb hby d19_74) _ ?_
    show Steps p.tables e below (T9.setTop (mkF m 75 #[vR a1, vN (tr), vN ((r1 - k0) - k1), vN (lf), vI 0, vN (nd * 64 + 1 + 1)] [(.int (Int32.ofNat (x1)))])) _
    exact retI X9 hx Bd.returns (hb hby d19_75) hr
  · show QrmAt2 Z a1 A N I J cc M B nb nd tr r1 lf x1 b1 k0 k1 k2 h0 n0 _ T9.heap _
    rw [e9]
    exact ⟨rfl, N0, rfl⟩
theorem d7_0 : decode q13 0 = .ok (.aload_n 0, 1) := by decide +kernel
theorem d7_1 : decode q13 1 = .ok (.getfield 26, 3) := by decide +kernel
theorem d7_4 : decode q13 4 = .ok (.iload_n 1, 1) := by decide +kernel
theorem d7_5 : decode q13 5 = .ok (.iaload, 1) := by decide +kernel
theorem d7_6 : decode q13 6 = .ok (.ifCond .ge 34, 3) := by decide +kernel
theorem d7_40 : decode q13 40 = .ok (.aload_n 0, 1) := by decide +kernel
theorem d7_41 : decode q13 41 = .ok (.getfield 26, 3) := by decide +kernel
theorem d7_44 : decode q13 44 = .ok (.iload_n 1, 1) := by decide +kernel
theorem d7_45 : decode q13 45 = .ok (.iaload, 1) := by decide +kernel
theorem d7_46 : decode q13 46 = .ok (.istore 7, 2) := by decide +kernel
theorem d7_48 : decode q13 48 = .ok (.aload_n 0, 1) := by decide +kernel
theorem d7_49 : decode q13 49 = .ok (.getfield 76, 3) := by decide +kernel
theorem d7_52 : decode q13 52 = .ok (.iload 7, 2) := by decide +kernel
theorem d7_54 : decode q13 54 = .ok (.iaload, 1) := by decide +kernel
theorem d7_55 : decode q13 55 = .ok (.istore 8, 2) := by decide +kernel
theorem d7_57 : decode q13 57 = .ok (.iload 8, 2) := by decide +kernel
theorem d7_59 : decode q13 59 = .ok (.iconst 1, 1) := by decide +kernel
theorem d7_60 : decode q13 60 = .ok (.if_icmp .le 32, 3) := by decide +kernel
set_option maxRecDepth 65536 in
set_option maxHeartbeats 40000000 in
theorem sgAo {p : Program} {l : Launch} {e : Env} {R : Room} {s : State} {m : MethodId} {args : Array Value} {below : List Frame} {meth : Method} {c : Code} {T0 : State} {locs : List Loc} {cells slots : Nat} {Z : State} {a0 : Array Value} {h0 : Heap} (a1 : Addr) (A : Nat → Addr) (N : Nat → Nat) (I : Nat → Nat → Int32) (J : Nat → Nat → Int64) (cc : Nat → Int32) (M : Nat → Option Addr) (B : Nat → Nat → Int32) (nb nd tr sv : Nat) (kh kl : Int64)
    (X0 : Stand p l e R s m args below meth c T0 locs cells slots) (hx : p.tables.exec = Jvm.exec) (hZ : Z.Warmed39 s.vm) (hw : ∀ d ∈ tables_1, d.before a0 Z = true) (hby : c.code = prog_74_method_2_code) (hml : c.maxLocals = 16) (hown : s.vm.findClass "com/example/ebbtide/ebbtide/cluster/LoadTrees" = some m.cls) (e0 : T0.heap = h0) (n0 : Nat) (N0 : Fr n0 locs) (Z0 : n0 ≤ h0.size) (L0 : LT Z h0 n0 a1 A N I J cc M B) (hS : SZ N nb) (hnb : nb < 1000) (htr : tr < 2) (hnd : nd < nb) (Y2 : I 2 tr = Int32.ofNat nd) (Y12 : I 12 nd = (1 : Int32)) :
    ∃ (T' : State) (h' : Heap) (L' : List Loc), Stand p l e R s m args below meth c T' L' cells slots ∧ T'.heap = h' ∧ Fr n0 L' ∧ KN n0 h0 h' ∧ h' = h0 ∧ (∀ t, Steps p.tables e below (T'.setTop (mkF m 92 #[vR a1, vN (tr), vN (sv), vJ kh, .second, vJ kl, .second, vN (nd), vI 1, uu, uu, uu, uu, uu, uu, uu] [])) t → Steps p.tables e below (T0.setTop (mkF m 0 #[vR a1, vN (tr), vN (sv), vJ kh, .second, vJ kl, .second, uu, uu, uu, uu, uu, uu, uu, uu, uu] [])) t) := by
  obtain ⟨S0, S1, S2, S3, S4, S5, S6, S7, S8, S9, S10, S11, S12, S13, S14, S15, S16, S17, S18, S19, S20, S21, S22⟩ := hS
  obtain ⟨T1, X1, e1, st1⟩ := getF X0 hx hZ hown (host := "") (Or.inl (tw hw 32 rfl)) Via.refl e0 (L0.FI 2 (by decide) rfl) (g := (mkF m 1 #[vR a1, vN (tr), vN (sv), vJ kh, .second, vJ kl, .second, uu, uu, uu, uu, uu, uu, uu, uu, uu] [(.ref a1)])) rfl rfl (hb hby d7_1)
  obtain ⟨T2, X2, e2, st2⟩ := getF X1 hx hZ hown (host := "") (Or.inl (tw hw 32 rfl)) Via.refl e1 (L0.FI 2 (by decide) rfl) (g := (mkF m 41 #[vR a1, vN (tr), vN (sv), vJ kh, .second, vJ kl, .second, uu, uu, uu, uu, uu, uu, uu, uu, uu] [(.ref a1)])) rfl rfl (hb hby d7_41)
  obtain ⟨T3, X3, e3, st3⟩ := getF X2 hx hZ hown (host := "") (Or.inl (tw hw 66 rfl)) Via.refl e2 (L0.FI 12 (by decide) rfl) (g := (mkF m 49 #[vR a1, vN (tr), vN (sv), vJ kh, .second, vJ kl, .second, vN (nd), uu, uu, uu, uu, uu, uu, uu, uu] [(.ref a1)])) rfl rfl (hb hby d7_49)
  refine ⟨T3, _, _, X3, e3, N0, (KN.refl n0 h0), rfl, fun t kt => ?_⟩
  · show Steps p.tables e below (T0.setTop (mkF m 0 #[vR a1, vN (tr), vN (sv), vJ kh, .second, vJ kl, .second, uu, uu, uu, uu, uu, uu, uu, uu, uu] [])) _
    refine XS.aloadN X0.here hx rfl (hb hby d7_0) rfl rfl ?_
    refine st1 _ ?_
    refine XS.iloadN X1.here hx rfl (hb hby d7_4) rfl ?_
    refine own_ldIN X1 hx hZ e1 (L0.aI 2 (by decide)) (i := tr) (x := (Int32.ofNat (nd))) (by omega) (congrArg Value.int (show (I 2 (tr)) = (Int32.ofNat (nd)) from Y2)) (g := (mkF m 5 #[vR a1, vN (tr), vN (sv), vJ kh, .second, vJ kl, .second, uu, uu, uu, uu, uu, uu, uu, uu, uu] [(.int (Int32.ofNat (tr))), (.ref (A 2))])) rfl rfl (hb hby d7_5) _ ?_
    refine XS.ifYes X1.here hx rfl (pc0 := 6) (pc' := 40) rfl (hb hby d7_6) rfl ((if0 _ _).trans (flt (own_cl (i := nd) (by omega)).2).2.1) (by decide) (by decide) ?_
    refine XS.aloadN X1.here hx rfl (hb hby d7_40) rfl rfl ?_
    refine st2 _ ?_
    refine XS.iloadN X2.here hx rfl (hb hby d7_44) rfl ?_
    refine own_ldIN X2 hx hZ e2 (L0.aI 2 (by decide)) (i := tr) (x := (Int32.ofNat (nd))) (by omega) (congrArg Value.int (show (I 2 (tr)) = (Int32.ofNat (nd)) from Y2)) (g := (mkF m 45 #[vR a1, vN (tr), vN (sv), vJ kh, .second, vJ kl, .second, uu, uu, uu, uu, uu, uu, uu, uu, uu] [(.int (Int32.ofNat (tr))), (.ref (A 2))])) rfl rfl (hb hby d7_45) _ ?_
    refine XS.istore X2.here hx rfl (hb hby d7_46) rfl (l' := #[vR a1, vN (tr), vN (sv), vJ kh, .second, vJ kl, .second, vN (nd), uu, uu, uu, uu, uu, uu, uu, uu]) rfl ?_
    refine XS.aloadN X2.here hx rfl (hb hby d7_48) rfl rfl ?_
    refine st3 _ ?_
    show Steps p.tables e below (T3.setTop (mkF m 52 #[vR a1, vN (tr), vN (sv), vJ kh, .second, vJ kl, .second, vN (nd), uu, uu, uu, uu, uu, uu, uu, uu] [(.ref (A 12))])) _
    refine XS.iload X3.here hx rfl (hb hby d7_52) rfl ?_
    refine own_ldIN X3 hx hZ e3 (L0.aI 12 (by decide)) (i := nd) (x := (1 : Int32)) (by omega) (congrArg Value.int (show (I 12 (nd)) = (1 : Int32) from Y12)) (g := (mkF m 54 #[vR a1, vN (tr), vN (sv), vJ kh, .second, vJ kl, .second, vN (nd), uu, uu, uu, uu, uu, uu, uu, uu] [(.int (Int32.ofNat (nd))), (.ref (A 12))])) rfl rfl (hb hby d7_54) _ ?_
    refine XS.istore X3.here hx rfl (hb hby d7_55) rfl (l' := #[vR a1, vN (tr), vN (sv), vJ kh, .second, vJ kl, .second, vN (nd), vI 1, uu, uu, uu, uu, uu, uu, uu]) rfl ?_
    refine XS.iload X3.here hx rfl (hb hby d7_57) rfl ?_
    refine XS.iconst X3.here hx rfl (hb hby d7_59) ?_
    refine XS.icmpYes X3.here hx rfl (pc0 := 60) (pc' := 92) rfl (hb hby d7_60) rfl (flt (by decide : ¬ ((1 : Int32) < (1 : Int32)))).2.2.2 (by decide) (by decide) ?_
    exact kt
theorem d7_9 : decode q13 9 = .ok (.aload_n 0, 1) := by decide +kernel
theorem d7_10 : decode q13 10 = .ok (.iconst 1, 1) := by decide +kernel
theorem d7_11 : decode q13 11 = .ok (.invokevirtual 88, 3) := by decide +kernel
theorem d7_14 : decode q13 14 = .ok (.istore 7, 2) := by decide +kernel
theorem d7_16 : decode q13 16 = .ok (.aload_n 0, 1) := by decide +kernel
theorem d7_17 : decode q13 17 = .ok (.getfield 79, 3) := by decide +kernel
theorem d7_20 : decode q13 20 = .ok (.iload 7, 2) := by decide +kernel
theorem d7_22 : decode q13 22 = .ok (.iconst (-1), 1) := by decide +kernel
theorem d7_23 : decode q13 23 = .ok (.iastore, 1) := by decide +kernel
theorem d7_24 : decode q13 24 = .ok (.aload_n 0, 1) := by decide +kernel
theorem d7_25 : decode q13 25 = .ok (.getfield 82, 3) := by decide +kernel
theorem d7_28 : decode q13 28 = .ok (.iload 7, 2) := by decide +kernel
theorem d7_30 : decode q13 30 = .ok (.iload_n 1, 1) := by decide +kernel
theorem d7_31 : decode q13 31 = .ok (.iastore, 1) := by decide +kernel
theorem d7_32 : decode q13 32 = .ok (.aload_n 0, 1) := by decide +kernel
theorem d7_33 : decode q13 33 = .ok (.getfield 26, 3) := by decide +kernel
theorem d7_36 : decode q13 36 = .ok (.iload_n 1, 1) := by decide +kernel
theorem d7_37 : decode q13 37 = .ok (.iload 7, 2) := by decide +kernel
theorem d7_39 : decode q13 39 = .ok (.iastore, 1) := by decide +kernel
theorem pd__28I_29I : parseMethodDescriptor "(I)I" = some ⟨[.int], some .int⟩ := by decide +kernel
set_option maxRecDepth 65536 in
set_option maxHeartbeats 40000000 in
theorem sgAn {p : Program} {l : Launch} {e : Env} {s : State} {m : MethodId} {args : Array Value} {below : List Frame} {meth : Method} {c : Code} {T0 : State} {locs : List Loc} {Z : State} {a0 : Array Value} {h0 : Heap} (a1 : Addr) (A : Nat → Addr) (N : Nat → Nat) (I : Nat → Nat → Int32) (J : Nat → Nat → Int64) (cc : Nat → Int32) (M : Nat → Option Addr) (B : Nat → Nat → Int32) (nb nd tr sv : Nat) (kh kl : Int64)
    (X0 : Stand p l e ({ frames := 7, cells := 1, slots := 4, locals := 150 } : Room) s m args below meth c T0 locs 0 0) (hx : p.tables.exec = Jvm.exec) (hZ : Z.Warmed39 s.vm) (hw : ∀ d ∈ tables_1, d.before a0 Z = true) (hby : c.code = prog_74_method_2_code) (hml : c.maxLocals = 16) (hown : s.vm.findClass "com/example/ebbtide/ebbtide/cluster/LoadTrees" = some m.cls) (e0 : T0.heap = h0) (n0 : Nat) (N0 : Fr n0 locs) (Z0 : n0 ≤ h0.size) (L0 : LT Z h0 n0 a1 A N I J cc M B) (hS : SZ N nb) (hnb : nb < 1000) (htr : tr < 2) (hnd : nd < nb) (Y2 : I 2 tr = (-1 : Int32)) (hfb : cc 3 = (0 : Int32)) (hbr : cc 2 = Int32.ofNat nd) :
    ∃ (T' : State) (h' : Heap) (L' : List Loc), Stand p l e ({ frames := 7, cells := 1, slots := 4, locals := 150 } : Room) s m args below meth c T' L' 0 0 ∧ T'.heap = h' ∧ Fr n0 L' ∧ KN n0 h0 h' ∧ LT Z h' n0 a1 A N (ui (ui (ui (ui (ui I 11 (nd) (0 : Int32)) 12 (nd) (1 : Int32)) 13 (nd) (-1 : Int32)) 14 (nd) (Int32.ofNat (tr))) 2 (tr) (Int32.ofNat (nd))) J (u1 cc 2 (Int32.ofNat (nd + 1))) M B ∧ (∀ t, Steps p.tables e below (T'.setTop (mkF m 92 #[vR a1, vN (tr), vN (sv), vJ kh, .second, vJ kl, .second, vN (nd), vI 1, uu, uu, uu, uu, uu, uu, uu] [])) t → Steps p.tables e below (T0.setTop (mkF m 0 #[vR a1, vN (tr), vN (sv), vJ kh, .second, vJ kl, .second, uu, uu, uu, uu, uu, uu, uu, uu, uu] [])) t) := by
  have hS0 := hS
  obtain ⟨S0, S1, S2, S3, S4, S5, S6, S7, S8, S9, S10, S11, S12, S13, S14, S15, S16, S17, S18, S19, S20, S21, S22⟩ := hS0
  obtain ⟨T1, X1, e1, st1⟩ := getF X0 hx hZ hown (host := "") (Or.inl (tw hw 32 rfl)) Via.refl e0 (L0.FI 2 (by decide) rfl) (g := (mkF m 1 #[vR a1, vN (tr), vN (sv), vJ kh, .second, vJ kl, .second, uu, uu, uu, uu, uu, uu, uu, uu, uu] [(.ref a1)])) rfl rfl (hb hby d7_1)
  obtain ⟨cq2, q2, q2'⟩ := L0.E.cell
  obtain ⟨_, _, ⟨T2, L2, k2, n2⟩, -, X2, ⟨Lc2, hQ2, l2, y2, z2⟩, st2⟩ := X1.privateBack hx (y := (⟨"com/example/ebbtide/ebbtide/cluster/LoadTrees", "newBranch", "(I)I"⟩ : MethodName)) hown (mvT hZ (tw hw 79 rfl)) (mvT hZ (tw hw 80 rfl)) (mvT hZ (own_selP hw (tw hw 80 rfl) (tw hw 81 rfl))) (Cond.privateMethod_at (mvP hZ (tw hw 81 rfl) (args := #[]))) (mvT hZ (tw hw 82 rfl)) (by decide) (backOf (W := 0) (rmNB l Z a0 hw [] a1 A N I J cc M B nb nd h0 n0 Z0 L0 hS hfb hbr hnd hnb) hZ (tw hw 82 rfl) (tw hw 14 rfl) (by decide) (by decide)) (g := (mkF m 11 #[vR a1, vN (tr), vN (sv), vJ kh, .second, vJ kl, .second, uu, uu, uu, uu, uu, uu, uu, uu, uu] [(.int (1 : Int32)), (.ref a1)])) rfl (by rw [hml]; rfl) (Steps.refl _) (a := a1) (by rw [e1]; exact q2) q2' (argsL := [(.int (1 : Int32))]) (rest := []) (lenOf pd__28I_29I rfl) rfl (by show 2 * 0 + _ ≤ _; exact Nat.le_of_eq rfl) (hb hby d7_11) (fun _ _ => ⟨rfl, e1, (by decide : 0 + 0 ≤ _), (by decide : 0 + 0 ≤ _)⟩)
  dsimp only [Pt.U, Pt.locs, Pt.cells, Pt.slots] at X2 l2 y2 z2 st2 hQ2
  subst l2 y2 z2
  obtain ⟨h2, e2⟩ : ∃ h', T2.heap = h' := ⟨_, rfl⟩
  rw [e2] at hQ2
  obtain ⟨rfl, N2q, K2q, Lq2⟩ := hQ2
  have K2 : KN n0 h0 h2 := (KN.refl n0 h0).trans K2q
  have Z2 : n0 ≤ h2.size := Nat.le_trans Z0 K2q.1
  have N2 := Fr.app N0 N2q
  obtain ⟨T3, X3, e3, st3⟩ := getF X2 hx hZ hown (host := "") (Or.inl (tw hw 68 rfl)) Via.refl e2 (Lq2.FI 13 (by decide) rfl) (g := (mkF m 17 #[vR a1, vN (tr), vN (sv), vJ kh, .second, vJ kl, .second, vN (nd), uu, uu, uu, uu, uu, uu, uu, uu] [(.ref a1)])) rfl rfl (hb hby d7_17)
  obtain ⟨T4, h4, X4, e4, W4, st4⟩ := own_stIN X3 hx hZ e3 (Lq2.aI 13 (by decide)) (i := nd) (by omega) (g := (mkF m 23 #[vR a1, vN (tr), vN (sv), vJ kh, .second, vJ kl, .second, vN (nd), uu, uu, uu, uu, uu, uu, uu, uu] [(.int (-1 : Int32)), (.int (Int32.ofNat (nd))), (.ref (A 13))])) rfl rfl (hb hby d7_23)
  have K4 : KN n0 h0 h4 := K2.trans (KN.wr W4 (Lq2.gA 13 (by decide)))
  have N4 := Fr.snoc X4 N2 (Lq2.gA 13 (by decide))
  have Z4 : n0 ≤ h4.size := Nat.le_trans Z2 (Keep.of_wr W4).1
  have Lq4 := Lq2.wrI (k := 13) (by decide) W4
  obtain ⟨T5, X5, e5, st5⟩ := getF X4 hx hZ hown (host := "") (Or.inl (tw hw 70 rfl)) Via.refl e4 (Lq4.FI 14 (by decide) rfl) (g := (mkF m 25 #[vR a1, vN (tr), vN (sv), vJ kh, .second, vJ kl, .second, vN (nd), uu, uu, uu, uu, uu, uu, uu, uu] [(.ref a1)])) rfl rfl (hb hby d7_25)
  obtain ⟨T6, h6, X6, e6, W6, st6⟩ := own_stIN X5 hx hZ e5 (Lq4.aI 14 (by decide)) (i := nd) (by omega) (g := (mkF m 31 #[vR a1, vN (tr), vN (sv), vJ kh, .second, vJ kl, .second, vN (nd), uu, uu, uu, uu, uu, uu, uu, uu] [(.int (Int32.ofNat (tr))), (.int (Int32.ofNat (nd))), (.ref (A 14))])) rfl rfl (hb hby d7_31)
  have K6 : KN n0 h0 h6 := K4.trans (KN.wr W6 (Lq4.gA 14 (by decide)))
  have N6 := Fr.snoc X6 N4 (Lq4.gA 14 (by decide))
  have Z6 : n0 ≤ h6.size := Nat.le_trans Z4 (Keep.of_wr W6).1
  have Lq6 := Lq4.wrI (k := 14) (by decide) W6
  obtain ⟨T7, X7, e7, st7⟩ := getF X6 hx hZ hown (host := "") (Or.inl (tw hw 32 rfl)) Via.refl e6 (Lq6.FI 2 (by decide) rfl) (g := (mkF m 33 #[vR a1, vN (tr), vN (sv), vJ kh, .second, vJ kl, .second, vN (nd), uu, uu, uu, uu, uu, uu, uu, uu] [(.ref a1)])) rfl rfl (hb hby d7_33)
  obtain ⟨T8, h8, X8, e8, W8, st8⟩ := own_stIN X7 hx hZ e7 (Lq6.aI 2 (by decide)) (i := tr) (by omega) (g := (mkF m 39 #[vR a1, vN (tr), vN (sv), vJ kh, .second, vJ kl, .second, vN (nd), uu, uu, uu, uu, uu, uu, uu, uu] [(.int (Int32.ofNat (nd))), (.int (Int32.ofNat (tr))), (.ref (A 2))])) rfl rfl (hb hby d7_39)
  have K8 : KN n0 h0 h8 := K6.trans (KN.wr W8 (Lq6.gA 2 (by decide)))
  have N8 := Fr.snoc X8 N6 (Lq6.gA 2 (by decide))
  have Z8 : n0 ≤ h8.size := Nat.le_trans Z6 (Keep.of_wr W8).1
  have Lq8 := Lq6.wrI (k := 2) (by decide) W8
  obtain ⟨T9, X9, e9, st9⟩ := getF X8 hx hZ hown (host := "") (Or.inl (tw hw 32 rfl)) Via.refl e8 (Lq8.FI 2 (by decide) rfl) (g := (mkF m 41 #[vR a1, vN (tr), vN (sv), vJ kh, .second, vJ kl, .second, vN (nd), uu, uu, uu, uu, uu, uu, uu, uu] [(.ref a1)])) rfl rfl (hb hby d7_41)
  obtain ⟨T10, X10, e10, st10⟩ := getF X9 hx hZ hown (host := "") (Or.inl (tw hw 66 rfl)) Via.refl e9 (Lq8.FI 12 (by decide) rfl) (g := (mkF m 49 #[vR a1, vN (tr), vN (sv), vJ kh, .second, vJ kl, .second, vN (nd), uu, uu, uu, uu, uu, uu, uu, uu] [(.ref a1)])) rfl rfl (hb hby d7_49)
  refine ⟨T10, h8, _, X10, e10, N8, K8, Lq8, fun t kt => ?_⟩
  · show Steps p.tables e below (T0.setTop (mkF m 0 #[vR a1, vN (tr), vN (sv), vJ kh, .second, vJ kl, .second, uu, uu, uu, uu, uu, uu, uu, uu, uu] [])) _
    refine XS.aloadN X0.here hx rfl (hb hby d7_0) rfl rfl ?_
    refine st1 _ ?_
    refine XS.iloadN X1.here hx rfl (hb hby d7_4) rfl ?_
    refine own_ldIN X1 hx hZ e1 (L0.aI 2 (by decide)) (i := tr) (x := (-1 : Int32)) (by omega) (congrArg Value.int (show (I 2 (tr)) = (-1 : Int32) from Y2)) (g := (mkF m 5 #[vR a1, vN (tr), vN (sv), vJ kh, .second, vJ kl, .second, uu, uu, uu, uu, uu, uu, uu, uu, uu] [(.int (Int32.ofNat (tr))), (.ref (A 2))])) rfl rfl (hb hby d7_5) _ ?_
    refine XS.ifNo X1.here hx rfl (hb hby d7_6) rfl ((if0 _ _).trans (tlt (by decide : (-1 : Int32) < (0 : Int32))).2.1) ?_
    refine XS.aloadN X1.here hx rfl (hb hby d7_9) rfl rfl ?_
    refine XS.iconst X1.here hx rfl (hb hby d7_10) ?_
    refine st2.trans ?_
    refine XS.istore X2.here hx rfl (hb hby d7_14) rfl (l' := #[vR a1, vN (tr), vN (sv), vJ kh, .second, vJ kl, .second, vN (nd), uu, uu, uu, uu, uu, uu, uu, uu]) rfl ?_
    refine XS.aloadN X2.here hx rfl (hb hby d7_16) rfl rfl ?_
    refine st3 _ ?_
    refine XS.iload X3.here hx rfl (hb hby d7_20) rfl ?_
    show Steps p.tables e below (T3.setTop (mkF m 22 #[vR a1, vN (tr), vN (sv), vJ kh, .second, vJ kl, .second, vN (nd), uu, uu, uu, uu, uu, uu, uu, uu] [(.int (Int32.ofNat (nd))), (.ref (A 13))])) _
    refine XS.iconst X3.here hx rfl (hb hby d7_22) ?_
    refine st4 _ ?_
    refine XS.aloadN X4.here hx rfl (hb hby d7_24) rfl rfl ?_
    refine st5 _ ?_
    refine XS.iload X5.here hx rfl (hb hby d7_28) rfl ?_
    refine XS.iloadN X5.here hx rfl (hb hby d7_30) rfl ?_
    refine st6 _ ?_
    refine XS.aloadN X6.here hx rfl (hb hby d7_32) rfl rfl ?_
    refine st7 _ ?_
    refine XS.iloadN X7.here hx rfl (hb hby d7_36) rfl ?_
    refine XS.iload X7.here hx rfl (hb hby d7_37) rfl ?_
    refine st8 _ ?_
    show Steps p.tables e below (T8.setTop (mkF m 40 #[vR a1, vN (tr), vN (sv), vJ kh, .second, vJ kl, .second, vN (nd), uu, uu, uu, uu, uu, uu, uu, uu] [])) _
    refine XS.aloadN X8.here hx rfl (hb hby d7_40) rfl rfl ?_
    refine st9 _ ?_
    refine XS.iloadN X9.here hx rfl (hb hby d7_44) rfl ?_
    refine own_ldIN X9 hx hZ e9 (Lq8.aI 2 (by decide)) (i := tr) (x := (Int32.ofNat (nd))) (by omega) (congrArg Value.int (show ((ui (ui (ui (ui (ui I 11 (nd) (0 : Int32)) 12 (nd) (1 : Int32)) 13 (nd) (-1 : Int32)) 14 (nd) (Int32.ofNat (tr))) 2 (tr) (Int32.ofNat (nd))) 2 (tr)) = (Int32.ofNat (nd)) from (own_ui _ _ _ _))) (g := (mkF m 45 #[vR a1, vN (tr), vN (sv), vJ kh, .second, vJ kl, .second, vN (nd), uu, uu, uu, uu, uu, uu, uu, uu] [(.int (Int32.ofNat (tr))), (.ref (A 2))])) rfl rfl (hb hby d7_45) _ ?_
    refine XS.istore X9.here hx rfl (hb hby d7_46) rfl (l' := #[vR a1, vN (tr), vN (sv), vJ kh, .second, vJ kl, .second, vN (nd), uu, uu, uu, uu, uu, uu, uu, uu]) rfl ?_
    refine XS.aloadN X9.here hx rfl (hb hby d7_48) rfl rfl ?_
    refine st10 _ ?_
    refine XS.iload X10.here hx rfl (hb hby d7_52) rfl ?_
    refine own_ldIN X10 hx hZ e10 (Lq8.aI 12 (by decide)) (i := nd) (x := (1 : Int32)) (by omega) (congrArg Value.int (show ((ui (ui (ui (ui (ui I 11 (nd) (0 : Int32)) 12 (nd) (1 : Int32)) 13 (nd) (-1 : Int32)) 14 (nd) (Int32.ofNat (tr))) 2 (tr) (Int32.ofNat (nd))) 12 (nd)) = (1 : Int32) from (if_pos rfl))) (g := (mkF m 54 #[vR a1, vN (tr), vN (sv), vJ kh, .second, vJ kl, .second, vN (nd), uu, uu, uu, uu, uu, uu, uu, uu] [(.int (Int32.ofNat (nd))), (.ref (A 12))])) rfl rfl (hb hby d7_54) _ ?_
    refine XS.istore X10.here hx rfl (hb hby d7_55) rfl (l' := #[vR a1, vN (tr), vN (sv), vJ kh, .second, vJ kl, .second, vN (nd), vI 1, uu, uu, uu, uu, uu, uu, uu]) rfl ?_
    refine XS.iload X10.here hx rfl (hb hby d7_57) rfl ?_
    refine XS.iconst X10.here hx rfl (hb hby d7_59) ?_
    show Steps p.tables e below (T10.setTop (mkF m 60 #[vR a1, vN (tr), vN (sv), vJ kh, .second, vJ kl, .second, vN (nd), vI 1, uu, uu, uu, uu, uu, uu, uu] [(.int (1 : Int32)), (.int (1 : Int32))])) _
    refine XS.icmpYes X10.here hx rfl (pc0 := 60) (pc' := 92) rfl (hb hby d7_60) rfl (flt (by decide : ¬ ((1 : Int32) < (1 : Int32)))).2.2.2 (by decide) (by decide) ?_
    exact kt
theorem d7_92 : decode q13 92 = .ok (.aload_n 0, 1) := by decide +kernel
theorem d7_93 : decode q13 93 = .ok (.getfield 73, 3) := by decide +kernel
theorem d7_96 : decode q13 96 = .ok (.iload 7, 2) := by decide +kernel
theorem d7_98 : decode q13 98 = .ok (.iaload, 1) := by decide +kernel
theorem d7_99 : decode q13 99 = .ok (.ifCond .ne 28, 3) := by decide +kernel
theorem d7_102 : decode q13 102 = .ok (.aload_n 0, 1) := by decide +kernel
theorem d7_103 : decode q13 103 = .ok (.lload_n 3, 1) := by decide +kernel
theorem d7_104 : decode q13 104 = .ok (.lload 5, 2) := by decide +kernel
theorem d7_106 : decode q13 106 = .ok (.invokevirtual 96, 3) := by decide +kernel
theorem d7_109 : decode q13 109 = .ok (.istore 8, 2) := by decide +kernel
theorem d7_111 : decode q13 111 = .ok (.aload_n 0, 1) := by decide +kernel
theorem d7_112 : decode q13 112 = .ok (.iload 7, 2) := by decide +kernel
theorem d7_114 : decode q13 114 = .ok (.iconst 0, 1) := by decide +kernel
theorem d7_115 : decode q13 115 = .ok (.iload 8, 2) := by decide +kernel
theorem d7_117 : decode q13 117 = .ok (.lload_n 3, 1) := by decide +kernel
theorem d7_118 : decode q13 118 = .ok (.lload 5, 2) := by decide +kernel
theorem d7_120 : decode q13 120 = .ok (.iconst (-1), 1) := by decide +kernel
theorem d7_121 : decode q13 121 = .ok (.invokevirtual 100, 3) := by decide +kernel
theorem d7_124 : decode q13 124 = .ok (.goto 330, 3) := by decide +kernel
theorem pd__28IIIJJI_29V : parseMethodDescriptor "(IIIJJI)V" = some ⟨[.int, .int, .int, .long, .long, .int], none⟩ := by decide +kernel
set_option maxRecDepth 65536 in
set_option maxHeartbeats 40000000 in
theorem sgB0 {p : Program} {l : Launch} {e : Env} {s : State} {m : MethodId} {args : Array Value} {below : List Frame} {meth : Method} {c : Code} {T0 : State} {locs : List Loc} {Z : State} {a0 : Array Value} {h0 : Heap} (a1 : Addr) (A : Nat → Addr) (N : Nat → Nat) (I : Nat → Nat → Int32) (J : Nat → Nat → Int64) (cc : Nat → Int32) (M : Nat → Option Addr) (B : Nat → Nat → Int32) (nb nd tr sv lf n : Nat) (kh kl : Int64) (ch : Nat → Nat)
    (X0 : Stand p l e ({ frames := 7, cells := 1, slots := 4, locals := 150 } : Room) s m args below meth c T0 locs 0 0) (hx : p.tables.exec = Jvm.exec) (hZ : Z.Warmed39 s.vm) (hw : ∀ d ∈ tables_1, d.before a0 Z = true) (hby : c.code = prog_74_method_2_code) (hml : c.maxLocals = 16) (hown : s.vm.findClass "com/example/ebbtide/ebbtide/cluster/LoadTrees" = some m.cls) (e0 : T0.heap = h0) (n0 : Nat) (N0 : Fr n0 locs) (Z0 : n0 ≤ h0.size) (L0 : LT Z h0 n0 a1 A N I J cc M B) (hS : SZ N nb) (hnb : nb < 1000) (hnd : nd < nb) (hsv : sv < 3) (Y12 : I 12 nd = (1 : Int32)) (hfl : cc 1 = (0 : Int32)) (hlv : cc 0 = Int32.ofNat lf) (hlf : lf < 4) (hM : M lf = none) (Y11 : I 11 nd = (0 : Int32)) (hn : 0 < 60) (hch : ∀ i, i < 0 → I 7 (nd * 64 + i) = Int32.ofNat (ch i) ∧ ch i < 4 ∧ ch i ≠ lf) (hin : ∀ i i', i < 0 → i' < 0 → ch i = ch i' → i = i') :
    ∃ (T' : State) (h' : Heap) (L' : List Loc) (bb : Addr) (P S : Nat → Int32), Stand p l e ({ frames := 7, cells := 1, slots := 4, locals := 150 } : Room) s m args below meth c T' L' 1 4 ∧ T'.heap = h' ∧ Fr n0 L' ∧ KN n0 h0 h' ∧ LT Z h' n0 a1 A N (adI (ui I 3 (lf) (0 : Int32)) nd (0) 0 lf (-1 : Int32) P S) (adJ (ui (ui J 17 (lf) kh) 18 (lf) kl) nd (0) 0 kh kl) (u1 cc 0 (Int32.ofNat (lf + 1))) (u1 M (lf) (some bb)) (fun j => if j = lf then (fun _ => (0 : Int32)) else B j) ∧ (∀ i, 0 ≤ i → i < 0 + 1 → P (sins ch (0) lf i) = Int32.ofNat nd ∧ S (sins ch (0) lf i) = Int32.ofNat i) ∧ (∀ x, (∀ i, 0 ≤ i → i < 0 + 1 → x ≠ sins ch (0) lf i) → P x = I 4 x ∧ S x = I 5 x) ∧ (∀ t, Steps p.tables e below (T'.setTop (mkF m 454 #[vR a1, vN (tr), vN (sv), vJ kh, .second, vJ kl, .second, vN (nd), vN (lf), uu, uu, uu, uu, uu, uu, uu] [])) t → Steps p.tables e below (T0.setTop (mkF m 92 #[vR a1, vN (tr), vN (sv), vJ kh, .second, vJ kl, .second, vN (nd), vI 1, uu, uu, uu, uu, uu, uu, uu] [])) t) := by
  have hS0 := hS
  obtain ⟨S0, S1, S2, S3, S4, S5, S6, S7, S8, S9, S10, S11, S12, S13, S14, S15, S16, S17, S18, S19, S20, S21, S22⟩ := hS0
  obtain ⟨T1, X1, e1, st1⟩ := getF X0 hx hZ hown (host := "") (Or.inl (tw hw 64 rfl)) Via.refl e0 (L0.FI 11 (by decide) rfl) (g := (mkF m 93 #[vR a1, vN (tr), vN (sv), vJ kh, .second, vJ kl, .second, vN (nd), vI 1, uu, uu, uu, uu, uu, uu, uu] [(.ref a1)])) rfl rfl (hb hby d7_93)
  obtain ⟨cq2, q2, q2'⟩ := L0.E.cell
  obtain ⟨_, _, ⟨T2, L2, k2, n2⟩, -, X2, ⟨Lc2, hQ2, l2, y2, z2⟩, st2⟩ := X1.privateBack hx (y := (⟨"com/example/ebbtide/ebbtide/cluster/LoadTrees", "newLeaf", "(JJ)I"⟩ : MethodName)) hown (mvT hZ (tw hw 87 rfl)) (mvT hZ (tw hw 88 rfl)) (mvT hZ (own_selP hw (tw hw 88 rfl) (tw hw 89 rfl))) (Cond.privateMethod_at (mvP hZ (tw hw 89 rfl) (args := #[]))) (mvT hZ (tw hw 90 rfl)) (by decide) (backOf (W := 0) (rmNL l Z a0 hw [] a1 A N I J cc M B kh kl nb lf h0 n0 Z0 L0 hS hfl hlv hlf hM) hZ (tw hw 90 rfl) (tw hw 14 rfl) (by decide) (by decide)) (g := (mkF m 106 #[vR a1, vN (tr), vN (sv), vJ kh, .second, vJ kl, .second, vN (nd), vI 1, uu, uu, uu, uu, uu, uu, uu] [(.long kl), (.long kh), (.ref a1)])) rfl (by rw [hml]; rfl) (Steps.refl _) (a := a1) (by rw [e1]; exact q2) q2' (argsL := [(.long kh), (.long kl)]) (rest := []) (lenOf pd__28JJ_29I rfl) rfl (by show 2 * 0 + _ ≤ _; exact Nat.le_of_eq rfl) (hb hby d7_106) (fun _ _ => ⟨rfl, e1, (by decide : 0 + 1 ≤ _), (by decide : 0 + 4 ≤ _)⟩)
  dsimp only [Pt.U, Pt.locs, Pt.cells, Pt.slots] at X2 l2 y2 z2 st2 hQ2
  subst l2 y2 z2
  obtain ⟨h2, e2⟩ : ∃ h', T2.heap = h' := ⟨_, rfl⟩
  rw [e2] at hQ2
  obtain ⟨bb2, rfl, N2q, K2q, Lq2⟩ := hQ2
  have K2 : KN n0 h0 h2 := (KN.refl n0 h0).trans K2q
  have Z2 : n0 ≤ h2.size := Nat.le_trans Z0 K2q.1
  have N2 := Fr.app N0 N2q
  obtain ⟨cq3, q3, q3'⟩ := Lq2.E.cell
  obtain ⟨_, _, ⟨T3, L3, k3, n3⟩, -, X3, ⟨Lc3, hQ3, l3, y3, z3⟩, st3⟩ := X2.privateBack hx (y := (⟨"com/example/ebbtide/ebbtide/cluster/LoadTrees", "addSlot", "(IIIJJI)V"⟩ : MethodName)) hown (mvT hZ (tw hw 96 rfl)) (mvT hZ (tw hw 97 rfl)) (mvT hZ (own_selP hw (tw hw 97 rfl) (tw hw 98 rfl))) (Cond.privateMethod_at (mvP hZ (tw hw 98 rfl) (args := #[]))) (mvT hZ (tw hw 99 rfl)) (by decide) (backOf (W := 0) (rmAS l Z a0 hw [] a1 A N (ui I 3 (lf) (0 : Int32)) (ui (ui J 17 (lf) kh) 18 (lf) kl) (u1 cc 0 (Int32.ofNat (lf + 1))) (u1 M (lf) (some bb2)) (fun j => if j = lf then (fun _ => (0 : Int32)) else B j) nb nd (0) lf 0 kh kl (-1 : Int32) ch h2 n0 Z2 Lq2 hS hnd hnb Y11 hn (Nat.le_refl 0) Y12 hlf (own_ui _ _ _ _) hch hin) hZ (tw hw 99 rfl) (tw hw 14 rfl) (by decide) (by decide)) (g := (mkF m 121 #[vR a1, vN (tr), vN (sv), vJ kh, .second, vJ kl, .second, vN (nd), vN (lf), uu, uu, uu, uu, uu, uu, uu] [(.int (-1 : Int32)), (.long kl), (.long kh), (.int (Int32.ofNat (lf))), (.int (0 : Int32)), (.int (Int32.ofNat (nd))), (.ref a1)])) rfl (by rw [hml]; rfl) (Steps.refl _) (a := a1) (by rw [e2]; exact q3) q3' (argsL := [(.int (Int32.ofNat (nd))), (.int (0 : Int32)), (.int (Int32.ofNat (lf))), (.long kh), (.long kl), (.int (-1 : Int32))]) (rest := []) (lenOf pd__28IIIJJI_29V rfl) rfl (by show 2 * 0 + _ ≤ _; exact Nat.le_of_eq rfl) (hb hby d7_121) (fun _ _ => ⟨rfl, e2, (by decide : 1 + 0 ≤ _), (by decide : 4 + 0 ≤ _)⟩)
  dsimp only [Pt.U, Pt.locs, Pt.cells, Pt.slots] at X3 l3 y3 z3 st3 hQ3
  subst l3 y3 z3
  obtain ⟨h3, e3⟩ : ∃ h', T3.heap = h' := ⟨_, rfl⟩
  rw [e3] at hQ3
  obtain ⟨P3, S3, rfl, N3q, K3q, Lq3, q1_3, q2_3⟩ := hQ3
  have K3 : KN n0 h0 h3 := K2.trans K3q
  have Z3 : n0 ≤ h3.size := Nat.le_trans Z2 K3q.1
  have N3 := Fr.app N2 N3q
  refine ⟨T3, h3, _, bb2, P3, S3, X3, e3, N3, K3, Lq3, q1_3, q2_3, fun t kt => ?_⟩
  · show Steps p.tables e below (T0.setTop (mkF m 92 #[vR a1, vN (tr), vN (sv), vJ kh, .second, vJ kl, .second, vN (nd), vI 1, uu, uu, uu, uu, uu, uu, uu] [])) _
    refine XS.aloadN X0.here hx rfl (hb hby d7_92) rfl rfl ?_
    refine st1 _ ?_
    refine XS.iload X1.here hx rfl (hb hby d7_96) rfl ?_
    refine own_ldIN X1 hx hZ e1 (L0.aI 11 (by decide)) (i := nd) (x := (0 : Int32)) (by omega) (congrArg Value.int (show (I 11 (nd)) = (0 : Int32) from Y11)) (g := (mkF m 98 #[vR a1, vN (tr), vN (sv), vJ kh, .second, vJ kl, .second, vN (nd), vI 1, uu, uu, uu, uu, uu, uu, uu] [(.int (Int32.ofNat (nd))), (.ref (A 11))])) rfl rfl (hb hby d7_98) _ ?_
    refine XS.ifNo X1.here hx rfl (hb hby d7_99) rfl ((if0 _ _).trans (teq (by decide : (0 : Int32) = (0 : Int32))).2) ?_
    refine XS.aloadN X1.here hx rfl (hb hby d7_102) rfl rfl ?_
    refine XS.lloadN X1.here hx rfl (hb hby d7_103) rfl ?_
    refine XS.lload X1.here hx rfl (hb hby d7_104) rfl ?_
    refine st2.trans ?_
    refine XS.istore X2.here hx rfl (hb hby d7_109) rfl (l' := #[vR a1, vN (tr), vN (sv), vJ kh, .second, vJ kl, .second, vN (nd), vN (lf), uu, uu, uu, uu, uu, uu, uu]) rfl ?_
    refine XS.aloadN X2.here hx rfl (hb hby d7_111) rfl rfl ?_
    refine XS.iload X2.here hx rfl (hb hby d7_112) rfl ?_
    show Steps p.tables e below (T2.setTop (mkF m 114 #[vR a1, vN (tr), vN (sv), vJ kh, .second, vJ kl, .second, vN (nd), vN (lf), uu, uu, uu, uu, uu, uu, uu] [(.int (Int32.ofNat (nd))), (.ref a1)])) _
    refine XS.iconst X2.here hx rfl (hb hby d7_114) ?_
    refine XS.iload X2.here hx rfl (hb hby d7_115) rfl ?_
    refine XS.lloadN X2.here hx rfl (hb hby d7_117) rfl ?_
    refine XS.lload X2.here hx rfl (hb hby d7_118) rfl ?_
    refine XS.iconst X2.here hx rfl (hb hby d7_120) ?_
    refine st3.trans ?_
    refine XS.goto X3.here hx rfl (pc0 := 124) (pc' := 454) rfl (hb hby d7_124) (by decide) (by decide) ?_
    exact kt
theorem d7_127 : decode q13 127 = .ok (.aload_n 0, 1) := by decide +kernel
theorem d7_128 : decode q13 128 = .ok (.getfield 52, 3) := by decide +kernel
theorem d7_131 : decode q13 131 = .ok (.iload 7, 2) := by decide +kernel
theorem d7_133 : decode q13 133 = .ok (.bipush 64, 2) := by decide +kernel
theorem d7_135 : decode q13 135 = .ok (.imul, 1) := by decide +kernel
theorem d7_136 : decode q13 136 = .ok (.aload_n 0, 1) := by decide +kernel
theorem d7_137 : decode q13 137 = .ok (.iload 7, 2) := by decide +kernel
theorem d7_139 : decode q13 139 = .ok (.lload_n 3, 1) := by decide +kernel
theorem d7_140 : decode q13 140 = .ok (.lload 5, 2) := by decide +kernel
theorem d7_142 : decode q13 142 = .ok (.iload_n 2, 1) := by decide +kernel
theorem d7_143 : decode q13 143 = .ok (.invokevirtual 92, 3) := by decide +kernel
theorem d7_146 : decode q13 146 = .ok (.iadd, 1) := by decide +kernel
theorem d7_147 : decode q13 147 = .ok (.iaload, 1) := by decide +kernel
theorem d7_148 : decode q13 148 = .ok (.istore 8, 2) := by decide +kernel
theorem pd__28IJJI_29I : parseMethodDescriptor "(IJJI)I" = some ⟨[.int, .long, .long, .int], some .int⟩ := by decide +kernel
set_option maxRecDepth 65536 in
set_option maxHeartbeats 40000000 in
theorem sgP1 {p : Program} {l : Launch} {e : Env} {s : State} {m : MethodId} {args : Array Value} {below : List Frame} {meth : Method} {c : Code} {T0 : State} {locs : List Loc} {Z : State} {a0 : Array Value} {h0 : Heap} (a1 : Addr) (A : Nat → Addr) (N : Nat → Nat) (I : Nat → Nat → Int32) (J : Nat → Nat → Int64) (cc : Nat → Int32) (M : Nat → Option Addr) (B : Nat → Nat → Int32) (nb nd tr sv l0 : Nat) (kh kl Y1 l1 : Int64)
    (X0 : Stand p l e ({ frames := 7, cells := 1, slots := 4, locals := 150 } : Room) s m args below meth c T0 locs 0 0) (hx : p.tables.exec = Jvm.exec) (hZ : Z.Warmed39 s.vm) (hw : ∀ d ∈ tables_1, d.before a0 Z = true) (hby : c.code = prog_74_method_2_code) (hml : c.maxLocals = 16) (hown : s.vm.findClass "com/example/ebbtide/ebbtide/cluster/LoadTrees" = some m.cls) (e0 : T0.heap = h0) (n0 : Nat) (N0 : Fr n0 locs) (Z0 : n0 ≤ h0.size) (L0 : LT Z h0 n0 a1 A N I J cc M B) (hS : SZ N nb) (hnb : nb < 1000) (hnd : nd < nb) (hsv : sv < 3) (Y12 : I 12 nd = (1 : Int32)) (Y11 : I 11 nd = (1 : Int32)) (Y7 : I 7 (nd * 64) = Int32.ofNat l0) (hl0 : l0 < 4) :
    ∃ (T' : State) (h' : Heap) (L' : List Loc), Stand p l e ({ frames := 7, cells := 1, slots := 4, locals := 150 } : Room) s m args below meth c T' L' 0 0 ∧ T'.heap = h' ∧ Fr n0 L' ∧ KN n0 h0 h' ∧ h' = h0 ∧ (∀ t, Steps p.tables e below (T'.setTop (mkF m 150 #[vR a1, vN (tr), vN (sv), vJ kh, .second, vJ kl, .second, vN (nd), vN (l0), uu, uu, uu, uu, uu, uu, uu] [])) t → Steps p.tables e below (T0.setTop (mkF m 92 #[vR a1, vN (tr), vN (sv), vJ kh, .second, vJ kl, .second, vN (nd), vI 1, uu, uu, uu, uu, uu, uu, uu] [])) t) := by
  have hS0 := hS
  obtain ⟨S0, S1, S2, S3, S4, S5, S6, S7, S8, S9, S10, S11, S12, S13, S14, S15, S16, S17, S18, S19, S20, S21, S22⟩ := hS0
  obtain ⟨T1, X1, e1, st1⟩ := getF X0 hx hZ hown (host := "") (Or.inl (tw hw 64 rfl)) Via.refl e0 (L0.FI 11 (by decide) rfl) (g := (mkF m 93 #[vR a1, vN (tr), vN (sv), vJ kh, .second, vJ kl, .second, vN (nd), vI 1, uu, uu, uu, uu, uu, uu, uu] [(.ref a1)])) rfl rfl (hb hby d7_93)
  obtain ⟨T2, X2, e2, st2⟩ := getF X1 hx hZ hown (host := "") (Or.inl (tw hw 50 rfl)) Via.refl e1 (L0.FI 7 (by decide) rfl) (g := (mkF m 128 #[vR a1, vN (tr), vN (sv), vJ kh, .second, vJ kl, .second, vN (nd), vI 1, uu, uu, uu, uu, uu, uu, uu] [(.ref a1)])) rfl rfl (hb hby d7_128)
  obtain ⟨cq3, q3, q3'⟩ := L0.E.cell
  obtain ⟨_, _, ⟨T3, L3, k3, n3⟩, -, X3, ⟨Lc3, hQ3, l3, y3, z3⟩, st3⟩ := X2.privateBack hx (y := (⟨"com/example/ebbtide/ebbtide/cluster/LoadTrees", "slotFor", "(IJJI)I"⟩ : MethodName)) hown (mvT hZ (tw hw 116 rfl)) (mvT hZ (tw hw 117 rfl)) (mvT hZ (own_selP hw (tw hw 117 rfl) (tw hw 118 rfl))) (Cond.privateMethod_at (mvP hZ (tw hw 118 rfl) (args := #[]))) (mvT hZ (tw hw 119 rfl)) (by decide) (backOf (W := 2) (rmSF1 l Z a0 hw [] a1 A N I J cc M B nb nd kh kl sv h0 n0 Z0 L0 hS hnd hnb Y11) hZ (tw hw 119 rfl) (tw hw 14 rfl) (by decide) (by decide)) (g := (mkF m 143 #[vR a1, vN (tr), vN (sv), vJ kh, .second, vJ kl, .second, vN (nd), vI 1, uu, uu, uu, uu, uu, uu, uu] [(.int (Int32.ofNat (sv))), (.long kl), (.long kh), (.int (Int32.ofNat (nd))), (.ref a1), (.int (Int32.ofNat (nd * 64))), (.ref (A 7))])) rfl (by rw [hml]; rfl) (Steps.refl _) (a := a1) (by rw [e2]; exact q3) q3' (argsL := [(.int (Int32.ofNat (nd))), (.long kh), (.long kl), (.int (Int32.ofNat (sv)))]) (rest := [(.int (Int32.ofNat (nd * 64))), (.ref (A 7))]) (lenOf pd__28IJJI_29I rfl) rfl (by show 2 * 0 + _ ≤ _; exact Nat.le_of_eq rfl) (hb hby d7_143) (fun _ _ => ⟨rfl, e2, (by decide : 0 + 0 ≤ _), (by decide : 0 + 0 ≤ _)⟩)
  dsimp only [Pt.U, Pt.locs, Pt.cells, Pt.slots] at X3 l3 y3 z3 st3 hQ3
  subst l3 y3 z3
  obtain ⟨rfl, N3q, e3⟩ := hQ3
  have N3 := Fr.app N0 N3q
  refine ⟨T3, _, _, X3, e3, N3, (KN.refl n0 h0), rfl, fun t kt => ?_⟩
  · show Steps p.tables e below (T0.setTop (mkF m 92 #[vR a1, vN (tr), vN (sv), vJ kh, .second, vJ kl, .second, vN (nd), vI 1, uu, uu, uu, uu, uu, uu, uu] [])) _
    refine XS.aloadN X0.here hx rfl (hb hby d7_92) rfl rfl ?_
    refine st1 _ ?_
    refine XS.iload X1.here hx rfl (hb hby d7_96) rfl ?_
    refine own_ldIN X1 hx hZ e1 (L0.aI 11 (by decide)) (i := nd) (x := (1 : Int32)) (by omega) (congrArg Value.int (show (I 11 (nd)) = (1 : Int32) from Y11)) (g := (mkF m 98 #[vR a1, vN (tr), vN (sv), vJ kh, .second, vJ kl, .second, vN (nd), vI 1, uu, uu, uu, uu, uu, uu, uu] [(.int (Int32.ofNat (nd))), (.ref (A 11))])) rfl rfl (hb hby d7_98) _ ?_
    refine XS.ifYes X1.here hx rfl (pc0 := 99) (pc' := 127) rfl (hb hby d7_99) rfl ((if0 _ _).trans (feq (by decide : ¬ ((1 : Int32) = (0 : Int32)))).2) (by decide) (by decide) ?_
    refine XS.aloadN X1.here hx rfl (hb hby d7_127) rfl rfl ?_
    refine st2 _ ?_
    refine XS.iload X2.here hx rfl (hb hby d7_131) rfl ?_
    refine XS.bipush X2.here hx rfl (hb hby d7_133) ?_
    refine XS.imul X2.here hx rfl (hb hby d7_135) rfl ?_
    show Steps p.tables e below (T2.setTop (mkF m 136 #[vR a1, vN (tr), vN (sv), vJ kh, .second, vJ kl, .second, vN (nd), vI 1, uu, uu, uu, uu, uu, uu, uu] [(.int ((Int32.ofNat (nd)) * (64 : Int32))), (.ref (A 7))])) _
    rw [show (Int32.ofNat (nd)) * (64 : Int32) = Int32.ofNat (nd * 64) from own_nm (nd) (64)]
    show Steps p.tables e below (T2.setTop (mkF m 136 #[vR a1, vN (tr), vN (sv), vJ kh, .second, vJ kl, .second, vN (nd), vI 1, uu, uu, uu, uu, uu, uu, uu] [(.int (Int32.ofNat (nd * 64))), (.ref (A 7))])) _
    refine XS.aloadN X2.here hx rfl (hb hby d7_136) rfl rfl ?_
    refine XS.iload X2.here hx rfl (hb hby d7_137) rfl ?_
    refine XS.lloadN X2.here hx rfl (hb hby d7_139) rfl ?_
    refine XS.lload X2.here hx rfl (hb hby d7_140) rfl ?_
    refine XS.iloadN X2.here hx rfl (hb hby d7_142) rfl ?_
    refine st3.trans ?_
    refine XS.iadd X3.here hx rfl (hb hby d7_146) rfl ?_
    show Steps p.tables e below (T3.setTop (mkF m 147 #[vR a1, vN (tr), vN (sv), vJ kh, .second, vJ kl, .second, vN (nd), vI 1, uu, uu, uu, uu, uu, uu, uu] [(.int ((Int32.ofNat (nd * 64)) + (0 : Int32))), (.ref (A 7))])) _
    rw [show (Int32.ofNat (nd * 64)) + (0 : Int32) = Int32.ofNat (nd * 64) from own_na (nd * 64) (0)]
    show Steps p.tables e below (T3.setTop (mkF m 147 #[vR a1, vN (tr), vN (sv), vJ kh, .second, vJ kl, .second, vN (nd), vI 1, uu, uu, uu, uu, uu, uu, uu] [(.int (Int32.ofNat (nd * 64))), (.ref (A 7))])) _
    refine own_ldIN X3 hx hZ e3 (L0.aI 7 (by decide)) (i := nd * 64) (x := (Int32.ofNat (l0))) (by omega) (congrArg Value.int (show (I 7 (nd * 64)) = (Int32.ofNat (l0)) from Y7)) (g := (mkF m 147 #[vR a1, vN (tr), vN (sv), vJ kh, .second, vJ kl, .second, vN (nd), vI 1, uu, uu, uu, uu, uu, uu, uu] [(.int (Int32.ofNat (nd * 64))), (.ref (A 7))])) rfl rfl (hb hby d7_147) _ ?_
    refine XS.istore X3.here hx rfl (hb hby d7_148) rfl (l' := #[vR a1, vN (tr), vN (sv), vJ kh, .second, vJ kl, .second, vN (nd), vN (l0), uu, uu, uu, uu, uu, uu, uu]) rfl ?_
    exact kt
set_option maxRecDepth 65536 in
set_option maxHeartbeats 40000000 in
theorem sgP2a {p : Program} {l : Launch} {e : Env} {s : State} {m : MethodId} {args : Array Value} {below : List Frame} {meth : Method} {c : Code} {T0 : State} {locs : List Loc} {Z : State} {a0 : Array Value} {h0 : Heap} (a1 : Addr) (A : Nat → Addr) (N : Nat → Nat) (I : Nat → Nat → Int32) (J : Nat → Nat → Int64) (cc : Nat → Int32) (M : Nat → Option Addr) (B : Nat → Nat → Int32) (nb nd tr sv l0 : Nat) (kh kl Y1 l1 : Int64)
    (X0 : Stand p l e ({ frames := 7, cells := 1, slots := 4, locals := 150 } : Room) s m args below meth c T0 locs 0 0) (hx : p.tables.exec = Jvm.exec) (hZ : Z.Warmed39 s.vm) (hw : ∀ d ∈ tables_1, d.before a0 Z = true) (hby : c.code = prog_74_method_2_code) (hml : c.maxLocals = 16) (hown : s.vm.findClass "com/example/ebbtide/ebbtide/cluster/LoadTrees" = some m.cls) (e0 : T0.heap = h0) (n0 : Nat) (N0 : Fr n0 locs) (Z0 : n0 ≤ h0.size) (L0 : LT Z h0 n0 a1 A N I J cc M B) (hS : SZ N nb) (hnb : nb < 1000) (hnd : nd < nb) (hsv : sv < 3) (Y12 : I 12 nd = (1 : Int32)) (Y11 : I 11 nd = (2 : Int32)) (Y7 : I 7 (nd * 64) = Int32.ofNat l0) (hl0 : l0 < 4) (Y20 : J 20 (nd * 64 + 1) = Y1) (Y21 : J 21 (nd * 64 + 1) = l1) (Y10 : I 10 (nd * 64 + 1) = (-1 : Int32)) (hk : own_k kh kl Y1 l1 < 0) :
    ∃ (T' : State) (h' : Heap) (L' : List Loc), Stand p l e ({ frames := 7, cells := 1, slots := 4, locals := 150 } : Room) s m args below meth c T' L' 0 0 ∧ T'.heap = h' ∧ Fr n0 L' ∧ KN n0 h0 h' ∧ h' = h0 ∧ (∀ t, Steps p.tables e below (T'.setTop (mkF m 150 #[vR a1, vN (tr), vN (sv), vJ kh, .second, vJ kl, .second, vN (nd), vN (l0), uu, uu, uu, uu, uu, uu, uu] [])) t → Steps p.tables e below (T0.setTop (mkF m 92 #[vR a1, vN (tr), vN (sv), vJ kh, .second, vJ kl, .second, vN (nd), vI 1, uu, uu, uu, uu, uu, uu, uu] [])) t) := by
  have hS0 := hS
  obtain ⟨S0, S1, S2, S3, S4, S5, S6, S7, S8, S9, S10, S11, S12, S13, S14, S15, S16, S17, S18, S19, S20, S21, S22⟩ := hS0
  obtain ⟨T1, X1, e1, st1⟩ := getF X0 hx hZ hown (host := "") (Or.inl (tw hw 64 rfl)) Via.refl e0 (L0.FI 11 (by decide) rfl) (g := (mkF m 93 #[vR a1, vN (tr), vN (sv), vJ kh, .second, vJ kl, .second, vN (nd), vI 1, uu, uu, uu, uu, uu, uu, uu] [(.ref a1)])) rfl rfl (hb hby d7_93)
  obtain ⟨T2, X2, e2, st2⟩ := getF X1 hx hZ hown (host := "") (Or.inl (tw hw 50 rfl)) Via.refl e1 (L0.FI 7 (by decide) rfl) (g := (mkF m 128 #[vR a1, vN (tr), vN (sv), vJ kh, .second, vJ kl, .second, vN (nd), vI 1, uu, uu, uu, uu, uu, uu, uu] [(.ref a1)])) rfl rfl (hb hby d7_128)
  obtain ⟨cq3, q3, q3'⟩ := L0.E.cell
  obtain ⟨_, _, ⟨T3, L3, k3, n3⟩, -, X3, ⟨Lc3, hQ3, l3, y3, z3⟩, st3⟩ := X2.privateBack hx (y := (⟨"com/example/ebbtide/ebbtide/cluster/LoadTrees", "slotFor", "(IJJI)I"⟩ : MethodName)) hown (mvT hZ (tw hw 116 rfl)) (mvT hZ (tw hw 117 rfl)) (mvT hZ (own_selP hw (tw hw 117 rfl) (tw hw 118 rfl))) (Cond.privateMethod_at (mvP hZ (tw hw 118 rfl) (args := #[]))) (mvT hZ (tw hw 119 rfl)) (by decide) (backOf (W := 2) (rmSF2a l Z a0 hw [] a1 A N I J cc M B nb nd kh kl sv Y1 l1 h0 n0 Z0 L0 hS hnd hnb Y11 Y20 Y21 Y10 (by omega) hk) hZ (tw hw 119 rfl) (tw hw 14 rfl) (by decide) (by decide)) (g := (mkF m 143 #[vR a1, vN (tr), vN (sv), vJ kh, .second, vJ kl, .second, vN (nd), vI 1, uu, uu, uu, uu, uu, uu, uu] [(.int (Int32.ofNat (sv))), (.long kl), (.long kh), (.int (Int32.ofNat (nd))), (.ref a1), (.int (Int32.ofNat (nd * 64))), (.ref (A 7))])) rfl (by rw [hml]; rfl) (Steps.refl _) (a := a1) (by rw [e2]; exact q3) q3' (argsL := [(.int (Int32.ofNat (nd))), (.long kh), (.long kl), (.int (Int32.ofNat (sv)))]) (rest := [(.int (Int32.ofNat (nd * 64))), (.ref (A 7))]) (lenOf pd__28IJJI_29I rfl) rfl (by show 2 * 0 + _ ≤ _; exact Nat.le_of_eq rfl) (hb hby d7_143) (fun _ _ => ⟨rfl, e2, (by decide : 0 + 0 ≤ _), (by decide : 0 + 0 ≤ _)⟩)
  dsimp only [Pt.U, Pt.locs, Pt.cells, Pt.slots] at X3 l3 y3 z3 st3 hQ3
  subst l3 y3 z3
  obtain ⟨rfl, N3q, e3⟩ := hQ3
  have N3 := Fr.app N0 N3q
  refine ⟨T3, _, _, X3, e3, N3, (KN.refl n0 h0), rfl, fun t kt => ?_⟩
  · show Steps p.tables e below (T0.setTop (mkF m 92 #[vR a1, vN (tr), vN (sv), vJ kh, .second, vJ kl, .second, vN (nd), vI 1, uu, uu, uu, uu, uu, uu, uu] [])) _
    refine XS.aloadN X0.here hx rfl (hb hby d7_92) rfl rfl ?_
    refine st1 _ ?_
    refine XS.iload X1.here hx rfl (hb hby d7_96) rfl ?_
    refine own_ldIN X1 hx hZ e1 (L0.aI 11 (by decide)) (i := nd) (x := (2 : Int32)) (by omega) (congrArg Value.int (show (I 11 (nd)) = (2 : Int32) from Y11)) (g := (mkF m 98 #[vR a1, vN (tr), vN (sv), vJ kh, .second, vJ kl, .second, vN (nd), vI 1, uu, uu, uu, uu, uu, uu, uu] [(.int (Int32.ofNat (nd))), (.ref (A 11))])) rfl rfl (hb hby d7_98) _ ?_
    refine XS.ifYes X1.here hx rfl (pc0 := 99) (pc' := 127) rfl (hb hby d7_99) rfl ((if0 _ _).trans (feq (by decide : ¬ ((2 : Int32) = (0 : Int32)))).2) (by decide) (by decide) ?_
    refine XS.aloadN X1.here hx rfl (hb hby d7_127) rfl rfl ?_
    refine st2 _ ?_
    refine XS.iload X2.here hx rfl (hb hby d7_131) rfl ?_
    refine XS.bipush X2.here hx rfl (hb hby d7_133) ?_
    refine XS.imul X2.here hx rfl (hb hby d7_135) rfl ?_
    show Steps p.tables e below (T2.setTop (mkF m 136 #[vR a1, vN (tr), vN (sv), vJ kh, .second, vJ kl, .second, vN (nd), vI 1, uu, uu, uu, uu, uu, uu, uu] [(.int ((Int32.ofNat (nd)) * (64 : Int32))), (.ref (A 7))])) _
    rw [show (Int32.ofNat (nd)) * (64 : Int32) = Int32.ofNat (nd * 64) from own_nm (nd) (64)]
    show Steps p.tables e below (T2.setTop (mkF m 136 #[vR a1, vN (tr), vN (sv), vJ kh, .second, vJ kl, .second, vN (nd), vI 1, uu, uu, uu, uu, uu, uu, uu] [(.int (Int32.ofNat (nd * 64))), (.ref (A 7))])) _
    refine XS.aloadN X2.here hx rfl (hb hby d7_136) rfl rfl ?_
    refine XS.iload X2.here hx rfl (hb hby d7_137) rfl ?_
    refine XS.lloadN X2.here hx rfl (hb hby d7_139) rfl ?_
    refine XS.lload X2.here hx rfl (hb hby d7_140) rfl ?_
    refine XS.iloadN X2.here hx rfl (hb hby d7_142) rfl ?_
    refine st3.trans ?_
    refine XS.iadd X3.here hx rfl (hb hby d7_146) rfl ?_
    show Steps p.tables e below (T3.setTop (mkF m 147 #[vR a1, vN (tr), vN (sv), vJ kh, .second, vJ kl, .second, vN (nd), vI 1, uu, uu, uu, uu, uu, uu, uu] [(.int ((Int32.ofNat (nd * 64)) + (0 : Int32))), (.ref (A 7))])) _
    rw [show (Int32.ofNat (nd * 64)) + (0 : Int32) = Int32.ofNat (nd * 64) from own_na (nd * 64) (0)]
    show Steps p.tables e below (T3.setTop (mkF m 147 #[vR a1, vN (tr), vN (sv), vJ kh, .second, vJ kl, .second, vN (nd), vI 1, uu, uu, uu, uu, uu, uu, uu] [(.int (Int32.ofNat (nd * 64))), (.ref (A 7))])) _
    refine own_ldIN X3 hx hZ e3 (L0.aI 7 (by decide)) (i := nd * 64) (x := (Int32.ofNat (l0))) (by omega) (congrArg Value.int (show (I 7 (nd * 64)) = (Int32.ofNat (l0)) from Y7)) (g := (mkF m 147 #[vR a1, vN (tr), vN (sv), vJ kh, .second, vJ kl, .second, vN (nd), vI 1, uu, uu, uu, uu, uu, uu, uu] [(.int (Int32.ofNat (nd * 64))), (.ref (A 7))])) rfl rfl (hb hby d7_147) _ ?_
    refine XS.istore X3.here hx rfl (hb hby d7_148) rfl (l' := #[vR a1, vN (tr), vN (sv), vJ kh, .second, vJ kl, .second, vN (nd), vN (l0), uu, uu, uu, uu, uu, uu, uu]) rfl ?_
    exact kt
set_option maxRecDepth 65536 in
set_option maxHeartbeats 40000000 in
theorem sgP2b {p : Program} {l : Launch} {e : Env} {s : State} {m : MethodId} {args : Array Value} {below : List Frame} {meth : Method} {c : Code} {T0 : State} {locs : List Loc} {Z : State} {a0 : Array Value} {h0 : Heap} (a1 : Addr) (A : Nat → Addr) (N : Nat → Nat) (I : Nat → Nat → Int32) (J : Nat → Nat → Int64) (cc : Nat → Int32) (M : Nat → Option Addr) (B : Nat → Nat → Int32) (nb nd tr sv l0 : Nat) (kh kl Y1 l1 : Int64)
    (X0 : Stand p l e ({ frames := 7, cells := 1, slots := 4, locals := 150 } : Room) s m args below meth c T0 locs 0 0) (hx : p.tables.exec = Jvm.exec) (hZ : Z.Warmed39 s.vm) (hw : ∀ d ∈ tables_1, d.before a0 Z = true) (hby : c.code = prog_74_method_2_code) (hml : c.maxLocals = 16) (hown : s.vm.findClass "com/example/ebbtide/ebbtide/cluster/LoadTrees" = some m.cls) (e0 : T0.heap = h0) (n0 : Nat) (N0 : Fr n0 locs) (Z0 : n0 ≤ h0.size) (L0 : LT Z h0 n0 a1 A N I J cc M B) (hS : SZ N nb) (hnb : nb < 1000) (hnd : nd < nb) (hsv : sv < 3) (Y12 : I 12 nd = (1 : Int32)) (Y11 : I 11 nd = (2 : Int32)) (Y7 : I 7 (nd * 64 + 1) = Int32.ofNat l0) (hl0 : l0 < 4) (Y20 : J 20 (nd * 64 + 1) = Y1) (Y21 : J 21 (nd * 64 + 1) = l1) (Y10 : I 10 (nd * 64 + 1) = (-1 : Int32)) (hk : ¬ own_k kh kl Y1 l1 < 0) :
    ∃ (T' : State) (h' : Heap) (L' : List Loc), Stand p l e ({ frames := 7, cells := 1, slots := 4, locals := 150 } : Room) s m args below meth c T' L' 0 0 ∧ T'.heap = h' ∧ Fr n0 L' ∧ KN n0 h0 h' ∧ h' = h0 ∧ (∀ t, Steps p.tables e below (T'.setTop (mkF m 150 #[vR a1, vN (tr), vN (sv), vJ kh, .second, vJ kl, .second, vN (nd), vN (l0), uu, uu, uu, uu, uu, uu, uu] [])) t → Steps p.tables e below (T0.setTop (mkF m 92 #[vR a1, vN (tr), vN (sv), vJ kh, .second, vJ kl, .second, vN (nd), vI 1, uu, uu, uu, uu, uu, uu, uu] [])) t) := by
  have hS0 := hS
  obtain ⟨S0, S1, S2, S3, S4, S5, S6, S7, S8, S9, S10, S11, S12, S13, S14, S15, S16, S17, S18, S19, S20, S21, S22⟩ := hS0
  obtain ⟨T1, X1, e1, st1⟩ := getF X0 hx hZ hown (host := "") (Or.inl (tw hw 64 rfl)) Via.refl e0 (L0.FI 11 (by decide) rfl) (g := (mkF m 93 #[vR a1, vN (tr), vN (sv), vJ kh, .second, vJ kl, .second, vN (nd), vI 1, uu, uu, uu, uu, uu, uu, uu] [(.ref a1)])) rfl rfl (hb hby d7_93)
  obtain ⟨T2, X2, e2, st2⟩ := getF X1 hx hZ hown (host := "") (Or.inl (tw hw 50 rfl)) Via.refl e1 (L0.FI 7 (by decide) rfl) (g := (mkF m 128 #[vR a1, vN (tr), vN (sv), vJ kh, .second, vJ kl, .second, vN (nd), vI 1, uu, uu, uu, uu, uu, uu, uu] [(.ref a1)])) rfl rfl (hb hby d7_128)
  obtain ⟨cq3, q3, q3'⟩ := L0.E.cell
  obtain ⟨_, _, ⟨T3, L3, k3, n3⟩, -, X3, ⟨Lc3, hQ3, l3, y3, z3⟩, st3⟩ := X2.privateBack hx (y := (⟨"com/example/ebbtide/ebbtide/cluster/LoadTrees", "slotFor", "(IJJI)I"⟩ : MethodName)) hown (mvT hZ (tw hw 116 rfl)) (mvT hZ (tw hw 117 rfl)) (mvT hZ (own_selP hw (tw hw 117 rfl) (tw hw 118 rfl))) (Cond.privateMethod_at (mvP hZ (tw hw 118 rfl) (args := #[]))) (mvT hZ (tw hw 119 rfl)) (by decide) (backOf (W := 2) (rmSF2b l Z a0 hw [] a1 A N I J cc M B nb nd kh kl sv Y1 l1 h0 n0 Z0 L0 hS hnd hnb Y11 Y20 Y21 Y10 (by omega) hk) hZ (tw hw 119 rfl) (tw hw 14 rfl) (by decide) (by decide)) (g := (mkF m 143 #[vR a1, vN (tr), vN (sv), vJ kh, .second, vJ kl, .second, vN (nd), vI 1, uu, uu, uu, uu, uu, uu, uu] [(.int (Int32.ofNat (sv))), (.long kl), (.long kh), (.int (Int32.ofNat (nd))), (.ref a1), (.int (Int32.ofNat (nd * 64))), (.ref (A 7))])) rfl (by rw [hml]; rfl) (Steps.refl _) (a := a1) (by rw [e2]; exact q3) q3' (argsL := [(.int (Int32.ofNat (nd))), (.long kh), (.long kl), (.int (Int32.ofNat (sv)))]) (rest := [(.int (Int32.ofNat (nd * 64))), (.ref (A 7))]) (lenOf pd__28IJJI_29I rfl) rfl (by show 2 * 0 + _ ≤ _; exact Nat.le_of_eq rfl) (hb hby d7_143) (fun _ _ => ⟨rfl, e2, (by decide : 0 + 0 ≤ _), (by decide : 0 + 0 ≤ _)⟩)
  dsimp only [Pt.U, Pt.locs, Pt.cells, Pt.slots] at X3 l3 y3 z3 st3 hQ3
  subst l3 y3 z3
  obtain ⟨rfl, N3q, e3⟩ := hQ3
  have N3 := Fr.app N0 N3q
  refine ⟨T3, _, _, X3, e3, N3, (KN.refl n0 h0), rfl, fun t kt => ?_⟩
  · show Steps p.tables e below (T0.setTop (mkF m 92 #[vR a1, vN (tr), vN (sv), vJ kh, .second, vJ kl, .second, vN (nd), vI 1, uu, uu, uu, uu, uu, uu, uu] [])) _
    refine XS.aloadN X0.here hx rfl (hb hby d7_92) rfl rfl ?_
    refine st1 _ ?_
    refine XS.iload X1.here hx rfl (hb hby d7_96) rfl ?_
    refine own_ldIN X1 hx hZ e1 (L0.aI 11 (by decide)) (i := nd) (x := (2 : Int32)) (by omega) (congrArg Value.int (show (I 11 (nd)) = (2 : Int32) from Y11)) (g := (mkF m 98 #[vR a1, vN (tr), vN (sv), vJ kh, .second, vJ kl, .second, vN (nd), vI 1, uu, uu, uu, uu, uu, uu, uu] [(.int (Int32.ofNat (nd))), (.ref (A 11))])) rfl rfl (hb hby d7_98) _ ?_
    refine XS.ifYes X1.here hx rfl (pc0 := 99) (pc' := 127) rfl (hb hby d7_99) rfl ((if0 _ _).trans (feq (by decide : ¬ ((2 : Int32) = (0 : Int32)))).2) (by decide) (by decide) ?_
    refine XS.aloadN X1.here hx rfl (hb hby d7_127) rfl rfl ?_
    refine st2 _ ?_
    refine XS.iload X2.here hx rfl (hb hby d7_131) rfl ?_
    refine XS.bipush X2.here hx rfl (hb hby d7_133) ?_
    refine XS.imul X2.here hx rfl (hb hby d7_135) rfl ?_
    show Steps p.tables e below (T2.setTop (mkF m 136 #[vR a1, vN (tr), vN (sv), vJ kh, .second, vJ kl, .second, vN (nd), vI 1, uu, uu, uu, uu, uu, uu, uu] [(.int ((Int32.ofNat (nd)) * (64 : Int32))), (.ref (A 7))])) _
    rw [show (Int32.ofNat (nd)) * (64 : Int32) = Int32.ofNat (nd * 64) from own_nm (nd) (64)]
    show Steps p.tables e below (T2.setTop (mkF m 136 #[vR a1, vN (tr), vN (sv), vJ kh, .second, vJ kl, .second, vN (nd), vI 1, uu, uu, uu, uu, uu, uu, uu] [(.int (Int32.ofNat (nd * 64))), (.ref (A 7))])) _
    refine XS.aloadN X2.here hx rfl (hb hby d7_136) rfl rfl ?_
    refine XS.iload X2.here hx rfl (hb hby d7_137) rfl ?_
    refine XS.lloadN X2.here hx rfl (hb hby d7_139) rfl ?_
    refine XS.lload X2.here hx rfl (hb hby d7_140) rfl ?_
    refine XS.iloadN X2.here hx rfl (hb hby d7_142) rfl ?_
    refine st3.trans ?_
    refine XS.iadd X3.here hx rfl (hb hby d7_146) rfl ?_
    show Steps p.tables e below (T3.setTop (mkF m 147 #[vR a1, vN (tr), vN (sv), vJ kh, .second, vJ kl, .second, vN (nd), vI 1, uu, uu, uu, uu, uu, uu, uu] [(.int ((Int32.ofNat (nd * 64)) + (1 : Int32))), (.ref (A 7))])) _
    rw [show (Int32.ofNat (nd * 64)) + (1 : Int32) = Int32.ofNat (nd * 64 + 1) from own_na (nd * 64) (1)]
    show Steps p.tables e below (T3.setTop (mkF m 147 #[vR a1, vN (tr), vN (sv), vJ kh, .second, vJ kl, .second, vN (nd), vI 1, uu, uu, uu, uu, uu, uu, uu] [(.int (Int32.ofNat (nd * 64 + 1))), (.ref (A 7))])) _
    refine own_ldIN X3 hx hZ e3 (L0.aI 7 (by decide)) (i := nd * 64 + 1) (x := (Int32.ofNat (l0))) (by omega) (congrArg Value.int (show (I 7 (nd * 64 + 1)) = (Int32.ofNat (l0)) from Y7)) (g := (mkF m 147 #[vR a1, vN (tr), vN (sv), vJ kh, .second, vJ kl, .second, vN (nd), vI 1, uu, uu, uu, uu, uu, uu, uu] [(.int (Int32.ofNat (nd * 64 + 1))), (.ref (A 7))])) rfl rfl (hb hby d7_147) _ ?_
    refine XS.istore X3.here hx rfl (hb hby d7_148) rfl (l' := #[vR a1, vN (tr), vN (sv), vJ kh, .second, vJ kl, .second, vN (nd), vN (l0), uu, uu, uu, uu, uu, uu, uu]) rfl ?_
    exact kt
theorem d7_150 : decode q13 150 = .ok (.aload_n 0, 1) := by decide +kernel
theorem d7_151 : decode q13 151 = .ok (.getfield 37, 3) := by decide +kernel
theorem d7_154 : decode q13 154 = .ok (.iload 8, 2) := by decide +kernel
theorem d7_156 : decode q13 156 = .ok (.laload, 1) := by decide +kernel
theorem d7_157 : decode q13 157 = .ok (.aload_n 0, 1) := by decide +kernel
theorem d7_158 : decode q13 158 = .ok (.getfield 40, 3) := by decide +kernel
theorem d7_161 : decode q13 161 = .ok (.iload 8, 2) := by decide +kernel
theorem d7_163 : decode q13 163 = .ok (.laload, 1) := by decide +kernel
theorem d7_164 : decode q13 164 = .ok (.lload_n 3, 1) := by decide +kernel
theorem d7_165 : decode q13 165 = .ok (.lload 5, 2) := by decide +kernel
theorem d7_167 : decode q13 167 = .ok (.invokestatic 104, 3) := by decide +kernel
theorem d7_170 : decode q13 170 = .ok (.ifCond .eq 100, 3) := by decide +kernel
theorem d7_270 : decode q13 270 = .ok (.lload_n 3, 1) := by decide +kernel
theorem d7_271 : decode q13 271 = .ok (.lload 5, 2) := by decide +kernel
theorem d7_273 : decode q13 273 = .ok (.aload_n 0, 1) := by decide +kernel
theorem d7_274 : decode q13 274 = .ok (.getfield 37, 3) := by decide +kernel
theorem d7_277 : decode q13 277 = .ok (.iload 8, 2) := by decide +kernel
theorem d7_279 : decode q13 279 = .ok (.laload, 1) := by decide +kernel
theorem d7_280 : decode q13 280 = .ok (.aload_n 0, 1) := by decide +kernel
theorem d7_281 : decode q13 281 = .ok (.getfield 40, 3) := by decide +kernel
theorem d7_284 : decode q13 284 = .ok (.iload 8, 2) := by decide +kernel
theorem d7_286 : decode q13 286 = .ok (.laload, 1) := by decide +kernel
theorem d7_287 : decode q13 287 = .ok (.invokestatic 104, 3) := by decide +kernel
theorem d7_290 : decode q13 290 = .ok (.ifCond .eq 164, 3) := by decide +kernel
set_option maxRecDepth 65536 in
set_option maxHeartbeats 40000000 in
theorem sgE {p : Program} {l : Launch} {e : Env} {s : State} {m : MethodId} {args : Array Value} {below : List Frame} {meth : Method} {c : Code} {T0 : State} {locs : List Loc} {Z : State} {a0 : Array Value} {h0 : Heap} (a1 : Addr) (A : Nat → Addr) (N : Nat → Nat) (I : Nat → Nat → Int32) (J : Nat → Nat → Int64) (cc : Nat → Int32) (M : Nat → Option Addr) (B : Nat → Nat → Int32) (nb nd tr sv l0 : Nat) (kh kl kh0 kl0 : Int64)
    (X0 : Stand p l e ({ frames := 7, cells := 1, slots := 4, locals := 150 } : Room) s m args below meth c T0 locs 0 0) (hx : p.tables.exec = Jvm.exec) (hZ : Z.Warmed39 s.vm) (hw : ∀ d ∈ tables_1, d.before a0 Z = true) (hby : c.code = prog_74_method_2_code) (hml : c.maxLocals = 16) (hown : s.vm.findClass "com/example/ebbtide/ebbtide/cluster/LoadTrees" = some m.cls) (e0 : T0.heap = h0) (n0 : Nat) (N0 : Fr n0 locs) (Z0 : n0 ≤ h0.size) (L0 : LT Z h0 n0 a1 A N I J cc M B) (hS : SZ N nb) (hnb : nb < 1000) (hnd : nd < nb) (hsv : sv < 3) (Y12 : I 12 nd = (1 : Int32)) (hl0 : l0 < 4) (Y17 : J 17 l0 = kh0) (Y18 : J 18 l0 = kl0) (hk1 : ¬ own_k kh0 kl0 kh kl < 0) (hk2 : ¬ own_k kh kl kh0 kl0 < 0) :
    ∃ (T' : State) (h' : Heap) (L' : List Loc), Stand p l e ({ frames := 7, cells := 1, slots := 4, locals := 150 } : Room) s m args below meth c T' L' 0 0 ∧ T'.heap = h' ∧ Fr n0 L' ∧ KN n0 h0 h' ∧ h' = h0 ∧ (∀ t, Steps p.tables e below (T'.setTop (mkF m 454 #[vR a1, vN (tr), vN (sv), vJ kh, .second, vJ kl, .second, vN (nd), vN (l0), uu, uu, uu, uu, uu, uu, uu] [])) t → Steps p.tables e below (T0.setTop (mkF m 150 #[vR a1, vN (tr), vN (sv), vJ kh, .second, vJ kl, .second, vN (nd), vN (l0), uu, uu, uu, uu, uu, uu, uu] [])) t) := by
  have hS0 := hS
  obtain ⟨S0, S1, S2, S3, S4, S5, S6, S7, S8, S9, S10, S11, S12, S13, S14, S15, S16, S17, S18, S19, S20, S21, S22⟩ := hS0
  obtain ⟨T1, X1, e1, st1⟩ := getF X0 hx hZ hown (host := "") (Or.inl (tw hw 40 rfl)) Via.refl e0 (L0.FJ 17 (by decide) (by decide) rfl) (g := (mkF m 151 #[vR a1, vN (tr), vN (sv), vJ kh, .second, vJ kl, .second, vN (nd), vN (l0), uu, uu, uu, uu, uu, uu, uu] [(.ref a1)])) rfl rfl (hb hby d7_151)
  obtain ⟨T2, X2, e2, st2⟩ := getF X1 hx hZ hown (host := "") (Or.inl (tw hw 42 rfl)) Via.refl e1 (L0.FJ 18 (by decide) (by decide) rfl) (g := (mkF m 158 #[vR a1, vN (tr), vN (sv), vJ kh, .second, vJ kl, .second, vN (nd), vN (l0), uu, uu, uu, uu, uu, uu, uu] [(.ref a1), (.long kh0)])) rfl rfl (hb hby d7_158)
  obtain ⟨_, _, ⟨T3, L3, k3, n3⟩, -, X3, ⟨Lc3, hQ3, l3, y3, z3⟩, st3⟩ := Jvm.LawKit.callS X2 hx (y := (⟨"com/example/ebbtide/ebbtide/cluster/LoadTrees", "less", "(JJJJ)Z"⟩ : MethodName)) hown (mvT hZ (tw hw 120 rfl)) (mvT hZ (tw hw 121 rfl)) (mvT hZ (tw hw 14 rfl)) (mvT hZ (tw hw 122 rfl)) (by decide) (backOf (W := 0) (rmLess l Z a0 hw [] kh0 kl0 kh kl h0 n0 Z0) hZ (tw hw 122 rfl) (tw hw 14 rfl) (by decide) (by decide)) (g := (mkF m 167 #[vR a1, vN (tr), vN (sv), vJ kh, .second, vJ kl, .second, vN (nd), vN (l0), uu, uu, uu, uu, uu, uu, uu] [(.long kl), (.long kh), (.long kl0), (.long kh0)])) rfl (by rw [hml]; rfl) (argsL := [(.long kh0), (.long kl0), (.long kh), (.long kl)]) (rest := []) (lenOf pd__28JJJJ_29Z rfl) rfl (by show 2 * 0 + _ ≤ _; exact Nat.le_of_eq rfl) (hb hby d7_167) (fun _ _ => ⟨rfl, e2, (by decide : 0 + 0 ≤ _), (by decide : 0 + 0 ≤ _)⟩)
  dsimp only [Pt.U, Pt.locs, Pt.cells, Pt.slots] at X3 l3 y3 z3 st3 hQ3
  subst l3 y3 z3
  obtain ⟨rfl, N3q, e3⟩ := hQ3
  have N3 := Fr.app N0 N3q
  obtain ⟨T4, X4, e4, st4⟩ := getF X3 hx hZ hown (host := "") (Or.inl (tw hw 40 rfl)) Via.refl e3 (L0.FJ 17 (by decide) (by decide) rfl) (g := (mkF m 274 #[vR a1, vN (tr), vN (sv), vJ kh, .second, vJ kl, .second, vN (nd), vN (l0), uu, uu, uu, uu, uu, uu, uu] [(.ref a1), (.long kl), (.long kh)])) rfl rfl (hb hby d7_274)
  obtain ⟨T5, X5, e5, st5⟩ := getF X4 hx hZ hown (host := "") (Or.inl (tw hw 42 rfl)) Via.refl e4 (L0.FJ 18 (by decide) (by decide) rfl) (g := (mkF m 281 #[vR a1, vN (tr), vN (sv), vJ kh, .second, vJ kl, .second, vN (nd), vN (l0), uu, uu, uu, uu, uu, uu, uu] [(.ref a1), (.long kh0), (.long kl), (.long kh)])) rfl rfl (hb hby d7_281)
  obtain ⟨_, _, ⟨T6, L6, k6, n6⟩, -, X6, ⟨Lc6, hQ6, l6, y6, z6⟩, st6⟩ := Jvm.LawKit.callS X5 hx (y := (⟨"com/example/ebbtide/ebbtide/cluster/LoadTrees", "less", "(JJJJ)Z"⟩ : MethodName)) hown (mvT hZ (tw hw 120 rfl)) (mvT hZ (tw hw 121 rfl)) (mvT hZ (tw hw 14 rfl)) (mvT hZ (tw hw 122 rfl)) (by decide) (backOf (W := 0) (rmLess l Z a0 hw [] kh kl kh0 kl0 h0 n0 Z0) hZ (tw hw 122 rfl) (tw hw 14 rfl) (by decide) (by decide)) (g := (mkF m 287 #[vR a1, vN (tr), vN (sv), vJ kh, .second, vJ kl, .second, vN (nd), vN (l0), uu, uu, uu, uu, uu, uu, uu] [(.long kl0), (.long kh0), (.long kl), (.long kh)])) rfl (by rw [hml]; rfl) (argsL := [(.long kh), (.long kl), (.long kh0), (.long kl0)]) (rest := []) (lenOf pd__28JJJJ_29Z rfl) rfl (by show 2 * 0 + _ ≤ _; exact Nat.le_of_eq rfl) (hb hby d7_287) (fun _ _ => ⟨rfl, e5, (by decide : 0 + 0 ≤ _), (by decide : 0 + 0 ≤ _)⟩)
  dsimp only [Pt.U, Pt.locs, Pt.cells, Pt.slots] at X6 l6 y6 z6 st6 hQ6
  subst l6 y6 z6
  obtain ⟨rfl, N6q, e6⟩ := hQ6
  have N6 := Fr.app N3 N6q
  refine ⟨T6, _, _, X6, e6, N6, (KN.refl n0 h0), rfl, fun t kt => ?_⟩
  · show Steps p.tables e below (T0.setTop (mkF m 150 #[vR a1, vN (tr), vN (sv), vJ kh, .second, vJ kl, .second, vN (nd), vN (l0), uu, uu, uu, uu, uu, uu, uu] [])) _
    refine XS.aloadN X0.here hx rfl (hb hby d7_150) rfl rfl ?_
    refine st1 _ ?_
    refine XS.iload X1.here hx rfl (hb hby d7_154) rfl ?_
    refine own_ldJN X1 hx hZ e1 (L0.aJ 17 (by decide) (by decide)) (i := l0) (x := kh0) (by omega) (congrArg Value.long (show (J 17 (l0)) = kh0 from Y17)) (g := (mkF m 156 #[vR a1, vN (tr), vN (sv), vJ kh, .second, vJ kl, .second, vN (nd), vN (l0), uu, uu, uu, uu, uu, uu, uu] [(.int (Int32.ofNat (l0))), (.ref (A 17))])) rfl rfl (hb hby d7_156) _ ?_
    refine XS.aloadN X1.here hx rfl (hb hby d7_157) rfl rfl ?_
    refine st2 _ ?_
    refine XS.iload X2.here hx rfl (hb hby d7_161) rfl ?_
    refine own_ldJN X2 hx hZ e2 (L0.aJ 18 (by decide) (by decide)) (i := l0) (x := kl0) (by omega) (congrArg Value.long (show (J 18 (l0)) = kl0 from Y18)) (g := (mkF m 163 #[vR a1, vN (tr), vN (sv), vJ kh, .second, vJ kl, .second, vN (nd), vN (l0), uu, uu, uu, uu, uu, uu, uu] [(.int (Int32.ofNat (l0))), (.ref (A 18)), (.long kh0)])) rfl rfl (hb hby d7_163) _ ?_
    refine XS.lloadN X2.here hx rfl (hb hby d7_164) rfl ?_
    refine XS.lload X2.here hx rfl (hb hby d7_165) rfl ?_
    refine st3 _ ?_
    refine XS.ifYes X3.here hx rfl (pc0 := 170) (pc' := 270) rfl (hb hby d7_170) rfl ((if0 _ _).trans (teq (by rw [if_neg hk1])).1) (by decide) (by decide) ?_
    show Steps p.tables e below (T3.setTop (mkF m 270 #[vR a1, vN (tr), vN (sv), vJ kh, .second, vJ kl, .second, vN (nd), vN (l0), uu, uu, uu, uu, uu, uu, uu] [])) _
    refine XS.lloadN X3.here hx rfl (hb hby d7_270) rfl ?_
    refine XS.lload X3.here hx rfl (hb hby d7_271) rfl ?_
    refine XS.aloadN X3.here hx rfl (hb hby d7_273) rfl rfl ?_
    refine st4 _ ?_
    refine XS.iload X4.here hx rfl (hb hby d7_277) rfl ?_
    refine own_ldJN X4 hx hZ e4 (L0.aJ 17 (by decide) (by decide)) (i := l0) (x := kh0) (by omega) (congrArg Value.long (show (J 17 (l0)) = kh0 from Y17)) (g := (mkF m 279 #[vR a1, vN (tr), vN (sv), vJ kh, .second, vJ kl, .second, vN (nd), vN (l0), uu, uu, uu, uu, uu, uu, uu] [(.int (Int32.ofNat (l0))), (.ref (A 17)), (.long kl), (.long kh)])) rfl rfl (hb hby d7_279) _ ?_
    refine XS.aloadN X4.here hx rfl (hb hby d7_280) rfl rfl ?_
    refine st5 _ ?_
    refine XS.iload X5.here hx rfl (hb hby d7_284) rfl ?_
    refine own_ldJN X5 hx hZ e5 (L0.aJ 18 (by decide) (by decide)) (i := l0) (x := kl0) (by omega) (congrArg Value.long (show (J 18 (l0)) = kl0 from Y18)) (g := (mkF m 286 #[vR a1, vN (tr), vN (sv), vJ kh, .second, vJ kl, .second, vN (nd), vN (l0), uu, uu, uu, uu, uu, uu, uu] [(.int (Int32.ofNat (l0))), (.ref (A 18)), (.long kh0), (.long kl), (.long kh)])) rfl rfl (hb hby d7_286) _ ?_
    refine st6 _ ?_
    refine XS.ifYes X6.here hx rfl (pc0 := 290) (pc' := 454) rfl (hb hby d7_290) rfl ((if0 _ _).trans (teq (by rw [if_neg hk2])).1) (by decide) (by decide) ?_
    exact kt
theorem d7_173 : decode q13 173 = .ok (.aload_n 0, 1) := by decide +kernel
theorem d7_174 : decode q13 174 = .ok (.iload 8, 2) := by decide +kernel
theorem d7_176 : decode q13 176 = .ok (.invokevirtual 108, 3) := by decide +kernel
theorem d7_179 : decode q13 179 = .ok (.istore 9, 2) := by decide +kernel
theorem d7_181 : decode q13 181 = .ok (.iload 9, 2) := by decide +kernel
theorem d7_183 : decode q13 183 = .ok (.ifCond .lt 45, 3) := by decide +kernel
theorem d7_228 : decode q13 228 = .ok (.aload_n 0, 1) := by decide +kernel
theorem d7_229 : decode q13 229 = .ok (.lload_n 3, 1) := by decide +kernel
theorem d7_230 : decode q13 230 = .ok (.lload 5, 2) := by decide +kernel
theorem d7_232 : decode q13 232 = .ok (.invokevirtual 96, 3) := by decide +kernel
theorem d7_235 : decode q13 235 = .ok (.istore 10, 2) := by decide +kernel
theorem d7_237 : decode q13 237 = .ok (.aload_n 0, 1) := by decide +kernel
theorem d7_238 : decode q13 238 = .ok (.aload_n 0, 1) := by decide +kernel
theorem d7_239 : decode q13 239 = .ok (.getfield 43, 3) := by decide +kernel
theorem d7_242 : decode q13 242 = .ok (.iload 8, 2) := by decide +kernel
theorem d7_244 : decode q13 244 = .ok (.iaload, 1) := by decide +kernel
theorem d7_245 : decode q13 245 = .ok (.aload_n 0, 1) := by decide +kernel
theorem d7_246 : decode q13 246 = .ok (.getfield 46, 3) := by decide +kernel
theorem d7_249 : decode q13 249 = .ok (.iload 8, 2) := by decide +kernel
theorem d7_251 : decode q13 251 = .ok (.iaload, 1) := by decide +kernel
theorem d7_252 : decode q13 252 = .ok (.iconst 1, 1) := by decide +kernel
theorem d7_253 : decode q13 253 = .ok (.iadd, 1) := by decide +kernel
theorem d7_254 : decode q13 254 = .ok (.iload 10, 2) := by decide +kernel
theorem d7_256 : decode q13 256 = .ok (.lload_n 3, 1) := by decide +kernel
theorem d7_257 : decode q13 257 = .ok (.lload 5, 2) := by decide +kernel
theorem d7_259 : decode q13 259 = .ok (.iconst (-1), 1) := by decide +kernel
theorem d7_260 : decode q13 260 = .ok (.invokevirtual 100, 3) := by decide +kernel
theorem d7_263 : decode q13 263 = .ok (.iload 10, 2) := by decide +kernel
theorem d7_265 : decode q13 265 = .ok (.istore 8, 2) := by decide +kernel
theorem d7_267 : decode q13 267 = .ok (.goto 187, 3) := by decide +kernel
set_option maxRecDepth 65536 in
set_option maxHeartbeats 40000000 in
theorem sgGe {p : Program} {l : Launch} {e : Env} {s : State} {m : MethodId} {args : Array Value} {below : List Frame} {meth : Method} {c : Code} {T0 : State} {locs : List Loc} {Z : State} {a0 : Array Value} {h0 : Heap} (a1 : Addr) (A : Nat → Addr) (N : Nat → Nat) (I : Nat → Nat → Int32) (J : Nat → Nat → Int64) (cc : Nat → Int32) (M : Nat → Option Addr) (B : Nat → Nat → Int32) (nb nd tr sv lf n l0 s1 : Nat) (kh kl kh0 kl0 : Int64) (ch : Nat → Nat)
    (X0 : Stand p l e ({ frames := 7, cells := 1, slots := 4, locals := 150 } : Room) s m args below meth c T0 locs 0 0) (hx : p.tables.exec = Jvm.exec) (hZ : Z.Warmed39 s.vm) (hw : ∀ d ∈ tables_1, d.before a0 Z = true) (hby : c.code = prog_74_method_2_code) (hml : c.maxLocals = 16) (hown : s.vm.findClass "com/example/ebbtide/ebbtide/cluster/LoadTrees" = some m.cls) (e0 : T0.heap = h0) (n0 : Nat) (N0 : Fr n0 locs) (Z0 : n0 ≤ h0.size) (L0 : LT Z h0 n0 a1 A N I J cc M B) (hS : SZ N nb) (hnb : nb < 1000) (hnd : nd < nb) (hsv : sv < 3) (Y12 : I 12 nd = (1 : Int32)) (hfl : cc 1 = (0 : Int32)) (hlv : cc 0 = Int32.ofNat lf) (hlf : lf < 4) (hM : M lf = none) (Y11 : I 11 nd = Int32.ofNat n) (hn : n < 60) (hch : ∀ i, i < n → I 7 (nd * 64 + i) = Int32.ofNat (ch i) ∧ ch i < 4 ∧ ch i ≠ lf) (hin : ∀ i i', i < n → i' < n → ch i = ch i' → i = i') (hl0 : l0 < 4) (Y17 : J 17 l0 = kh0) (Y18 : J 18 l0 = kl0) (Y5 : I 5 l0 = Int32.ofNat s1) (Y4 : I 4 l0 = Int32.ofNat nd) (Y13 : I 13 nd = (-1 : Int32)) (hne : l0 ≠ lf) (hk1 : own_k kh0 kl0 kh kl < 0) (hs1 : s1 + 1 = n) :
    ∃ (T' : State) (h' : Heap) (L' : List Loc) (bb : Addr) (P S : Nat → Int32), Stand p l e ({ frames := 7, cells := 1, slots := 4, locals := 150 } : Room) s m args below meth c T' L' 1 4 ∧ T'.heap = h' ∧ Fr n0 L' ∧ KN n0 h0 h' ∧ LT Z h' n0 a1 A N (adI (ui I 3 (lf) (0 : Int32)) nd (s1 + 1) n lf (-1 : Int32) P S) (adJ (ui (ui J 17 (lf) kh) 18 (lf) kl) nd (s1 + 1) n kh kl) (u1 cc 0 (Int32.ofNat (lf + 1))) (u1 M (lf) (some bb)) (fun j => if j = lf then (fun _ => (0 : Int32)) else B j) ∧ (∀ i, s1 + 1 ≤ i → i < n + 1 → P (sins ch (s1 + 1) lf i) = Int32.ofNat nd ∧ S (sins ch (s1 + 1) lf i) = Int32.ofNat i) ∧ (∀ x, (∀ i, s1 + 1 ≤ i → i < n + 1 → x ≠ sins ch (s1 + 1) lf i) → P x = I 4 x ∧ S x = I 5 x) ∧ (∀ t, Steps p.tables e below (T'.setTop (mkF m 454 #[vR a1, vN (tr), vN (sv), vJ kh, .second, vJ kl, .second, vN (nd), vN (lf), vI (-1), vN (lf), uu, uu, uu, uu, uu] [])) t → Steps p.tables e below (T0.setTop (mkF m 150 #[vR a1, vN (tr), vN (sv), vJ kh, .second, vJ kl, .second, vN (nd), vN (l0), uu, uu, uu, uu, uu, uu, uu] [])) t) := by
  have hS0 := hS
  obtain ⟨S0, S1, S2, S3, S4, S5, S6, S7, S8, S9, S10, S11, S12, S13, S14, S15, S16, S17, S18, S19, S20, S21, S22⟩ := hS0
  obtain ⟨T1, X1, e1, st1⟩ := getF X0 hx hZ hown (host := "") (Or.inl (tw hw 40 rfl)) Via.refl e0 (L0.FJ 17 (by decide) (by decide) rfl) (g := (mkF m 151 #[vR a1, vN (tr), vN (sv), vJ kh, .second, vJ kl, .second, vN (nd), vN (l0), uu, uu, uu, uu, uu, uu, uu] [(.ref a1)])) rfl rfl (hb hby d7_151)
  obtain ⟨T2, X2, e2, st2⟩ := getF X1 hx hZ hown (host := "") (Or.inl (tw hw 42 rfl)) Via.refl e1 (L0.FJ 18 (by decide) (by decide) rfl) (g := (mkF m 158 #[vR a1, vN (tr), vN (sv), vJ kh, .second, vJ kl, .second, vN (nd), vN (l0), uu, uu, uu, uu, uu, uu, uu] [(.ref a1), (.long kh0)])) rfl rfl (hb hby d7_158)
  obtain ⟨_, _, ⟨T3, L3, k3, n3⟩, -, X3, ⟨Lc3, hQ3, l3, y3, z3⟩, st3⟩ := Jvm.LawKit.callS X2 hx (y := (⟨"com/example/ebbtide/ebbtide/cluster/LoadTrees", "less", "(JJJJ)Z"⟩ : MethodName)) hown (mvT hZ (tw hw 120 rfl)) (mvT hZ (tw hw 121 rfl)) (mvT hZ (tw hw 14 rfl)) (mvT hZ (tw hw 122 rfl)) (by decide) (backOf (W := 0) (rmLess l Z a0 hw [] kh0 kl0 kh kl h0 n0 Z0) hZ (tw hw 122 rfl) (tw hw 14 rfl) (by decide) (by decide)) (g := (mkF m 167 #[vR a1, vN (tr), vN (sv), vJ kh, .second, vJ kl, .second, vN (nd), vN (l0), uu, uu, uu, uu, uu, uu, uu] [(.long kl), (.long kh), (.long kl0), (.long kh0)])) rfl (by rw [hml]; rfl) (argsL := [(.long kh0), (.long kl0), (.long kh), (.long kl)]) (rest := []) (lenOf pd__28JJJJ_29Z rfl) rfl (by show 2 * 0 + _ ≤ _; exact Nat.le_of_eq rfl) (hb hby d7_167) (fun _ _ => ⟨rfl, e2, (by decide : 0 + 0 ≤ _), (by decide : 0 + 0 ≤ _)⟩)
  dsimp only [Pt.U, Pt.locs, Pt.cells, Pt.slots] at X3 l3 y3 z3 st3 hQ3
  subst l3 y3 z3
  obtain ⟨rfl, N3q, e3⟩ := hQ3
  have N3 := Fr.app N0 N3q
  obtain ⟨cq4, q4, q4'⟩ := L0.E.cell
  obtain ⟨_, _, ⟨T4, L4, k4, n4⟩, -, X4, ⟨Lc4, hQ4, l4, y4, z4⟩, st4⟩ := X3.privateBack hx (y := (⟨"com/example/ebbtide/ebbtide/cluster/LoadTrees", "nextLeaf", "(I)I"⟩ : MethodName)) hown (mvT hZ (tw hw 140 rfl)) (mvT hZ (tw hw 141 rfl)) (mvT hZ (own_selP hw (tw hw 141 rfl) (tw hw 142 rfl))) (Cond.privateMethod_at (mvP hZ (tw hw 142 rfl) (args := #[]))) (mvT hZ (tw hw 143 rfl)) (by decide) (backOf (W := 0) (rmNXe l Z a0 hw [] a1 A N I J cc M B nb nd l0 s1 n h0 n0 Z0 L0 hS hnd hnb hl0 Y5 Y4 Y11 hn hs1 Y13) hZ (tw hw 143 rfl) (tw hw 14 rfl) (by decide) (by decide)) (g := (mkF m 176 #[vR a1, vN (tr), vN (sv), vJ kh, .second, vJ kl, .second, vN (nd), vN (l0), uu, uu, uu, uu, uu, uu, uu] [(.int (Int32.ofNat (l0))), (.ref a1)])) rfl (by rw [hml]; rfl) (Steps.refl _) (a := a1) (by rw [e3]; exact q4) q4' (argsL := [(.int (Int32.ofNat (l0)))]) (rest := []) (lenOf pd__28I_29I rfl) rfl (by show 2 * 0 + _ ≤ _; exact Nat.le_of_eq rfl) (hb hby d7_176) (fun _ _ => ⟨rfl, e3, (by decide : 0 + 0 ≤ _), (by decide : 0 + 0 ≤ _)⟩)
  dsimp only [Pt.U, Pt.locs, Pt.cells, Pt.slots] at X4 l4 y4 z4 st4 hQ4
  subst l4 y4 z4
  obtain ⟨rfl, N4q, e4⟩ := hQ4
  have N4 := Fr.app N3 N4q
  obtain ⟨cq5, q5, q5'⟩ := L0.E.cell
  obtain ⟨_, _, ⟨T5, L5, k5, n5⟩, -, X5, ⟨Lc5, hQ5, l5, y5, z5⟩, st5⟩ := X4.privateBack hx (y := (⟨"com/example/ebbtide/ebbtide/cluster/LoadTrees", "newLeaf", "(JJ)I"⟩ : MethodName)) hown (mvT hZ (tw hw 87 rfl)) (mvT hZ (tw hw 88 rfl)) (mvT hZ (own_selP hw (tw hw 88 rfl) (tw hw 89 rfl))) (Cond.privateMethod_at (mvP hZ (tw hw 89 rfl) (args := #[]))) (mvT hZ (tw hw 90 rfl)) (by decide) (backOf (W := 0) (rmNL l Z a0 hw [] a1 A N I J cc M B kh kl nb lf h0 n0 Z0 L0 hS hfl hlv hlf hM) hZ (tw hw 90 rfl) (tw hw 14 rfl) (by decide) (by decide)) (g := (mkF m 232 #[vR a1, vN (tr), vN (sv), vJ kh, .second, vJ kl, .second, vN (nd), vN (l0), vI (-1), uu, uu, uu, uu, uu, uu] [(.long kl), (.long kh), (.ref a1)])) rfl (by rw [hml]; rfl) (Steps.refl _) (a := a1) (by rw [e4]; exact q5) q5' (argsL := [(.long kh), (.long kl)]) (rest := []) (lenOf pd__28JJ_29I rfl) rfl (by show 2 * 0 + _ ≤ _; exact Nat.le_of_eq rfl) (hb hby d7_232) (fun _ _ => ⟨rfl, e4, (by decide : 0 + 1 ≤ _), (by decide : 0 + 4 ≤ _)⟩)
  dsimp only [Pt.U, Pt.locs, Pt.cells, Pt.slots] at X5 l5 y5 z5 st5 hQ5
  subst l5 y5 z5
  obtain ⟨h5, e5⟩ : ∃ h', T5.heap = h' := ⟨_, rfl⟩
  rw [e5] at hQ5
  obtain ⟨bb5, rfl, N5q, K5q, Lq5⟩ := hQ5
  have K5 : KN n0 h0 h5 := (KN.refl n0 h0).trans K5q
  have Z5 : n0 ≤ h5.size := Nat.le_trans Z0 K5q.1
  have N5 := Fr.app N4 N5q
  obtain ⟨T6, X6, e6, st6⟩ := getF X5 hx hZ hown (host := "") (Or.inl (tw hw 44 rfl)) Via.refl e5 (Lq5.FI 4 (by decide) rfl) (g := (mkF m 239 #[vR a1, vN (tr), vN (sv), vJ kh, .second, vJ kl, .second, vN (nd), vN (l0), vI (-1), vN (lf), uu, uu, uu, uu, uu] [(.ref a1), (.ref a1)])) rfl rfl (hb hby d7_239)
  obtain ⟨T7, X7, e7, st7⟩ := getF X6 hx hZ hown (host := "") (Or.inl (tw hw 46 rfl)) Via.refl e6 (Lq5.FI 5 (by decide) rfl) (g := (mkF m 246 #[vR a1, vN (tr), vN (sv), vJ kh, .second, vJ kl, .second, vN (nd), vN (l0), vI (-1), vN (lf), uu, uu, uu, uu, uu] [(.ref a1), (.int (Int32.ofNat (nd))), (.ref a1)])) rfl rfl (hb hby d7_246)
  obtain ⟨cq8, q8, q8'⟩ := Lq5.E.cell
  obtain ⟨_, _, ⟨T8, L8, k8, n8⟩, -, X8, ⟨Lc8, hQ8, l8, y8, z8⟩, st8⟩ := X7.privateBack hx (y := (⟨"com/example/ebbtide/ebbtide/cluster/LoadTrees", "addSlot", "(IIIJJI)V"⟩ : MethodName)) hown (mvT hZ (tw hw 96 rfl)) (mvT hZ (tw hw 97 rfl)) (mvT hZ (own_selP hw (tw hw 97 rfl) (tw hw 98 rfl))) (Cond.privateMethod_at (mvP hZ (tw hw 98 rfl) (args := #[]))) (mvT hZ (tw hw 99 rfl)) (by decide) (backOf (W := 0) (rmAS l Z a0 hw [] a1 A N (ui I 3 (lf) (0 : Int32)) (ui (ui J 17 (lf) kh) 18 (lf) kl) (u1 cc 0 (Int32.ofNat (lf + 1))) (u1 M (lf) (some bb5)) (fun j => if j = lf then (fun _ => (0 : Int32)) else B j) nb nd (s1 + 1) lf n kh kl (-1 : Int32) ch h5 n0 Z5 Lq5 hS hnd hnb Y11 hn (by omega) Y12 hlf (own_ui _ _ _ _) hch hin) hZ (tw hw 99 rfl) (tw hw 14 rfl) (by decide) (by decide)) (g := (mkF m 260 #[vR a1, vN (tr), vN (sv), vJ kh, .second, vJ kl, .second, vN (nd), vN (l0), vI (-1), vN (lf), uu, uu, uu, uu, uu] [(.int (-1 : Int32)), (.long kl), (.long kh), (.int (Int32.ofNat (lf))), (.int (Int32.ofNat (s1 + 1))), (.int (Int32.ofNat (nd))), (.ref a1)])) rfl (by rw [hml]; rfl) (Steps.refl _) (a := a1) (by rw [e7]; exact q8) q8' (argsL := [(.int (Int32.ofNat (nd))), (.int (Int32.ofNat (s1 + 1))), (.int (Int32.ofNat (lf))), (.long kh), (.long kl), (.int (-1 : Int32))]) (rest := []) (lenOf pd__28IIIJJI_29V rfl) rfl (by show 2 * 0 + _ ≤ _; exact Nat.le_of_eq rfl) (hb hby d7_260) (fun _ _ => ⟨rfl, e7, (by decide : 1 + 0 ≤ _), (by decide : 4 + 0 ≤ _)⟩)
  dsimp only [Pt.U, Pt.locs, Pt.cells, Pt.slots] at X8 l8 y8 z8 st8 hQ8
  subst l8 y8 z8
  obtain ⟨h8, e8⟩ : ∃ h', T8.heap = h' := ⟨_, rfl⟩
  rw [e8] at hQ8
  obtain ⟨P8, S8, rfl, N8q, K8q, Lq8, q1_8, q2_8⟩ := hQ8
  have K8 : KN n0 h0 h8 := K5.trans K8q
  have Z8 : n0 ≤ h8.size := Nat.le_trans Z5 K8q.1
  have N8 := Fr.app N5 N8q
  refine ⟨T8, h8, _, bb5, P8, S8, X8, e8, N8, K8, Lq8, q1_8, q2_8, fun t kt => ?_⟩
  · show Steps p.tables e below (T0.setTop (mkF m 150 #[vR a1, vN (tr), vN (sv), vJ kh, .second, vJ kl, .second, vN (nd), vN (l0), uu, uu, uu, uu, uu, uu, uu] [])) _
    refine XS.aloadN X0.here hx rfl (hb hby d7_150) rfl rfl ?_
    refine st1 _ ?_
    refine XS.iload X1.here hx rfl (hb hby d7_154) rfl ?_
    refine own_ldJN X1 hx hZ e1 (L0.aJ 17 (by decide) (by decide)) (i := l0) (x := kh0) (by omega) (congrArg Value.long (show (J 17 (l0)) = kh0 from Y17)) (g := (mkF m 156 #[vR a1, vN (tr), vN (sv), vJ kh, .second, vJ kl, .second, vN (nd), vN (l0), uu, uu, uu, uu, uu, uu, uu] [(.int (Int32.ofNat (l0))), (.ref (A 17))])) rfl rfl (hb hby d7_156) _ ?_
    refine XS.aloadN X1.here hx rfl (hb hby d7_157) rfl rfl ?_
    refine st2 _ ?_
    refine XS.iload X2.here hx rfl (hb hby d7_161) rfl ?_
    refine own_ldJN X2 hx hZ e2 (L0.aJ 18 (by decide) (by decide)) (i := l0) (x := kl0) (by omega) (congrArg Value.long (show (J 18 (l0)) = kl0 from Y18)) (g := (mkF m 163 #[vR a1, vN (tr), vN (sv), vJ kh, .second, vJ kl, .second, vN (nd), vN (l0), uu, uu, uu, uu, uu, uu, uu] [(.int (Int32.ofNat (l0))), (.ref (A 18)), (.long kh0)])) rfl rfl (hb hby d7_163) _ ?_
    refine XS.lloadN X2.here hx rfl (hb hby d7_164) rfl ?_
    refine XS.lload X2.here hx rfl (hb hby d7_165) rfl ?_
    refine st3 _ ?_
    refine XS.ifNo X3.here hx rfl (hb hby d7_170) rfl ((if0 _ _).trans (feq (by rw [if_pos hk1]; decide)).1) ?_
    show Steps p.tables e below (T3.setTop (mkF m 173 #[vR a1, vN (tr), vN (sv), vJ kh, .second, vJ kl, .second, vN (nd), vN (l0), uu, uu, uu, uu, uu, uu, uu] [])) _
    refine XS.aloadN X3.here hx rfl (hb hby d7_173) rfl rfl ?_
    refine XS.iload X3.here hx rfl (hb hby d7_174) rfl ?_
    refine st4.trans ?_
    refine XS.istore X4.here hx rfl (hb hby d7_179) rfl (l' := #[vR a1, vN (tr), vN (sv), vJ kh, .second, vJ kl, .second, vN (nd), vN (l0), vI (-1), uu, uu, uu, uu, uu, uu]) rfl ?_
    refine XS.iload X4.here hx rfl (hb hby d7_181) rfl ?_
    refine XS.ifYes X4.here hx rfl (pc0 := 183) (pc' := 228) rfl (hb hby d7_183) rfl ((if0 _ _).trans (tlt (by decide : (-1 : Int32) < (0 : Int32))).1) (by decide) (by decide) ?_
    refine XS.aloadN X4.here hx rfl (hb hby d7_228) rfl rfl ?_
    refine XS.lloadN X4.here hx rfl (hb hby d7_229) rfl ?_
    refine XS.lload X4.here hx rfl (hb hby d7_230) rfl ?_
    refine st5.trans ?_
    refine XS.istore X5.here hx rfl (hb hby d7_235) rfl (l' := #[vR a1, vN (tr), vN (sv), vJ kh, .second, vJ kl, .second, vN (nd), vN (l0), vI (-1), vN (lf), uu, uu, uu, uu, uu]) rfl ?_
    refine XS.aloadN X5.here hx rfl (hb hby d7_237) rfl rfl ?_
    show Steps p.tables e below (T5.setTop (mkF m 238 #[vR a1, vN (tr), vN (sv), vJ kh, .second, vJ kl, .second, vN (nd), vN (l0), vI (-1), vN (lf), uu, uu, uu, uu, uu] [(.ref a1)])) _
    refine XS.aloadN X5.here hx rfl (hb hby d7_238) rfl rfl ?_
    refine st6 _ ?_
    refine XS.iload X6.here hx rfl (hb hby d7_242) rfl ?_
    refine own_ldIN X6 hx hZ e6 (Lq5.aI 4 (by decide)) (i := l0) (x := (Int32.ofNat (nd))) (by omega) (congrArg Value.int (show ((ui I 3 (lf) (0 : Int32)) 4 (l0)) = (Int32.ofNat (nd)) from Y4)) (g := (mkF m 244 #[vR a1, vN (tr), vN (sv), vJ kh, .second, vJ kl, .second, vN (nd), vN (l0), vI (-1), vN (lf), uu, uu, uu, uu, uu] [(.int (Int32.ofNat (l0))), (.ref (A 4)), (.ref a1)])) rfl rfl (hb hby d7_244) _ ?_
    refine XS.aloadN X6.here hx rfl (hb hby d7_245) rfl rfl ?_
    refine st7 _ ?_
    refine XS.iload X7.here hx rfl (hb hby d7_249) rfl ?_
    refine own_ldIN X7 hx hZ e7 (Lq5.aI 5 (by decide)) (i := l0) (x := (Int32.ofNat (s1))) (by omega) (congrArg Value.int (show ((ui I 3 (lf) (0 : Int32)) 5 (l0)) = (Int32.ofNat (s1)) from Y5)) (g := (mkF m 251 #[vR a1, vN (tr), vN (sv), vJ kh, .second, vJ kl, .second, vN (nd), vN (l0), vI (-1), vN (lf), uu, uu, uu, uu, uu] [(.int (Int32.ofNat (l0))), (.ref (A 5)), (.int (Int32.ofNat (nd))), (.ref a1)])) rfl rfl (hb hby d7_251) _ ?_
    refine XS.iconst X7.here hx rfl (hb hby d7_252) ?_
    refine XS.iadd X7.here hx rfl (hb hby d7_253) rfl ?_
    show Steps p.tables e below (T7.setTop (mkF m 254 #[vR a1, vN (tr), vN (sv), vJ kh, .second, vJ kl, .second, vN (nd), vN (l0), vI (-1), vN (lf), uu, uu, uu, uu, uu] [(.int ((Int32.ofNat (s1)) + (1 : Int32))), (.int (Int32.ofNat (nd))), (.ref a1)])) _
    rw [show (Int32.ofNat (s1)) + (1 : Int32) = Int32.ofNat (s1 + 1) from own_na (s1) (1)]
    show Steps p.tables e below (T7.setTop (mkF m 254 #[vR a1, vN (tr), vN (sv), vJ kh, .second, vJ kl, .second, vN (nd), vN (l0), vI (-1), vN (lf), uu, uu, uu, uu, uu] [(.int (Int32.ofNat (s1 + 1))), (.int (Int32.ofNat (nd))), (.ref a1)])) _
    refine XS.iload X7.here hx rfl (hb hby d7_254) rfl ?_
    refine XS.lloadN X7.here hx rfl (hb hby d7_256) rfl ?_
    refine XS.lload X7.here hx rfl (hb hby d7_257) rfl ?_
    refine XS.iconst X7.here hx rfl (hb hby d7_259) ?_
    refine st8.trans ?_
    refine XS.iload X8.here hx rfl (hb hby d7_263) rfl ?_
    refine XS.istore X8.here hx rfl (hb hby d7_265) rfl (l' := #[vR a1, vN (tr), vN (sv), vJ kh, .second, vJ kl, .second, vN (nd), vN (lf), vI (-1), vN (lf), uu, uu, uu, uu, uu]) rfl ?_
    refine XS.goto X8.here hx rfl (pc0 := 267) (pc' := 454) rfl (hb hby d7_267) (by decide) (by decide) ?_
    exact kt
theorem d7_186 : decode q13 186 = .ok (.aload_n 0, 1) := by decide +kernel
theorem d7_187 : decode q13 187 = .ok (.getfield 37, 3) := by decide +kernel
theorem d7_190 : decode q13 190 = .ok (.iload 9, 2) := by decide +kernel
theorem d7_192 : decode q13 192 = .ok (.laload, 1) := by decide +kernel
theorem d7_193 : decode q13 193 = .ok (.lload_n 3, 1) := by decide +kernel
theorem d7_194 : decode q13 194 = .ok (.lcmp, 1) := by decide +kernel
theorem d7_195 : decode q13 195 = .ok (.ifCond .ne 33, 3) := by decide +kernel
theorem d7_198 : decode q13 198 = .ok (.aload_n 0, 1) := by decide +kernel
theorem d7_199 : decode q13 199 = .ok (.getfield 40, 3) := by decide +kernel
theorem d7_202 : decode q13 202 = .ok (.iload 9, 2) := by decide +kernel
theorem d7_204 : decode q13 204 = .ok (.laload, 1) := by decide +kernel
theorem d7_205 : decode q13 205 = .ok (.lload 5, 2) := by decide +kernel
theorem d7_207 : decode q13 207 = .ok (.lcmp, 1) := by decide +kernel
theorem d7_208 : decode q13 208 = .ok (.ifCond .ne 20, 3) := by decide +kernel
set_option maxRecDepth 65536 in
set_option maxHeartbeats 40000000 in
theorem sgGn {p : Program} {l : Launch} {e : Env} {s : State} {m : MethodId} {args : Array Value} {below : List Frame} {meth : Method} {c : Code} {T0 : State} {locs : List Loc} {Z : State} {a0 : Array Value} {h0 : Heap} (a1 : Addr) (A : Nat → Addr) (N : Nat → Nat) (I : Nat → Nat → Int32) (J : Nat → Nat → Int64) (cc : Nat → Int32) (M : Nat → Option Addr) (B : Nat → Nat → Int32) (nb nd tr sv lf n l0 s1 : Nat) (kh kl kh0 kl0 kh2 kl2 : Int64) (c2 : Nat) (ch : Nat → Nat)
    (X0 : Stand p l e ({ frames := 7, cells := 1, slots := 4, locals := 150 } : Room) s m args below meth c T0 locs 0 0) (hx : p.tables.exec = Jvm.exec) (hZ : Z.Warmed39 s.vm) (hw : ∀ d ∈ tables_1, d.before a0 Z = true) (hby : c.code = prog_74_method_2_code) (hml : c.maxLocals = 16) (hown : s.vm.findClass "com/example/ebbtide/ebbtide/cluster/LoadTrees" = some m.cls) (e0 : T0.heap = h0) (n0 : Nat) (N0 : Fr n0 locs) (Z0 : n0 ≤ h0.size) (L0 : LT Z h0 n0 a1 A N I J cc M B) (hS : SZ N nb) (hnb : nb < 1000) (hnd : nd < nb) (hsv : sv < 3) (Y12 : I 12 nd = (1 : Int32)) (hfl : cc 1 = (0 : Int32)) (hlv : cc 0 = Int32.ofNat lf) (hlf : lf < 4) (hM : M lf = none) (Y11 : I 11 nd = Int32.ofNat n) (hn : n < 60) (hch : ∀ i, i < n → I 7 (nd * 64 + i) = Int32.ofNat (ch i) ∧ ch i < 4 ∧ ch i ≠ lf) (hin : ∀ i i', i < n → i' < n → ch i = ch i' → i = i') (hl0 : l0 < 4) (Y17 : J 17 l0 = kh0) (Y18 : J 18 l0 = kl0) (Y5 : I 5 l0 = Int32.ofNat s1) (Y4 : I 4 l0 = Int32.ofNat nd) (Y13 : I 13 nd = (-1 : Int32)) (hne : l0 ≠ lf) (hk1 : own_k kh0 kl0 kh kl < 0) (hs1 : s1 + 1 < n) (Y7 : I 7 (nd * 64 + s1 + 1) = Int32.ofNat c2) (hc2 : c2 < 4) (h17b : J 17 c2 = kh2) (h18b : J 18 c2 = kl2) (hkn : ¬ (kh2 = kh ∧ kl2 = kl)) :
    ∃ (T' : State) (h' : Heap) (L' : List Loc) (bb : Addr) (P S : Nat → Int32), Stand p l e ({ frames := 7, cells := 1, slots := 4, locals := 150 } : Room) s m args below meth c T' L' 1 4 ∧ T'.heap = h' ∧ Fr n0 L' ∧ KN n0 h0 h' ∧ LT Z h' n0 a1 A N (adI (ui I 3 (lf) (0 : Int32)) nd (s1 + 1) n lf (-1 : Int32) P S) (adJ (ui (ui J 17 (lf) kh) 18 (lf) kl) nd (s1 + 1) n kh kl) (u1 cc 0 (Int32.ofNat (lf + 1))) (u1 M (lf) (some bb)) (fun j => if j = lf then (fun _ => (0 : Int32)) else B j) ∧ (∀ i, s1 + 1 ≤ i → i < n + 1 → P (sins ch (s1 + 1) lf i) = Int32.ofNat nd ∧ S (sins ch (s1 + 1) lf i) = Int32.ofNat i) ∧ (∀ x, (∀ i, s1 + 1 ≤ i → i < n + 1 → x ≠ sins ch (s1 + 1) lf i) → P x = I 4 x ∧ S x = I 5 x) ∧ (∀ t, Steps p.tables e below (T'.setTop (mkF m 454 #[vR a1, vN (tr), vN (sv), vJ kh, .second, vJ kl, .second, vN (nd), vN (lf), vN (c2), vN (lf), uu, uu, uu, uu, uu] [])) t → Steps p.tables e below (T0.setTop (mkF m 150 #[vR a1, vN (tr), vN (sv), vJ kh, .second, vJ kl, .second, vN (nd), vN (l0), uu, uu, uu, uu, uu, uu, uu] [])) t) := by
  have hS0 := hS
  obtain ⟨S0, S1, S2, S3, S4, S5, S6, S7, S8, S9, S10, S11, S12, S13, S14, S15, S16, S17, S18, S19, S20, S21, S22⟩ := hS0
  obtain ⟨T1, X1, e1, st1⟩ := getF X0 hx hZ hown (host := "") (Or.inl (tw hw 40 rfl)) Via.refl e0 (L0.FJ 17 (by decide) (by decide) rfl) (g := (mkF m 151 #[vR a1, vN (tr), vN (sv), vJ kh, .second, vJ kl, .second, vN (nd), vN (l0), uu, uu, uu, uu, uu, uu, uu] [(.ref a1)])) rfl rfl (hb hby d7_151)
  obtain ⟨T2, X2, e2, st2⟩ := getF X1 hx hZ hown (host := "") (Or.inl (tw hw 42 rfl)) Via.refl e1 (L0.FJ 18 (by decide) (by decide) rfl) (g := (mkF m 158 #[vR a1, vN (tr), vN (sv), vJ kh, .second, vJ kl, .second, vN (nd), vN (l0), uu, uu, uu, uu, uu, uu, uu] [(.ref a1), (.long kh0)])) rfl rfl (hb hby d7_158)
  obtain ⟨_, _, ⟨T3, L3, k3, n3⟩, -, X3, ⟨Lc3, hQ3, l3, y3, z3⟩, st3⟩ := Jvm.LawKit.callS X2 hx (y := (⟨"com/example/ebbtide/ebbtide/cluster/LoadTrees", "less", "(JJJJ)Z"⟩ : MethodName)) hown (mvT hZ (tw hw 120 rfl)) (mvT hZ (tw hw 121 rfl)) (mvT hZ (tw hw 14 rfl)) (mvT hZ (tw hw 122 rfl)) (by decide) (backOf (W := 0) (rmLess l Z a0 hw [] kh0 kl0 kh kl h0 n0 Z0) hZ (tw hw 122 rfl) (tw hw 14 rfl) (by decide) (by decide)) (g := (mkF m 167 #[vR a1, vN (tr), vN (sv), vJ kh, .second, vJ kl, .second, vN (nd), vN (l0), uu, uu, uu, uu, uu, uu, uu] [(.long kl), (.long kh), (.long kl0), (.long kh0)])) rfl (by rw [hml]; rfl) (argsL := [(.long kh0), (.long kl0), (.long kh), (.long kl)]) (rest := []) (lenOf pd__28JJJJ_29Z rfl) rfl (by show 2 * 0 + _ ≤ _; exact Nat.le_of_eq rfl) (hb hby d7_167) (fun _ _ => ⟨rfl, e2, (by decide : 0 + 0 ≤ _), (by decide : 0 + 0 ≤ _)⟩)
  dsimp only [Pt.U, Pt.locs, Pt.cells, Pt.slots] at X3 l3 y3 z3 st3 hQ3
  subst l3 y3 z3
  obtain ⟨rfl, N3q, e3⟩ := hQ3
  have N3 := Fr.app N0 N3q
  obtain ⟨cq4, q4, q4'⟩ := L0.E.cell
  obtain ⟨_, _, ⟨T4, L4, k4, n4⟩, -, X4, ⟨Lc4, hQ4, l4, y4, z4⟩, st4⟩ := X3.privateBack hx (y := (⟨"com/example/ebbtide/ebbtide/cluster/LoadTrees", "nextLeaf", "(I)I"⟩ : MethodName)) hown (mvT hZ (tw hw 140 rfl)) (mvT hZ (tw hw 141 rfl)) (mvT hZ (own_selP hw (tw hw 141 rfl) (tw hw 142 rfl))) (Cond.privateMethod_at (mvP hZ (tw hw 142 rfl) (args := #[]))) (mvT hZ (tw hw 143 rfl)) (by decide) (backOf (W := 0) (rmNXn l Z a0 hw [] a1 A N I J cc M B nb nd l0 s1 n c2 h0 n0 Z0 L0 hS hnd hnb hl0 Y5 Y4 Y11 hn hs1 Y7) hZ (tw hw 143 rfl) (tw hw 14 rfl) (by decide) (by decide)) (g := (mkF m 176 #[vR a1, vN (tr), vN (sv), vJ kh, .second, vJ kl, .second, vN (nd), vN (l0), uu, uu, uu, uu, uu, uu, uu] [(.int (Int32.ofNat (l0))), (.ref a1)])) rfl (by rw [hml]; rfl) (Steps.refl _) (a := a1) (by rw [e3]; exact q4) q4' (argsL := [(.int (Int32.ofNat (l0)))]) (rest := []) (lenOf pd__28I_29I rfl) rfl (by show 2 * 0 + _ ≤ _; exact Nat.le_of_eq rfl) (hb hby d7_176) (fun _ _ => ⟨rfl, e3, (by decide : 0 + 0 ≤ _), (by decide : 0 + 0 ≤ _)⟩)
  dsimp only [Pt.U, Pt.locs, Pt.cells, Pt.slots] at X4 l4 y4 z4 st4 hQ4
  subst l4 y4 z4
  obtain ⟨rfl, N4q, e4⟩ := hQ4
  have N4 := Fr.app N3 N4q
  obtain ⟨T5, X5, e5, st5⟩ := getF X4 hx hZ hown (host := "") (Or.inl (tw hw 40 rfl)) Via.refl e4 (L0.FJ 17 (by decide) (by decide) rfl) (g := (mkF m 187 #[vR a1, vN (tr), vN (sv), vJ kh, .second, vJ kl, .second, vN (nd), vN (l0), vN (c2), uu, uu, uu, uu, uu, uu] [(.ref a1)])) rfl rfl (hb hby d7_187)
  have c6 : ∀ t, Steps p.tables e below (T5.setTop (mkF m 195 #[vR a1, vN (tr), vN (sv), vJ kh, .second, vJ kl, .second, vN (nd), vN (l0), vN (c2), uu, uu, uu, uu, uu, uu] [(.int (lcmpW kh2 kh))])) t → Steps p.tables e below (T0.setTop (mkF m 150 #[vR a1, vN (tr), vN (sv), vJ kh, .second, vJ kl, .second, vN (nd), vN (l0), uu, uu, uu, uu, uu, uu, uu] [])) t := by
    intro t kt
    show Steps p.tables e below (T0.setTop (mkF m 150 #[vR a1, vN (tr), vN (sv), vJ kh, .second, vJ kl, .second, vN (nd), vN (l0), uu, uu, uu, uu, uu, uu, uu] [])) _
    refine XS.aloadN X0.here hx rfl (hb hby d7_150) rfl rfl ?_
    refine st1 _ ?_
    refine XS.iload X1.here hx rfl (hb hby d7_154) rfl ?_
    refine own_ldJN X1 hx hZ e1 (L0.aJ 17 (by decide) (by decide)) (i := l0) (x := kh0) (by omega) (congrArg Value.long (show (J 17 (l0)) = kh0 from Y17)) (g := (mkF m 156 #[vR a1, vN (tr), vN (sv), vJ kh, .second, vJ kl, .second, vN (nd), vN (l0), uu, uu, uu, uu, uu, uu, uu] [(.int (Int32.ofNat (l0))), (.ref (A 17))])) rfl rfl (hb hby d7_156) _ ?_
    refine XS.aloadN X1.here hx rfl (hb hby d7_157) rfl rfl ?_
    refine st2 _ ?_
    refine XS.iload X2.here hx rfl (hb hby d7_161) rfl ?_
    refine own_ldJN X2 hx hZ e2 (L0.aJ 18 (by decide) (by decide)) (i := l0) (x := kl0) (by omega) (congrArg Value.long (show (J 18 (l0)) = kl0 from Y18)) (g := (mkF m 163 #[vR a1, vN (tr), vN (sv), vJ kh, .second, vJ kl, .second, vN (nd), vN (l0), uu, uu, uu, uu, uu, uu, uu] [(.int (Int32.ofNat (l0))), (.ref (A 18)), (.long kh0)])) rfl rfl (hb hby d7_163) _ ?_
    refine XS.lloadN X2.here hx rfl (hb hby d7_164) rfl ?_
    refine XS.lload X2.here hx rfl (hb hby d7_165) rfl ?_
    refine st3 _ ?_
    refine XS.ifNo X3.here hx rfl (hb hby d7_170) rfl ((if0 _ _).trans (feq (by rw [if_pos hk1]; decide)).1) ?_
    show Steps p.tables e below (T3.setTop (mkF m 173 #[vR a1, vN (tr), vN (sv), vJ kh, .second, vJ kl, .second, vN (nd), vN (l0), uu, uu, uu, uu, uu, uu, uu] [])) _
    refine XS.aloadN X3.here hx rfl (hb hby d7_173) rfl rfl ?_
    refine XS.iload X3.here hx rfl (hb hby d7_174) rfl ?_
    refine st4.trans ?_
    refine XS.istore X4.here hx rfl (hb hby d7_179) rfl (l' := #[vR a1, vN (tr), vN (sv), vJ kh, .second, vJ kl, .second, vN (nd), vN (l0), vN (c2), uu, uu, uu, uu, uu, uu]) rfl ?_
    refine XS.iload X4.here hx rfl (hb hby d7_181) rfl ?_
    refine XS.ifNo X4.here hx rfl (hb hby d7_183) rfl ((if0 _ _).trans (flt (own_cl (i := c2) (by omega)).2).1) ?_
    refine XS.aloadN X4.here hx rfl (hb hby d7_186) rfl rfl ?_
    refine st5 _ ?_
    refine XS.iload X5.here hx rfl (hb hby d7_190) rfl ?_
    refine own_ldJN X5 hx hZ e5 (L0.aJ 17 (by decide) (by decide)) (i := c2) (x := kh2) (by omega) (congrArg Value.long (show (J 17 (c2)) = kh2 from h17b)) (g := (mkF m 192 #[vR a1, vN (tr), vN (sv), vJ kh, .second, vJ kl, .second, vN (nd), vN (l0), vN (c2), uu, uu, uu, uu, uu, uu] [(.int (Int32.ofNat (c2))), (.ref (A 17))])) rfl rfl (hb hby d7_192) _ ?_
    refine XS.lloadN X5.here hx rfl (hb hby d7_193) rfl ?_
    refine XS.lcmp X5.here hx rfl (hb hby d7_194) rfl ?_
    exact kt
  by_cases hc195 : (lcmpW kh2 kh) = (0 : Int32)
  · obtain ⟨T7, X7, e7, st7⟩ := getF X5 hx hZ hown (host := "") (Or.inl (tw hw 42 rfl)) Via.refl e5 (L0.FJ 18 (by decide) (by decide) rfl) (g := (mkF m 199 #[vR a1, vN (tr), vN (sv), vJ kh, .second, vJ kl, .second, vN (nd), vN (l0), vN (c2), uu, uu, uu, uu, uu, uu] [(.ref a1)])) rfl rfl (hb hby d7_199)
    obtain ⟨cq8, q8, q8'⟩ := L0.E.cell
    obtain ⟨_, _, ⟨T8, L8, k8, n8⟩, -, X8, ⟨Lc8, hQ8, l8, y8, z8⟩, st8⟩ := X7.privateBack hx (y := (⟨"com/example/ebbtide/ebbtide/cluster/LoadTrees", "newLeaf", "(JJ)I"⟩ : MethodName)) hown (mvT hZ (tw hw 87 rfl)) (mvT hZ (tw hw 88 rfl)) (mvT hZ (own_selP hw (tw hw 88 rfl) (tw hw 89 rfl))) (Cond.privateMethod_at (mvP hZ (tw hw 89 rfl) (args := #[]))) (mvT hZ (tw hw 90 rfl)) (by decide) (backOf (W := 0) (rmNL l Z a0 hw [] a1 A N I J cc M B kh kl nb lf h0 n0 Z0 L0 hS hfl hlv hlf hM) hZ (tw hw 90 rfl) (tw hw 14 rfl) (by decide) (by decide)) (g := (mkF m 232 #[vR a1, vN (tr), vN (sv), vJ kh, .second, vJ kl, .second, vN (nd), vN (l0), vN (c2), uu, uu, uu, uu, uu, uu] [(.long kl), (.long kh), (.ref a1)])) rfl (by rw [hml]; rfl) (Steps.refl _) (a := a1) (by rw [e7]; exact q8) q8' (argsL := [(.long kh), (.long kl)]) (rest := []) (lenOf pd__28JJ_29I rfl) rfl (by show 2 * 0 + _ ≤ _; exact Nat.le_of_eq rfl) (hb hby d7_232) (fun _ _ => ⟨rfl, e7, (by decide : 0 + 1 ≤ _), (by decide : 0 + 4 ≤ _)⟩)
    dsimp only [Pt.U, Pt.locs, Pt.cells, Pt.slots] at X8 l8 y8 z8 st8 hQ8
    subst l8 y8 z8
    obtain ⟨h8, e8⟩ : ∃ h', T8.heap = h' := ⟨_, rfl⟩
    rw [e8] at hQ8
    obtain ⟨bb8, rfl, N8q, K8q, Lq8⟩ := hQ8
    have K8 : KN n0 h0 h8 := (KN.refl n0 h0).trans K8q
    have Z8 : n0 ≤ h8.size := Nat.le_trans Z0 K8q.1
    have N8 := Fr.app N4 N8q
    obtain ⟨T9, X9, e9, st9⟩ := getF X8 hx hZ hown (host := "") (Or.inl (tw hw 44 rfl)) Via.refl e8 (Lq8.FI 4 (by decide) rfl) (g := (mkF m 239 #[vR a1, vN (tr), vN (sv), vJ kh, .second, vJ kl, .second, vN (nd), vN (l0), vN (c2), vN (lf), uu, uu, uu, uu, uu] [(.ref a1), (.ref a1)])) rfl rfl (hb hby d7_239)
    obtain ⟨T10, X10, e10, st10⟩ := getF X9 hx hZ hown (host := "") (Or.inl (tw hw 46 rfl)) Via.refl e9 (Lq8.FI 5 (by decide) rfl) (g := (mkF m 246 #[vR a1, vN (tr), vN (sv), vJ kh, .second, vJ kl, .second, vN (nd), vN (l0), vN (c2), vN (lf), uu, uu, uu, uu, uu] [(.ref a1), (.int (Int32.ofNat (nd))), (.ref a1)])) rfl rfl (hb hby d7_246)
    obtain ⟨cq11, q11, q11'⟩ := Lq8.E.cell
    obtain ⟨_, _, ⟨T11, L11, k11, n11⟩, -, X11, ⟨Lc11, hQ11, l11, y11, z11⟩, st11⟩ := X10.privateBack hx (y := (⟨"com/example/ebbtide/ebbtide/cluster/LoadTrees", "addSlot", "(IIIJJI)V"⟩ : MethodName)) hown (mvT hZ (tw hw 96 rfl)) (mvT hZ (tw hw 97 rfl)) (mvT hZ (own_selP hw (tw hw 97 rfl) (tw hw 98 rfl))) (Cond.privateMethod_at (mvP hZ (tw hw 98 rfl) (args := #[]))) (mvT hZ (tw hw 99 rfl)) (by decide) (backOf (W := 0) (rmAS l Z a0 hw [] a1 A N (ui I 3 (lf) (0 : Int32)) (ui (ui J 17 (lf) kh) 18 (lf) kl) (u1 cc 0 (Int32.ofNat (lf + 1))) (u1 M (lf) (some bb8)) (fun j => if j = lf then (fun _ => (0 : Int32)) else B j) nb nd (s1 + 1) lf n kh kl (-1 : Int32) ch h8 n0 Z8 Lq8 hS hnd hnb Y11 hn (by omega) Y12 hlf (own_ui _ _ _ _) hch hin) hZ (tw hw 99 rfl) (tw hw 14 rfl) (by decide) (by decide)) (g := (mkF m 260 #[vR a1, vN (tr), vN (sv), vJ kh, .second, vJ kl, .second, vN (nd), vN (l0), vN (c2), vN (lf), uu, uu, uu, uu, uu] [(.int (-1 : Int32)), (.long kl), (.long kh), (.int (Int32.ofNat (lf))), (.int (Int32.ofNat (s1 + 1))), (.int (Int32.ofNat (nd))), (.ref a1)])) rfl (by rw [hml]; rfl) (Steps.refl _) (a := a1) (by rw [e10]; exact q11) q11' (argsL := [(.int (Int32.ofNat (nd))), (.int (Int32.ofNat (s1 + 1))), (.int (Int32.ofNat (lf))), (.long kh), (.long kl), (.int (-1 : Int32))]) (rest := []) (lenOf pd__28IIIJJI_29V rfl) rfl (by show 2 * 0 + _ ≤ _; exact Nat.le_of_eq rfl) (hb hby d7_260) (fun _ _ => ⟨rfl, e10, (by decide : 1 + 0 ≤ _), (by decide : 4 + 0 ≤ _)⟩)
    dsimp only [Pt.U, Pt.locs, Pt.cells, Pt.slots] at X11 l11 y11 z11 st11 hQ11
    subst l11 y11 z11
    obtain ⟨h11, e11⟩ : ∃ h', T11.heap = h' := ⟨_, rfl⟩
    rw [e11] at hQ11
    obtain ⟨P11, S11, rfl, N11q, K11q, Lq11, q1_11, q2_11⟩ := hQ11
    have K11 : KN n0 h0 h11 := K8.trans K11q
    have Z11 : n0 ≤ h11.size := Nat.le_trans Z8 K11q.1
    have N11 := Fr.app N8 N11q
    refine ⟨T11, h11, _, bb8, P11, S11, X11, e11, N11, K11, Lq11, q1_11, q2_11, fun t kt => ?_⟩
    · refine c6 _ ?_
      show Steps p.tables e below (T5.setTop (mkF m 195 #[vR a1, vN (tr), vN (sv), vJ kh, .second, vJ kl, .second, vN (nd), vN (l0), vN (c2), uu, uu, uu, uu, uu, uu] [(.int (lcmpW kh2 kh))])) _
      refine XS.ifNo X5.here hx rfl (hb hby d7_195) rfl ((if0 _ _).trans (teq hc195).2) ?_
      refine XS.aloadN X5.here hx rfl (hb hby d7_198) rfl rfl ?_
      refine st7 _ ?_
      refine XS.iload X7.here hx rfl (hb hby d7_202) rfl ?_
      refine own_ldJN X7 hx hZ e7 (L0.aJ 18 (by decide) (by decide)) (i := c2) (x := kl2) (by omega) (congrArg Value.long (show (J 18 (c2)) = kl2 from h18b)) (g := (mkF m 204 #[vR a1, vN (tr), vN (sv), vJ kh, .second, vJ kl, .second, vN (nd), vN (l0), vN (c2), uu, uu, uu, uu, uu, uu] [(.int (Int32.ofNat (c2))), (.ref (A 18))])) rfl rfl (hb hby d7_204) _ ?_
      refine XS.lload X7.here hx rfl (hb hby d7_205) rfl ?_
      refine XS.lcmp X7.here hx rfl (hb hby d7_207) rfl ?_
      refine XS.ifYes X7.here hx rfl (pc0 := 208) (pc' := 228) rfl (hb hby d7_208) rfl ((if0 _ _).trans (feq (fun q => hkn ⟨own_lc0 hc195, own_lc0 q⟩)).2) (by decide) (by decide) ?_
      refine XS.aloadN X7.here hx rfl (hb hby d7_228) rfl rfl ?_
      refine XS.lloadN X7.here hx rfl (hb hby d7_229) rfl ?_
      refine XS.lload X7.here hx rfl (hb hby d7_230) rfl ?_
      refine st8.trans ?_
      show Steps p.tables e below (T8.setTop (mkF m 235 #[vR a1, vN (tr), vN (sv), vJ kh, .second, vJ kl, .second, vN (nd), vN (l0), vN (c2), uu, uu, uu, uu, uu, uu] [(.int (Int32.ofNat (lf)))])) _
      refine XS.istore X8.here hx rfl (hb hby d7_235) rfl (l' := #[vR a1, vN (tr), vN (sv), vJ kh, .second, vJ kl, .second, vN (nd), vN (l0), vN (c2), vN (lf), uu, uu, uu, uu, uu]) rfl ?_
      refine XS.aloadN X8.here hx rfl (hb hby d7_237) rfl rfl ?_
      refine XS.aloadN X8.here hx rfl (hb hby d7_238) rfl rfl ?_
      refine st9 _ ?_
      refine XS.iload X9.here hx rfl (hb hby d7_242) rfl ?_
      refine own_ldIN X9 hx hZ e9 (Lq8.aI 4 (by decide)) (i := l0) (x := (Int32.ofNat (nd))) (by omega) (congrArg Value.int (show ((ui I 3 (lf) (0 : Int32)) 4 (l0)) = (Int32.ofNat (nd)) from Y4)) (g := (mkF m 244 #[vR a1, vN (tr), vN (sv), vJ kh, .second, vJ kl, .second, vN (nd), vN (l0), vN (c2), vN (lf), uu, uu, uu, uu, uu] [(.int (Int32.ofNat (l0))), (.ref (A 4)), (.ref a1)])) rfl rfl (hb hby d7_244) _ ?_
      refine XS.aloadN X9.here hx rfl (hb hby d7_245) rfl rfl ?_
      refine st10 _ ?_
      refine XS.iload X10.here hx rfl (hb hby d7_249) rfl ?_
      refine own_ldIN X10 hx hZ e10 (Lq8.aI 5 (by decide)) (i := l0) (x := (Int32.ofNat (s1))) (by omega) (congrArg Value.int (show ((ui I 3 (lf) (0 : Int32)) 5 (l0)) = (Int32.ofNat (s1)) from Y5)) (g := (mkF m 251 #[vR a1, vN (tr), vN (sv), vJ kh, .second, vJ kl, .second, vN (nd), vN (l0), vN (c2), vN (lf), uu, uu, uu, uu, uu] [(.int (Int32.ofNat (l0))), (.ref (A 5)), (.int (Int32.ofNat (nd))), (.ref a1)])) rfl rfl (hb hby d7_251) _ ?_
      refine XS.iconst X10.here hx rfl (hb hby d7_252) ?_
      refine XS.iadd X10.here hx rfl (hb hby d7_253) rfl ?_
      show Steps p.tables e below (T10.setTop (mkF m 254 #[vR a1, vN (tr), vN (sv), vJ kh, .second, vJ kl, .second, vN (nd), vN (l0), vN (c2), vN (lf), uu, uu, uu, uu, uu] [(.int ((Int32.ofNat (s1)) + (1 : Int32))), (.int (Int32.ofNat (nd))), (.ref a1)])) _
      rw [show (Int32.ofNat (s1)) + (1 : Int32) = Int32.ofNat (s1 + 1) from own_na (s1) (1)]
      show Steps p.tables e below (T10.setTop (mkF m 254 #[vR a1, vN (tr), vN (sv), vJ kh, .second, vJ kl, .second, vN (nd), vN (l0), vN (c2), vN (lf), uu, uu, uu, uu, uu] [(.int (Int32.ofNat (s1 + 1))), (.int (Int32.ofNat (nd))), (.ref a1)])) _
      refine XS.iload X10.here hx rfl (hb hby d7_254) rfl ?_
      refine XS.lloadN X10.here hx rfl (hb hby d7_256) rfl ?_
      refine XS.lload X10.here hx rfl (hb hby d7_257) rfl ?_
      refine XS.iconst X10.here hx rfl (hb hby d7_259) ?_
      refine st11.trans ?_
      refine XS.iload X11.here hx rfl (hb hby d7_263) rfl ?_
      refine XS.istore X11.here hx rfl (hb hby d7_265) rfl (l' := #[vR a1, vN (tr), vN (sv), vJ kh, .second, vJ kl, .second, vN (nd), vN (lf), vN (c2), vN (lf), uu, uu, uu, uu, uu]) rfl ?_
      refine XS.goto X11.here hx rfl (pc0 := 267) (pc' := 454) rfl (hb hby d7_267) (by decide) (by decide) ?_
      exact kt
  · obtain ⟨cq12, q12, q12'⟩ := L0.E.cell
    obtain ⟨_, _, ⟨T12, L12, k12, n12⟩, -, X12, ⟨Lc12, hQ12, l12, y12, z12⟩, st12⟩ := X5.privateBack hx (y := (⟨"com/example/ebbtide/ebbtide/cluster/LoadTrees", "newLeaf", "(JJ)I"⟩ : MethodName)) hown (mvT hZ (tw hw 87 rfl)) (mvT hZ (tw hw 88 rfl)) (mvT hZ (own_selP hw (tw hw 88 rfl) (tw hw 89 rfl))) (Cond.privateMethod_at (mvP hZ (tw hw 89 rfl) (args := #[]))) (mvT hZ (tw hw 90 rfl)) (by decide) (backOf (W := 0) (rmNL l Z a0 hw [] a1 A N I J cc M B kh kl nb lf h0 n0 Z0 L0 hS hfl hlv hlf hM) hZ (tw hw 90 rfl) (tw hw 14 rfl) (by decide) (by decide)) (g := (mkF m 232 #[vR a1, vN (tr), vN (sv), vJ kh, .second, vJ kl, .second, vN (nd), vN (l0), vN (c2), uu, uu, uu, uu, uu, uu] [(.long kl), (.long kh), (.ref a1)])) rfl (by rw [hml]; rfl) (Steps.refl _) (a := a1) (by rw [e5]; exact q12) q12' (argsL := [(.long kh), (.long kl)]) (rest := []) (lenOf pd__28JJ_29I rfl) rfl (by show 2 * 0 + _ ≤ _; exact Nat.le_of_eq rfl) (hb hby d7_232) (fun _ _ => ⟨rfl, e5, (by decide : 0 + 1 ≤ _), (by decide : 0 + 4 ≤ _)⟩)
    dsimp only [Pt.U, Pt.locs, Pt.cells, Pt.slots] at X12 l12 y12 z12 st12 hQ12
    subst l12 y12 z12
    obtain ⟨h12, e12⟩ : ∃ h', T12.heap = h' := ⟨_, rfl⟩
    rw [e12] at hQ12
    obtain ⟨bb12, rfl, N12q, K12q, Lq12⟩ := hQ12
    have K12 : KN n0 h0 h12 := (KN.refl n0 h0).trans K12q
    have Z12 : n0 ≤ h12.size := Nat.le_trans Z0 K12q.1
    have N12 := Fr.app N4 N12q
    obtain ⟨T13, X13, e13, st13⟩ := getF X12 hx hZ hown (host := "") (Or.inl (tw hw 44 rfl)) Via.refl e12 (Lq12.FI 4 (by decide) rfl) (g := (mkF m 239 #[vR a1, vN (tr), vN (sv), vJ kh, .second, vJ kl, .second, vN (nd), vN (l0), vN (c2), vN (lf), uu, uu, uu, uu, uu] [(.ref a1), (.ref a1)])) rfl rfl (hb hby d7_239)
    obtain ⟨T14, X14, e14, st14⟩ := getF X13 hx hZ hown (host := "") (Or.inl (tw hw 46 rfl)) Via.refl e13 (Lq12.FI 5 (by decide) rfl) (g := (mkF m 246 #[vR a1, vN (tr), vN (sv), vJ kh, .second, vJ kl, .second, vN (nd), vN (l0), vN (c2), vN (lf), uu, uu, uu, uu, uu] [(.ref a1), (.int (Int32.ofNat (nd))), (.ref a1)])) rfl rfl (hb hby d7_246)
    obtain ⟨cq15, q15, q15'⟩ := Lq12.E.cell
    obtain ⟨_, _, ⟨T15, L15, k15, n15⟩, -, X15, ⟨Lc15, hQ15, l15, y15, z15⟩, st15⟩ := X14.privateBack hx (y := (⟨"com/example/ebbtide/ebbtide/cluster/LoadTrees", "addSlot", "(IIIJJI)V"⟩ : MethodName)) hown (mvT hZ (tw hw 96 rfl)) (mvT hZ (tw hw 97 rfl)) (mvT hZ (own_selP hw (tw hw 97 rfl) (tw hw 98 rfl))) (Cond.privateMethod_at (mvP hZ (tw hw 98 rfl) (args := #[]))) (mvT hZ (tw hw 99 rfl)) (by decide) (backOf (W := 0) (rmAS l Z a0 hw [] a1 A N (ui I 3 (lf) (0 : Int32)) (ui (ui J 17 (lf) kh) 18 (lf) kl) (u1 cc 0 (Int32.ofNat (lf + 1))) (u1 M (lf) (some bb12)) (fun j => if j = lf then (fun _ => (0 : Int32)) else B j) nb nd (s1 + 1) lf n kh kl (-1 : Int32) ch h12 n0 Z12 Lq12 hS hnd hnb Y11 hn (by omega) Y12 hlf (own_ui _ _ _ _) hch hin) hZ (tw hw 99 rfl) (tw hw 14 rfl) (by decide) (by decide)) (g := (mkF m 260 #[vR a1, vN (tr), vN (sv), vJ kh, .second, vJ kl, .second, vN (nd), vN (l0), vN (c2), vN (lf), uu, uu, uu, uu, uu] [(.int (-1 : Int32)), (.long kl), (.long kh), (.int (Int32.ofNat (lf))), (.int (Int32.ofNat (s1 + 1))), (.int (Int32.ofNat (nd))), (.ref a1)])) rfl (by rw [hml]; rfl) (Steps.refl _) (a := a1) (by rw [e14]; exact q15) q15' (argsL := [(.int (Int32.ofNat (nd))), (.int (Int32.ofNat (s1 + 1))), (.int (Int32.ofNat (lf))), (.long kh), (.long kl), (.int (-1 : Int32))]) (rest := []) (lenOf pd__28IIIJJI_29V rfl) rfl (by show 2 * 0 + _ ≤ _; exact Nat.le_of_eq rfl) (hb hby d7_260) (fun _ _ => ⟨rfl, e14, (by decide : 1 + 0 ≤ _), (by decide : 4 + 0 ≤ _)⟩)
    dsimp only [Pt.U, Pt.locs, Pt.cells, Pt.slots] at X15 l15 y15 z15 st15 hQ15
    subst l15 y15 z15
    obtain ⟨h15, e15⟩ : ∃ h', T15.heap = h' := ⟨_, rfl⟩
    rw [e15] at hQ15
    obtain ⟨P15, S15, rfl, N15q, K15q, Lq15, q1_15, q2_15⟩ := hQ15
    have K15 : KN n0 h0 h15 := K12.trans K15q
    have Z15 : n0 ≤ h15.size := Nat.le_trans Z12 K15q.1
    have N15 := Fr.app N12 N15q
    refine ⟨T15, h15, _, bb12, P15, S15, X15, e15, N15, K15, Lq15, q1_15, q2_15, fun t kt => ?_⟩
    · refine c6 _ ?_
      show Steps p.tables e below (T5.setTop (mkF m 195 #[vR a1, vN (tr), vN (sv), vJ kh, .second, vJ kl, .second, vN (nd), vN (l0), vN (c2), uu, uu, uu, uu, uu, uu] [(.int (lcmpW kh2 kh))])) _
      refine XS.ifYes X5.here hx rfl (pc0 := 195) (pc' := 228) rfl (hb hby d7_195) rfl ((if0 _ _).trans (feq hc195).2) (by decide) (by decide) ?_
      refine XS.aloadN X5.here hx rfl (hb hby d7_228) rfl rfl ?_
      refine XS.lloadN X5.here hx rfl (hb hby d7_229) rfl ?_
      refine XS.lload X5.here hx rfl (hb hby d7_230) rfl ?_
      refine st12.trans ?_
      refine XS.istore X12.here hx rfl (hb hby d7_235) rfl (l' := #[vR a1, vN (tr), vN (sv), vJ kh, .second, vJ kl, .second, vN (nd), vN (l0), vN (c2), vN (lf), uu, uu, uu, uu, uu]) rfl ?_
      refine XS.aloadN X12.here hx rfl (hb hby d7_237) rfl rfl ?_
      refine XS.aloadN X12.here hx rfl (hb hby d7_238) rfl rfl ?_
      refine st13 _ ?_
      refine XS.iload X13.here hx rfl (hb hby d7_242) rfl ?_
      refine own_ldIN X13 hx hZ e13 (Lq12.aI 4 (by decide)) (i := l0) (x := (Int32.ofNat (nd))) (by omega) (congrArg Value.int (show ((ui I 3 (lf) (0 : Int32)) 4 (l0)) = (Int32.ofNat (nd)) from Y4)) (g := (mkF m 244 #[vR a1, vN (tr), vN (sv), vJ kh, .second, vJ kl, .second, vN (nd), vN (l0), vN (c2), vN (lf), uu, uu, uu, uu, uu] [(.int (Int32.ofNat (l0))), (.ref (A 4)), (.ref a1)])) rfl rfl (hb hby d7_244) _ ?_
      refine XS.aloadN X13.here hx rfl (hb hby d7_245) rfl rfl ?_
      show Steps p.tables e below (T13.setTop (mkF m 246 #[vR a1, vN (tr), vN (sv), vJ kh, .second, vJ kl, .second, vN (nd), vN (l0), vN (c2), vN (lf), uu, uu, uu, uu, uu] [(.ref a1), (.int (Int32.ofNat (nd))), (.ref a1)])) _
      refine st14 _ ?_
      refine XS.iload X14.here hx rfl (hb hby d7_249) rfl ?_
      refine own_ldIN X14 hx hZ e14 (Lq12.aI 5 (by decide)) (i := l0) (x := (Int32.ofNat (s1))) (by omega) (congrArg Value.int (show ((ui I 3 (lf) (0 : Int32)) 5 (l0)) = (Int32.ofNat (s1)) from Y5)) (g := (mkF m 251 #[vR a1, vN (tr), vN (sv), vJ kh, .second, vJ kl, .second, vN (nd), vN (l0), vN (c2), vN (lf), uu, uu, uu, uu, uu] [(.int (Int32.ofNat (l0))), (.ref (A 5)), (.int (Int32.ofNat (nd))), (.ref a1)])) rfl rfl (hb hby d7_251) _ ?_
      refine XS.iconst X14.here hx rfl (hb hby d7_252) ?_
      refine XS.iadd X14.here hx rfl (hb hby d7_253) rfl ?_
      show Steps p.tables e below (T14.setTop (mkF m 254 #[vR a1, vN (tr), vN (sv), vJ kh, .second, vJ kl, .second, vN (nd), vN (l0), vN (c2), vN (lf), uu, uu, uu, uu, uu] [(.int ((Int32.ofNat (s1)) + (1 : Int32))), (.int (Int32.ofNat (nd))), (.ref a1)])) _
      rw [show (Int32.ofNat (s1)) + (1 : Int32) = Int32.ofNat (s1 + 1) from own_na (s1) (1)]
      show Steps p.tables e below (T14.setTop (mkF m 254 #[vR a1, vN (tr), vN (sv), vJ kh, .second, vJ kl, .second, vN (nd), vN (l0), vN (c2), vN (lf), uu, uu, uu, uu, uu] [(.int (Int32.ofNat (s1 + 1))), (.int (Int32.ofNat (nd))), (.ref a1)])) _
      refine XS.iload X14.here hx rfl (hb hby d7_254) rfl ?_
      refine XS.lloadN X14.here hx rfl (hb hby d7_256) rfl ?_
      refine XS.lload X14.here hx rfl (hb hby d7_257) rfl ?_
      refine XS.iconst X14.here hx rfl (hb hby d7_259) ?_
      refine st15.trans ?_
      refine XS.iload X15.here hx rfl (hb hby d7_263) rfl ?_
      refine XS.istore X15.here hx rfl (hb hby d7_265) rfl (l' := #[vR a1, vN (tr), vN (sv), vJ kh, .second, vJ kl, .second, vN (nd), vN (lf), vN (c2), vN (lf), uu, uu, uu, uu, uu]) rfl ?_
      refine XS.goto X15.here hx rfl (pc0 := 267) (pc' := 454) rfl (hb hby d7_267) (by decide) (by decide) ?_
      exact kt
theorem own_JL (J : Nat → Nat → Int64) (lf l0 : Nat) (kh kl : Int64) (h : l0 ≠ lf) : ui (ui J 17 lf kh) 18 lf kl 17 l0 = J 17 l0 ∧ ui (ui J 17 lf kh) 18 lf kl 18 l0 = J 18 l0 := by
  unfold ui u1; simp [h]
theorem d7_293 : decode q13 293 = .ok (.aload_n 0, 1) := by decide +kernel
theorem d7_294 : decode q13 294 = .ok (.iload 8, 2) := by decide +kernel
theorem d7_296 : decode q13 296 = .ok (.invokevirtual 115, 3) := by decide +kernel
theorem d7_299 : decode q13 299 = .ok (.istore 9, 2) := by decide +kernel
theorem d7_301 : decode q13 301 = .ok (.iload 9, 2) := by decide +kernel
theorem d7_303 : decode q13 303 = .ok (.ifCond .lt 56, 3) := by decide +kernel
theorem d7_359 : decode q13 359 = .ok (.aload_n 0, 1) := by decide +kernel
theorem d7_360 : decode q13 360 = .ok (.lload_n 3, 1) := by decide +kernel
theorem d7_361 : decode q13 361 = .ok (.lload 5, 2) := by decide +kernel
theorem d7_363 : decode q13 363 = .ok (.invokevirtual 96, 3) := by decide +kernel
theorem d7_366 : decode q13 366 = .ok (.istore 10, 2) := by decide +kernel
theorem d7_368 : decode q13 368 = .ok (.aload_n 0, 1) := by decide +kernel
theorem d7_369 : decode q13 369 = .ok (.getfield 43, 3) := by decide +kernel
theorem d7_372 : decode q13 372 = .ok (.iload 8, 2) := by decide +kernel
theorem d7_374 : decode q13 374 = .ok (.iaload, 1) := by decide +kernel
theorem d7_375 : decode q13 375 = .ok (.bipush 64, 2) := by decide +kernel
theorem d7_377 : decode q13 377 = .ok (.imul, 1) := by decide +kernel
theorem d7_378 : decode q13 378 = .ok (.aload_n 0, 1) := by decide +kernel
theorem d7_379 : decode q13 379 = .ok (.getfield 46, 3) := by decide +kernel
theorem d7_382 : decode q13 382 = .ok (.iload 8, 2) := by decide +kernel
theorem d7_384 : decode q13 384 = .ok (.iaload, 1) := by decide +kernel
theorem d7_385 : decode q13 385 = .ok (.iadd, 1) := by decide +kernel
theorem d7_386 : decode q13 386 = .ok (.istore 11, 2) := by decide +kernel
theorem d7_388 : decode q13 388 = .ok (.aload_n 0, 1) := by decide +kernel
theorem d7_389 : decode q13 389 = .ok (.aload_n 0, 1) := by decide +kernel
theorem d7_390 : decode q13 390 = .ok (.getfield 43, 3) := by decide +kernel
theorem d7_393 : decode q13 393 = .ok (.iload 8, 2) := by decide +kernel
theorem d7_395 : decode q13 395 = .ok (.iaload, 1) := by decide +kernel
theorem d7_396 : decode q13 396 = .ok (.aload_n 0, 1) := by decide +kernel
theorem d7_397 : decode q13 397 = .ok (.getfield 46, 3) := by decide +kernel
theorem d7_400 : decode q13 400 = .ok (.iload 8, 2) := by decide +kernel
theorem d7_402 : decode q13 402 = .ok (.iaload, 1) := by decide +kernel
theorem d7_403 : decode q13 403 = .ok (.iload 10, 2) := by decide +kernel
theorem d7_405 : decode q13 405 = .ok (.aload_n 0, 1) := by decide +kernel
theorem d7_406 : decode q13 406 = .ok (.getfield 64, 3) := by decide +kernel
theorem d7_409 : decode q13 409 = .ok (.iload 11, 2) := by decide +kernel
theorem d7_411 : decode q13 411 = .ok (.laload, 1) := by decide +kernel
theorem d7_412 : decode q13 412 = .ok (.aload_n 0, 1) := by decide +kernel
theorem d7_413 : decode q13 413 = .ok (.getfield 67, 3) := by decide +kernel
theorem d7_416 : decode q13 416 = .ok (.iload 11, 2) := by decide +kernel
theorem d7_418 : decode q13 418 = .ok (.laload, 1) := by decide +kernel
theorem d7_419 : decode q13 419 = .ok (.aload_n 0, 1) := by decide +kernel
theorem d7_420 : decode q13 420 = .ok (.getfield 70, 3) := by decide +kernel
theorem d7_423 : decode q13 423 = .ok (.iload 11, 2) := by decide +kernel
theorem d7_425 : decode q13 425 = .ok (.iaload, 1) := by decide +kernel
theorem d7_426 : decode q13 426 = .ok (.invokevirtual 100, 3) := by decide +kernel
theorem d7_429 : decode q13 429 = .ok (.aload_n 0, 1) := by decide +kernel
theorem d7_430 : decode q13 430 = .ok (.iload 8, 2) := by decide +kernel
theorem d7_432 : decode q13 432 = .ok (.aload_n 0, 1) := by decide +kernel
theorem d7_433 : decode q13 433 = .ok (.getfield 37, 3) := by decide +kernel
theorem d7_436 : decode q13 436 = .ok (.iload 8, 2) := by decide +kernel
theorem d7_438 : decode q13 438 = .ok (.laload, 1) := by decide +kernel
theorem d7_439 : decode q13 439 = .ok (.aload_n 0, 1) := by decide +kernel
theorem d7_440 : decode q13 440 = .ok (.getfield 40, 3) := by decide +kernel
theorem d7_443 : decode q13 443 = .ok (.iload 8, 2) := by decide +kernel
theorem d7_445 : decode q13 445 = .ok (.laload, 1) := by decide +kernel
theorem d7_446 : decode q13 446 = .ok (.iconst (-1), 1) := by decide +kernel
theorem d7_447 : decode q13 447 = .ok (.invokevirtual 111, 3) := by decide +kernel
theorem d7_450 : decode q13 450 = .ok (.iload 10, 2) := by decide +kernel
theorem d7_452 : decode q13 452 = .ok (.istore 8, 2) := by decide +kernel
theorem pd__28IJJI_29V : parseMethodDescriptor "(IJJI)V" = some ⟨[.int, .long, .long, .int], none⟩ := by decide +kernel
set_option maxRecDepth 65536 in
set_option maxHeartbeats 40000000 in
theorem sgL {p : Program} {l : Launch} {e : Env} {s : State} {m : MethodId} {args : Array Value} {below : List Frame} {meth : Method} {c : Code} {T0 : State} {locs : List Loc} {Z : State} {a0 : Array Value} {h0 : Heap} (a1 : Addr) (A : Nat → Addr) (N : Nat → Nat) (I : Nat → Nat → Int32) (J : Nat → Nat → Int64) (cc : Nat → Int32) (M : Nat → Option Addr) (B : Nat → Nat → Int32) (nb nd tr sv lf n l0 : Nat) (kh kl kh0 kl0 f20 f21 : Int64) (f10 : Int32) (ch : Nat → Nat)
    (X0 : Stand p l e ({ frames := 7, cells := 1, slots := 4, locals := 150 } : Room) s m args below meth c T0 locs 0 0) (hx : p.tables.exec = Jvm.exec) (hZ : Z.Warmed39 s.vm) (hw : ∀ d ∈ tables_1, d.before a0 Z = true) (hby : c.code = prog_74_method_2_code) (hml : c.maxLocals = 16) (hown : s.vm.findClass "com/example/ebbtide/ebbtide/cluster/LoadTrees" = some m.cls) (e0 : T0.heap = h0) (n0 : Nat) (N0 : Fr n0 locs) (Z0 : n0 ≤ h0.size) (L0 : LT Z h0 n0 a1 A N I J cc M B) (hS : SZ N nb) (hnb : nb < 1000) (hnd : nd < nb) (hsv : sv < 3) (Y12 : I 12 nd = (1 : Int32)) (hfl : cc 1 = (0 : Int32)) (hlv : cc 0 = Int32.ofNat lf) (hlf : lf < 4) (hM : M lf = none) (Y11 : I 11 nd = Int32.ofNat n) (hn : n < 60) (hch : ∀ i, i < n → I 7 (nd * 64 + i) = Int32.ofNat (ch i) ∧ ch i < 4 ∧ ch i ≠ lf) (hin : ∀ i i', i < n → i' < n → ch i = ch i' → i = i') (hl0 : l0 < 4) (Y17 : J 17 l0 = kh0) (Y18 : J 18 l0 = kl0) (Y5 : I 5 l0 = (0 : Int32)) (Y4 : I 4 l0 = Int32.ofNat nd) (Y13 : I 13 nd = (-1 : Int32)) (hne : l0 ≠ lf) (hk1 : ¬ own_k kh0 kl0 kh kl < 0) (hk2 : own_k kh kl kh0 kl0 < 0) (Y20 : J 20 (nd * 64) = f20) (Y21 : J 21 (nd * 64) = f21) (Y10 : I 10 (nd * 64) = f10) (h0ch : ch 0 = l0) (hn1 : 1 ≤ n) :
    ∃ (T' : State) (h' : Heap) (L' : List Loc) (bb : Addr) (P S : Nat → Int32), Stand p l e ({ frames := 7, cells := 1, slots := 4, locals := 150 } : Room) s m args below meth c T' L' 1 4 ∧ T'.heap = h' ∧ Fr n0 L' ∧ KN n0 h0 h' ∧ LT Z h' n0 a1 A N (ui (adI (ui I 3 (lf) (0 : Int32)) nd (0) n lf f10 P S) 10 (nd * 64 + 1) (-1 : Int32)) (ui (ui (adJ (ui (ui J 17 (lf) kh) 18 (lf) kl) nd (0) n f20 f21) 20 (nd * 64 + 1) kh0) 21 (nd * 64 + 1) kl0) (u1 cc 0 (Int32.ofNat (lf + 1))) (u1 M (lf) (some bb)) (fun j => if j = lf then (fun _ => (0 : Int32)) else B j) ∧ (∀ i, 0 ≤ i → i < n + 1 → P (sins ch (0) lf i) = Int32.ofNat nd ∧ S (sins ch (0) lf i) = Int32.ofNat i) ∧ (∀ x, (∀ i, 0 ≤ i → i < n + 1 → x ≠ sins ch (0) lf i) → P x = I 4 x ∧ S x = I 5 x) ∧ (∀ t, Steps p.tables e below (T'.setTop (mkF m 454 #[vR a1, vN (tr), vN (sv), vJ kh, .second, vJ kl, .second, vN (nd), vN (lf), vI (-1), vN (lf), vN (nd * 64), uu, uu, uu, uu] [])) t → Steps p.tables e below (T0.setTop (mkF m 150 #[vR a1, vN (tr), vN (sv), vJ kh, .second, vJ kl, .second, vN (nd), vN (l0), uu, uu, uu, uu, uu, uu, uu] [])) t) := by
  have hS0 := hS
  obtain ⟨S0, S1, S2, S3, S4, S5, S6, S7, S8, S9, S10, S11, S12, S13, S14, S15, S16, S17, S18, S19, S20, S21, S22⟩ := hS0
  obtain ⟨T1, X1, e1, st1⟩ := getF X0 hx hZ hown (host := "") (Or.inl (tw hw 40 rfl)) Via.refl e0 (L0.FJ 17 (by decide) (by decide) rfl) (g := (mkF m 151 #[vR a1, vN (tr), vN (sv), vJ kh, .second, vJ kl, .second, vN (nd), vN (l0), uu, uu, uu, uu, uu, uu, uu] [(.ref a1)])) rfl rfl (hb hby d7_151)
  obtain ⟨T2, X2, e2, st2⟩ := getF X1 hx hZ hown (host := "") (Or.inl (tw hw 42 rfl)) Via.refl e1 (L0.FJ 18 (by decide) (by decide) rfl) (g := (mkF m 158 #[vR a1, vN (tr), vN (sv), vJ kh, .second, vJ kl, .second, vN (nd), vN (l0), uu, uu, uu, uu, uu, uu, uu] [(.ref a1), (.long kh0)])) rfl rfl (hb hby d7_158)
  obtain ⟨_, _, ⟨T3, L3, k3, n3⟩, -, X3, ⟨Lc3, hQ3, l3, y3, z3⟩, st3⟩ := Jvm.LawKit.callS X2 hx (y := (⟨"com/example/ebbtide/ebbtide/cluster/LoadTrees", "less", "(JJJJ)Z"⟩ : MethodName)) hown (mvT hZ (tw hw 120 rfl)) (mvT hZ (tw hw 121 rfl)) (mvT hZ (tw hw 14 rfl)) (mvT hZ (tw hw 122 rfl)) (by decide) (backOf (W := 0) (rmLess l Z a0 hw [] kh0 kl0 kh kl h0 n0 Z0) hZ (tw hw 122 rfl) (tw hw 14 rfl) (by decide) (by decide)) (g := (mkF m 167 #[vR a1, vN (tr), vN (sv), vJ kh, .second, vJ kl, .second, vN (nd), vN (l0), uu, uu, uu, uu, uu, uu, uu] [(.long kl), (.long kh), (.long kl0), (.long kh0)])) rfl (by rw [hml]; rfl) (argsL := [(.long kh0), (.long kl0), (.long kh), (.long kl)]) (rest := []) (lenOf pd__28JJJJ_29Z rfl) rfl (by show 2 * 0 + _ ≤ _; exact Nat.le_of_eq rfl) (hb hby d7_167) (fun _ _ => ⟨rfl, e2, (by decide : 0 + 0 ≤ _), (by decide : 0 + 0 ≤ _)⟩)
  dsimp only [Pt.U, Pt.locs, Pt.cells, Pt.slots] at X3 l3 y3 z3 st3 hQ3
  subst l3 y3 z3
  obtain ⟨rfl, N3q, e3⟩ := hQ3
  have N3 := Fr.app N0 N3q
  obtain ⟨T4, X4, e4, st4⟩ := getF X3 hx hZ hown (host := "") (Or.inl (tw hw 40 rfl)) Via.refl e3 (L0.FJ 17 (by decide) (by decide) rfl) (g := (mkF m 274 #[vR a1, vN (tr), vN (sv), vJ kh, .second, vJ kl, .second, vN (nd), vN (l0), uu, uu, uu, uu, uu, uu, uu] [(.ref a1), (.long kl), (.long kh)])) rfl rfl (hb hby d7_274)
  obtain ⟨T5, X5, e5, st5⟩ := getF X4 hx hZ hown (host := "") (Or.inl (tw hw 42 rfl)) Via.refl e4 (L0.FJ 18 (by decide) (by decide) rfl) (g := (mkF m 281 #[vR a1, vN (tr), vN (sv), vJ kh, .second, vJ kl, .second, vN (nd), vN (l0), uu, uu, uu, uu, uu, uu, uu] [(.ref a1), (.long kh0), (.long kl), (.long kh)])) rfl rfl (hb hby d7_281)
  obtain ⟨_, _, ⟨T6, L6, k6, n6⟩, -, X6, ⟨Lc6, hQ6, l6, y6, z6⟩, st6⟩ := Jvm.LawKit.callS X5 hx (y := (⟨"com/example/ebbtide/ebbtide/cluster/LoadTrees", "less", "(JJJJ)Z"⟩ : MethodName)) hown (mvT hZ (tw hw 120 rfl)) (mvT hZ (tw hw 121 rfl)) (mvT hZ (tw hw 14 rfl)) (mvT hZ (tw hw 122 rfl)) (by decide) (backOf (W := 0) (rmLess l Z a0 hw [] kh kl kh0 kl0 h0 n0 Z0) hZ (tw hw 122 rfl) (tw hw 14 rfl) (by decide) (by decide)) (g := (mkF m 287 #[vR a1, vN (tr), vN (sv), vJ kh, .second, vJ kl, .second, vN (nd), vN (l0), uu, uu, uu, uu, uu, uu, uu] [(.long kl0), (.long kh0), (.long kl), (.long kh)])) rfl (by rw [hml]; rfl) (argsL := [(.long kh), (.long kl), (.long kh0), (.long kl0)]) (rest := []) (lenOf pd__28JJJJ_29Z rfl) rfl (by show 2 * 0 + _ ≤ _; exact Nat.le_of_eq rfl) (hb hby d7_287) (fun _ _ => ⟨rfl, e5, (by decide : 0 + 0 ≤ _), (by decide : 0 + 0 ≤ _)⟩)
  dsimp only [Pt.U, Pt.locs, Pt.cells, Pt.slots] at X6 l6 y6 z6 st6 hQ6
  subst l6 y6 z6
  obtain ⟨rfl, N6q, e6⟩ := hQ6
  have N6 := Fr.app N3 N6q
  obtain ⟨cq7, q7, q7'⟩ := L0.E.cell
  obtain ⟨_, _, ⟨T7, L7, k7, n7⟩, -, X7, ⟨Lc7, hQ7, l7, y7, z7⟩, st7⟩ := X6.privateBack hx (y := (⟨"com/example/ebbtide/ebbtide/cluster/LoadTrees", "previousLeaf", "(I)I"⟩ : MethodName)) hown (mvT hZ (tw hw 147 rfl)) (mvT hZ (tw hw 148 rfl)) (mvT hZ (own_selP hw (tw hw 148 rfl) (tw hw 149 rfl))) (Cond.privateMethod_at (mvP hZ (tw hw 149 rfl) (args := #[]))) (mvT hZ (tw hw 150 rfl)) (by decide) (backOf (W := 0) (rmPV l Z a0 hw [] a1 A N I J cc M B nb nd l0 h0 n0 Z0 L0 hS hnd hnb hl0 Y5 Y4 Y13) hZ (tw hw 150 rfl) (tw hw 14 rfl) (by decide) (by decide)) (g := (mkF m 296 #[vR a1, vN (tr), vN (sv), vJ kh, .second, vJ kl, .second, vN (nd), vN (l0), uu, uu, uu, uu, uu, uu, uu] [(.int (Int32.ofNat (l0))), (.ref a1)])) rfl (by rw [hml]; rfl) (Steps.refl _) (a := a1) (by rw [e6]; exact q7) q7' (argsL := [(.int (Int32.ofNat (l0)))]) (rest := []) (lenOf pd__28I_29I rfl) rfl (by show 2 * 0 + _ ≤ _; exact Nat.le_of_eq rfl) (hb hby d7_296) (fun _ _ => ⟨rfl, e6, (by decide : 0 + 0 ≤ _), (by decide : 0 + 0 ≤ _)⟩)
  dsimp only [Pt.U, Pt.locs, Pt.cells, Pt.slots] at X7 l7 y7 z7 st7 hQ7
  subst l7 y7 z7
  obtain ⟨rfl, N7q, e7⟩ := hQ7
  have N7 := Fr.app N6 N7q
  obtain ⟨cq8, q8, q8'⟩ := L0.E.cell
  obtain ⟨_, _, ⟨T8, L8, k8, n8⟩, -, X8, ⟨Lc8, hQ8, l8, y8, z8⟩, st8⟩ := X7.privateBack hx (y := (⟨"com/example/ebbtide/ebbtide/cluster/LoadTrees", "newLeaf", "(JJ)I"⟩ : MethodName)) hown (mvT hZ (tw hw 87 rfl)) (mvT hZ (tw hw 88 rfl)) (mvT hZ (own_selP hw (tw hw 88 rfl) (tw hw 89 rfl))) (Cond.privateMethod_at (mvP hZ (tw hw 89 rfl) (args := #[]))) (mvT hZ (tw hw 90 rfl)) (by decide) (backOf (W := 0) (rmNL l Z a0 hw [] a1 A N I J cc M B kh kl nb lf h0 n0 Z0 L0 hS hfl hlv hlf hM) hZ (tw hw 90 rfl) (tw hw 14 rfl) (by decide) (by decide)) (g := (mkF m 363 #[vR a1, vN (tr), vN (sv), vJ kh, .second, vJ kl, .second, vN (nd), vN (l0), vI (-1), uu, uu, uu, uu, uu, uu] [(.long kl), (.long kh), (.ref a1)])) rfl (by rw [hml]; rfl) (Steps.refl _) (a := a1) (by rw [e7]; exact q8) q8' (argsL := [(.long kh), (.long kl)]) (rest := []) (lenOf pd__28JJ_29I rfl) rfl (by show 2 * 0 + _ ≤ _; exact Nat.le_of_eq rfl) (hb hby d7_363) (fun _ _ => ⟨rfl, e7, (by decide : 0 + 1 ≤ _), (by decide : 0 + 4 ≤ _)⟩)
  dsimp only [Pt.U, Pt.locs, Pt.cells, Pt.slots] at X8 l8 y8 z8 st8 hQ8
  subst l8 y8 z8
  obtain ⟨h8, e8⟩ : ∃ h', T8.heap = h' := ⟨_, rfl⟩
  rw [e8] at hQ8
  obtain ⟨bb8, rfl, N8q, K8q, Lq8⟩ := hQ8
  have K8 : KN n0 h0 h8 := (KN.refl n0 h0).trans K8q
  have Z8 : n0 ≤ h8.size := Nat.le_trans Z0 K8q.1
  have N8 := Fr.app N7 N8q
  obtain ⟨T9, X9, e9, st9⟩ := getF X8 hx hZ hown (host := "") (Or.inl (tw hw 44 rfl)) Via.refl e8 (Lq8.FI 4 (by decide) rfl) (g := (mkF m 369 #[vR a1, vN (tr), vN (sv), vJ kh, .second, vJ kl, .second, vN (nd), vN (l0), vI (-1), vN (lf), uu, uu, uu, uu, uu] [(.ref a1)])) rfl rfl (hb hby d7_369)
  obtain ⟨T10, X10, e10, st10⟩ := getF X9 hx hZ hown (host := "") (Or.inl (tw hw 46 rfl)) Via.refl e9 (Lq8.FI 5 (by decide) rfl) (g := (mkF m 379 #[vR a1, vN (tr), vN (sv), vJ kh, .second, vJ kl, .second, vN (nd), vN (l0), vI (-1), vN (lf), uu, uu, uu, uu, uu] [(.ref a1), (.int (Int32.ofNat (nd * 64)))])) rfl rfl (hb hby d7_379)
  obtain ⟨T11, X11, e11, st11⟩ := getF X10 hx hZ hown (host := "") (Or.inl (tw hw 44 rfl)) Via.refl e10 (Lq8.FI 4 (by decide) rfl) (g := (mkF m 390 #[vR a1, vN (tr), vN (sv), vJ kh, .second, vJ kl, .second, vN (nd), vN (l0), vI (-1), vN (lf), vN (nd * 64), uu, uu, uu, uu] [(.ref a1), (.ref a1)])) rfl rfl (hb hby d7_390)
  obtain ⟨T12, X12, e12, st12⟩ := getF X11 hx hZ hown (host := "") (Or.inl (tw hw 46 rfl)) Via.refl e11 (Lq8.FI 5 (by decide) rfl) (g := (mkF m 397 #[vR a1, vN (tr), vN (sv), vJ kh, .second, vJ kl, .second, vN (nd), vN (l0), vI (-1), vN (lf), vN (nd * 64), uu, uu, uu, uu] [(.ref a1), (.int (Int32.ofNat (nd))), (.ref a1)])) rfl rfl (hb hby d7_397)
  obtain ⟨T13, X13, e13, st13⟩ := getF X12 hx hZ hown (host := "") (Or.inl (tw hw 58 rfl)) Via.refl e12 (Lq8.FJ 20 (by decide) (by decide) rfl) (g := (mkF m 406 #[vR a1, vN (tr), vN (sv), vJ kh, .second, vJ kl, .second, vN (nd), vN (l0), vI (-1), vN (lf), vN (nd * 64), uu, uu, uu, uu] [(.ref a1), (.int (Int32.ofNat (lf))), (.int (0 : Int32)), (.int (Int32.ofNat (nd))), (.ref a1)])) rfl rfl (hb hby d7_406)
  obtain ⟨T14, X14, e14, st14⟩ := getF X13 hx hZ hown (host := "") (Or.inl (tw hw 60 rfl)) Via.refl e13 (Lq8.FJ 21 (by decide) (by decide) rfl) (g := (mkF m 413 #[vR a1, vN (tr), vN (sv), vJ kh, .second, vJ kl, .second, vN (nd), vN (l0), vI (-1), vN (lf), vN (nd * 64), uu, uu, uu, uu] [(.ref a1), (.long f20), (.int (Int32.ofNat (lf))), (.int (0 : Int32)), (.int (Int32.ofNat (nd))), (.ref a1)])) rfl rfl (hb hby d7_413)
  obtain ⟨T15, X15, e15, st15⟩ := getF X14 hx hZ hown (host := "") (Or.inl (tw hw 62 rfl)) Via.refl e14 (Lq8.FI 10 (by decide) rfl) (g := (mkF m 420 #[vR a1, vN (tr), vN (sv), vJ kh, .second, vJ kl, .second, vN (nd), vN (l0), vI (-1), vN (lf), vN (nd * 64), uu, uu, uu, uu] [(.ref a1), (.long f21), (.long f20), (.int (Int32.ofNat (lf))), (.int (0 : Int32)), (.int (Int32.ofNat (nd))), (.ref a1)])) rfl rfl (hb hby d7_420)
  obtain ⟨cq16, q16, q16'⟩ := Lq8.E.cell
  obtain ⟨_, _, ⟨T16, L16, k16, n16⟩, -, X16, ⟨Lc16, hQ16, l16, y16, z16⟩, st16⟩ := X15.privateBack hx (y := (⟨"com/example/ebbtide/ebbtide/cluster/LoadTrees", "addSlot", "(IIIJJI)V"⟩ : MethodName)) hown (mvT hZ (tw hw 96 rfl)) (mvT hZ (tw hw 97 rfl)) (mvT hZ (own_selP hw (tw hw 97 rfl) (tw hw 98 rfl))) (Cond.privateMethod_at (mvP hZ (tw hw 98 rfl) (args := #[]))) (mvT hZ (tw hw 99 rfl)) (by decide) (backOf (W := 0) (rmAS l Z a0 hw [] a1 A N (ui I 3 (lf) (0 : Int32)) (ui (ui J 17 (lf) kh) 18 (lf) kl) (u1 cc 0 (Int32.ofNat (lf + 1))) (u1 M (lf) (some bb8)) (fun j => if j = lf then (fun _ => (0 : Int32)) else B j) nb nd (0) lf n f20 f21 f10 ch h8 n0 Z8 Lq8 hS hnd hnb Y11 hn (Nat.zero_le _) Y12 hlf (own_ui _ _ _ _) hch hin) hZ (tw hw 99 rfl) (tw hw 14 rfl) (by decide) (by decide)) (g := (mkF m 426 #[vR a1, vN (tr), vN (sv), vJ kh, .second, vJ kl, .second, vN (nd), vN (l0), vI (-1), vN (lf), vN (nd * 64), uu, uu, uu, uu] [(.int f10), (.long f21), (.long f20), (.int (Int32.ofNat (lf))), (.int (0 : Int32)), (.int (Int32.ofNat (nd))), (.ref a1)])) rfl (by rw [hml]; rfl) (Steps.refl _) (a := a1) (by rw [e15]; exact q16) q16' (argsL := [(.int (Int32.ofNat (nd))), (.int (0 : Int32)), (.int (Int32.ofNat (lf))), (.long f20), (.long f21), (.int f10)]) (rest := []) (lenOf pd__28IIIJJI_29V rfl) rfl (by show 2 * 0 + _ ≤ _; exact Nat.le_of_eq rfl) (hb hby d7_426) (fun _ _ => ⟨rfl, e15, (by decide : 1 + 0 ≤ _), (by decide : 4 + 0 ≤ _)⟩)
  dsimp only [Pt.U, Pt.locs, Pt.cells, Pt.slots] at X16 l16 y16 z16 st16 hQ16
  subst l16 y16 z16
  obtain ⟨h16, e16⟩ : ∃ h', T16.heap = h' := ⟨_, rfl⟩
  rw [e16] at hQ16
  obtain ⟨P16, S16, rfl, N16q, K16q, Lq16, q1_16, q2_16⟩ := hQ16
  have K16 : KN n0 h0 h16 := K8.trans K16q
  have Z16 : n0 ≤ h16.size := Nat.le_trans Z8 K16q.1
  have N16 := Fr.app N8 N16q
  obtain ⟨T17, X17, e17, st17⟩ := getF X16 hx hZ hown (host := "") (Or.inl (tw hw 40 rfl)) Via.refl e16 (Lq16.FJ 17 (by decide) (by decide) rfl) (g := (mkF m 433 #[vR a1, vN (tr), vN (sv), vJ kh, .second, vJ kl, .second, vN (nd), vN (l0), vI (-1), vN (lf), vN (nd * 64), uu, uu, uu, uu] [(.ref a1), (.int (Int32.ofNat (l0))), (.ref a1)])) rfl rfl (hb hby d7_433)
  obtain ⟨T18, X18, e18, st18⟩ := getF X17 hx hZ hown (host := "") (Or.inl (tw hw 42 rfl)) Via.refl e17 (Lq16.FJ 18 (by decide) (by decide) rfl) (g := (mkF m 440 #[vR a1, vN (tr), vN (sv), vJ kh, .second, vJ kl, .second, vN (nd), vN (l0), vI (-1), vN (lf), vN (nd * 64), uu, uu, uu, uu] [(.ref a1), (.long kh0), (.int (Int32.ofNat (l0))), (.ref a1)])) rfl rfl (hb hby d7_440)
  have hE5 : S16 l0 = Int32.ofNat 1 ∧ P16 l0 = Int32.ofNat nd := by
    have := q1_16 1 (by omega) (by omega)
    have e : sins ch 0 lf 1 = l0 := h0ch
    rw [e] at this; exact ⟨this.2, this.1⟩
  obtain ⟨cq19, q19, q19'⟩ := Lq16.E.cell
  obtain ⟨_, _, ⟨T19, L19, k19, n19⟩, -, X19, ⟨Lc19, hQ19, l19, y19, z19⟩, st19⟩ := X18.privateBack hx (y := (⟨"com/example/ebbtide/ebbtide/cluster/LoadTrees", "setFrom", "(IJJI)V"⟩ : MethodName)) hown (mvT hZ (tw hw 151 rfl)) (mvT hZ (tw hw 152 rfl)) (mvT hZ (own_selP hw (tw hw 152 rfl) (tw hw 153 rfl))) (Cond.privateMethod_at (mvP hZ (tw hw 153 rfl) (args := #[]))) (mvT hZ (tw hw 154 rfl)) (by decide) (backOf (W := 0) (rmSt l Z a0 hw [] a1 A N (adI (ui I 3 (lf) (0 : Int32)) nd (0) n lf f10 P16 S16) (adJ (ui (ui J 17 (lf) kh) 18 (lf) kl) nd (0) n f20 f21) (u1 cc 0 (Int32.ofNat (lf + 1))) (u1 M (lf) (some bb8)) (fun j => if j = lf then (fun _ => (0 : Int32)) else B j) nb nd l0 1 kh0 kl0 (-1 : Int32) h16 n0 Z16 Lq16 hS hnd hnb hl0 hE5.1 hE5.2 (by decide) (by decide)) hZ (tw hw 154 rfl) (tw hw 14 rfl) (by decide) (by decide)) (g := (mkF m 447 #[vR a1, vN (tr), vN (sv), vJ kh, .second, vJ kl, .second, vN (nd), vN (l0), vI (-1), vN (lf), vN (nd * 64), uu, uu, uu, uu] [(.int (-1 : Int32)), (.long kl0), (.long kh0), (.int (Int32.ofNat (l0))), (.ref a1)])) rfl (by rw [hml]; rfl) (Steps.refl _) (a := a1) (by rw [e18]; exact q19) q19' (argsL := [(.int (Int32.ofNat (l0))), (.long kh0), (.long kl0), (.int (-1 : Int32))]) (rest := []) (lenOf pd__28IJJI_29V rfl) rfl (by show 2 * 0 + _ ≤ _; exact Nat.le_of_eq rfl) (hb hby d7_447) (fun _ _ => ⟨rfl, e18, (by decide : 1 + 0 ≤ _), (by decide : 4 + 0 ≤ _)⟩)
  dsimp only [Pt.U, Pt.locs, Pt.cells, Pt.slots] at X19 l19 y19 z19 st19 hQ19
  subst l19 y19 z19
  obtain ⟨h19, e19⟩ : ∃ h', T19.heap = h' := ⟨_, rfl⟩
  rw [e19] at hQ19
  obtain ⟨rfl, N19q, K19q, Lq19⟩ := hQ19
  have K19 : KN n0 h0 h19 := K16.trans K19q
  have Z19 : n0 ≤ h19.size := Nat.le_trans Z16 K19q.1
  have N19 := Fr.app N16 N19q
  refine ⟨T19, h19, _, bb8, P16, S16, X19, e19, N19, K19, Lq19, q1_16, q2_16, fun t kt => ?_⟩
  · show Steps p.tables e below (T0.setTop (mkF m 150 #[vR a1, vN (tr), vN (sv), vJ kh, .second, vJ kl, .second, vN (nd), vN (l0), uu, uu, uu, uu, uu, uu, uu] [])) _
    refine XS.aloadN X0.here hx rfl (hb hby d7_150) rfl rfl ?_
    refine st1 _ ?_
    refine XS.iload X1.here hx rfl (hb hby d7_154) rfl ?_
    refine own_ldJN X1 hx hZ e1 (L0.aJ 17 (by decide) (by decide)) (i := l0) (x := kh0) (by omega) (congrArg Value.long (show (J 17 (l0)) = kh0 from Y17)) (g := (mkF m 156 #[vR a1, vN (tr), vN (sv), vJ kh, .second, vJ kl, .second, vN (nd), vN (l0), uu, uu, uu, uu, uu, uu, uu] [(.int (Int32.ofNat (l0))), (.ref (A 17))])) rfl rfl (hb hby d7_156) _ ?_
    refine XS.aloadN X1.here hx rfl (hb hby d7_157) rfl rfl ?_
    refine st2 _ ?_
    refine XS.iload X2.here hx rfl (hb hby d7_161) rfl ?_
    refine own_ldJN X2 hx hZ e2 (L0.aJ 18 (by decide) (by decide)) (i := l0) (x := kl0) (by omega) (congrArg Value.long (show (J 18 (l0)) = kl0 from Y18)) (g := (mkF m 163 #[vR a1, vN (tr), vN (sv), vJ kh, .second, vJ kl, .second, vN (nd), vN (l0), uu, uu, uu, uu, uu, uu, uu] [(.int (Int32.ofNat (l0))), (.ref (A 18)), (.long kh0)])) rfl rfl (hb hby d7_163) _ ?_
    refine XS.lloadN X2.here hx rfl (hb hby d7_164) rfl ?_
    refine XS.lload X2.here hx rfl (hb hby d7_165) rfl ?_
    refine st3 _ ?_
    refine XS.ifYes X3.here hx rfl (pc0 := 170) (pc' := 270) rfl (hb hby d7_170) rfl ((if0 _ _).trans (teq (by rw [if_neg hk1])).1) (by decide) (by decide) ?_
    show Steps p.tables e below (T3.setTop (mkF m 270 #[vR a1, vN (tr), vN (sv), vJ kh, .second, vJ kl, .second, vN (nd), vN (l0), uu, uu, uu, uu, uu, uu, uu] [])) _
    refine XS.lloadN X3.here hx rfl (hb hby d7_270) rfl ?_
    refine XS.lload X3.here hx rfl (hb hby d7_271) rfl ?_
    refine XS.aloadN X3.here hx rfl (hb hby d7_273) rfl rfl ?_
    refine st4 _ ?_
    refine XS.iload X4.here hx rfl (hb hby d7_277) rfl ?_
    refine own_ldJN X4 hx hZ e4 (L0.aJ 17 (by decide) (by decide)) (i := l0) (x := kh0) (by omega) (congrArg Value.long (show (J 17 (l0)) = kh0 from Y17)) (g := (mkF m 279 #[vR a1, vN (tr), vN (sv), vJ kh, .second, vJ kl, .second, vN (nd), vN (l0), uu, uu, uu, uu, uu, uu, uu] [(.int (Int32.ofNat (l0))), (.ref (A 17)), (.long kl), (.long kh)])) rfl rfl (hb hby d7_279) _ ?_
    refine XS.aloadN X4.here hx rfl (hb hby d7_280) rfl rfl ?_
    refine st5 _ ?_
    refine XS.iload X5.here hx rfl (hb hby d7_284) rfl ?_
    refine own_ldJN X5 hx hZ e5 (L0.aJ 18 (by decide) (by decide)) (i := l0) (x := kl0) (by omega) (congrArg Value.long (show (J 18 (l0)) = kl0 from Y18)) (g := (mkF m 286 #[vR a1, vN (tr), vN (sv), vJ kh, .second, vJ kl, .second, vN (nd), vN (l0), uu, uu, uu, uu, uu, uu, uu] [(.int (Int32.ofNat (l0))), (.ref (A 18)), (.long kh0), (.long kl), (.long kh)])) rfl rfl (hb hby d7_286) _ ?_
    refine st6 _ ?_
    refine XS.ifNo X6.here hx rfl (hb hby d7_290) rfl ((if0 _ _).trans (feq (by rw [if_pos hk2]; decide)).1) ?_
    show Steps p.tables e below (T6.setTop (mkF m 293 #[vR a1, vN (tr), vN (sv), vJ kh, .second, vJ kl, .second, vN (nd), vN (l0), uu, uu, uu, uu, uu, uu, uu] [])) _
    refine XS.aloadN X6.here hx rfl (hb hby d7_293) rfl rfl ?_
    refine XS.iload X6.here hx rfl (hb hby d7_294) rfl ?_
    refine st7.trans ?_
    refine XS.istore X7.here hx rfl (hb hby d7_299) rfl (l' := #[vR a1, vN (tr), vN (sv), vJ kh, .second, vJ kl, .second, vN (nd), vN (l0), vI (-1), uu, uu, uu, uu, uu, uu]) rfl ?_
    refine XS.iload X7.here hx rfl (hb hby d7_301) rfl ?_
    refine XS.ifYes X7.here hx rfl (pc0 := 303) (pc' := 359) rfl (hb hby d7_303) rfl ((if0 _ _).trans (tlt (by decide : (-1 : Int32) < (0 : Int32))).1) (by decide) (by decide) ?_
    refine XS.aloadN X7.here hx rfl (hb hby d7_359) rfl rfl ?_
    refine XS.lloadN X7.here hx rfl (hb hby d7_360) rfl ?_
    refine XS.lload X7.here hx rfl (hb hby d7_361) rfl ?_
    refine st8.trans ?_
    refine XS.istore X8.here hx rfl (hb hby d7_366) rfl (l' := #[vR a1, vN (tr), vN (sv), vJ kh, .second, vJ kl, .second, vN (nd), vN (l0), vI (-1), vN (lf), uu, uu, uu, uu, uu]) rfl ?_
    refine XS.aloadN X8.here hx rfl (hb hby d7_368) rfl rfl ?_
    show Steps p.tables e below (T8.setTop (mkF m 369 #[vR a1, vN (tr), vN (sv), vJ kh, .second, vJ kl, .second, vN (nd), vN (l0), vI (-1), vN (lf), uu, uu, uu, uu, uu] [(.ref a1)])) _
    refine st9 _ ?_
    refine XS.iload X9.here hx rfl (hb hby d7_372) rfl ?_
    refine own_ldIN X9 hx hZ e9 (Lq8.aI 4 (by decide)) (i := l0) (x := (Int32.ofNat (nd))) (by omega) (congrArg Value.int (show ((ui I 3 (lf) (0 : Int32)) 4 (l0)) = (Int32.ofNat (nd)) from Y4)) (g := (mkF m 374 #[vR a1, vN (tr), vN (sv), vJ kh, .second, vJ kl, .second, vN (nd), vN (l0), vI (-1), vN (lf), uu, uu, uu, uu, uu] [(.int (Int32.ofNat (l0))), (.ref (A 4))])) rfl rfl (hb hby d7_374) _ ?_
    refine XS.bipush X9.here hx rfl (hb hby d7_375) ?_
    refine XS.imul X9.here hx rfl (hb hby d7_377) rfl ?_
    show Steps p.tables e below (T9.setTop (mkF m 378 #[vR a1, vN (tr), vN (sv), vJ kh, .second, vJ kl, .second, vN (nd), vN (l0), vI (-1), vN (lf), uu, uu, uu, uu, uu] [(.int ((Int32.ofNat (nd)) * (64 : Int32)))])) _
    rw [show (Int32.ofNat (nd)) * (64 : Int32) = Int32.ofNat (nd * 64) from own_nm (nd) (64)]
    show Steps p.tables e below (T9.setTop (mkF m 378 #[vR a1, vN (tr), vN (sv), vJ kh, .second, vJ kl, .second, vN (nd), vN (l0), vI (-1), vN (lf), uu, uu, uu, uu, uu] [(.int (Int32.ofNat (nd * 64)))])) _
    refine XS.aloadN X9.here hx rfl (hb hby d7_378) rfl rfl ?_
    refine st10 _ ?_
    refine XS.iload X10.here hx rfl (hb hby d7_382) rfl ?_
    refine own_ldIN X10 hx hZ e10 (Lq8.aI 5 (by decide)) (i := l0) (x := (0 : Int32)) (by omega) (congrArg Value.int (show ((ui I 3 (lf) (0 : Int32)) 5 (l0)) = (0 : Int32) from Y5)) (g := (mkF m 384 #[vR a1, vN (tr), vN (sv), vJ kh, .second, vJ kl, .second, vN (nd), vN (l0), vI (-1), vN (lf), uu, uu, uu, uu, uu] [(.int (Int32.ofNat (l0))), (.ref (A 5)), (.int (Int32.ofNat (nd * 64)))])) rfl rfl (hb hby d7_384) _ ?_
    refine XS.iadd X10.here hx rfl (hb hby d7_385) rfl ?_
    show Steps p.tables e below (T10.setTop (mkF m 386 #[vR a1, vN (tr), vN (sv), vJ kh, .second, vJ kl, .second, vN (nd), vN (l0), vI (-1), vN (lf), uu, uu, uu, uu, uu] [(.int ((Int32.ofNat (nd * 64)) + (0 : Int32)))])) _
    rw [show (Int32.ofNat (nd * 64)) + (0 : Int32) = Int32.ofNat (nd * 64) from own_na (nd * 64) (0)]
    show Steps p.tables e below (T10.setTop (mkF m 386 #[vR a1, vN (tr), vN (sv), vJ kh, .second, vJ kl, .second, vN (nd), vN (l0), vI (-1), vN (lf), uu, uu, uu, uu, uu] [(.int (Int32.ofNat (nd * 64)))])) _
    refine XS.istore X10.here hx rfl (hb hby d7_386) rfl (l' := #[vR a1, vN (tr), vN (sv), vJ kh, .second, vJ kl, .second, vN (nd), vN (l0), vI (-1), vN (lf), vN (nd * 64), uu, uu, uu, uu]) rfl ?_
    refine XS.aloadN X10.here hx rfl (hb hby d7_388) rfl rfl ?_
    refine XS.aloadN X10.here hx rfl (hb hby d7_389) rfl rfl ?_
    refine st11 _ ?_
    refine XS.iload X11.here hx rfl (hb hby d7_393) rfl ?_
    refine own_ldIN X11 hx hZ e11 (Lq8.aI 4 (by decide)) (i := l0) (x := (Int32.ofNat (nd))) (by omega) (congrArg Value.int (show ((ui I 3 (lf) (0 : Int32)) 4 (l0)) = (Int32.ofNat (nd)) from Y4)) (g := (mkF m 395 #[vR a1, vN (tr), vN (sv), vJ kh, .second, vJ kl, .second, vN (nd), vN (l0), vI (-1), vN (lf), vN (nd * 64), uu, uu, uu, uu] [(.int (Int32.ofNat (l0))), (.ref (A 4)), (.ref a1)])) rfl rfl (hb hby d7_395) _ ?_
    refine XS.aloadN X11.here hx rfl (hb hby d7_396) rfl rfl ?_
    refine st12 _ ?_
    refine XS.iload X12.here hx rfl (hb hby d7_400) rfl ?_
    refine own_ldIN X12 hx hZ e12 (Lq8.aI 5 (by decide)) (i := l0) (x := (0 : Int32)) (by omega) (congrArg Value.int (show ((ui I 3 (lf) (0 : Int32)) 5 (l0)) = (0 : Int32) from Y5)) (g := (mkF m 402 #[vR a1, vN (tr), vN (sv), vJ kh, .second, vJ kl, .second, vN (nd), vN (l0), vI (-1), vN (lf), vN (nd * 64), uu, uu, uu, uu] [(.int (Int32.ofNat (l0))), (.ref (A 5)), (.int (Int32.ofNat (nd))), (.ref a1)])) rfl rfl (hb hby d7_402) _ ?_
    refine XS.iload X12.here hx rfl (hb hby d7_403) rfl ?_
    refine XS.aloadN X12.here hx rfl (hb hby d7_405) rfl rfl ?_
    show Steps p.tables e below (T12.setTop (mkF m 406 #[vR a1, vN (tr), vN (sv), vJ kh, .second, vJ kl, .second, vN (nd), vN (l0), vI (-1), vN (lf), vN (nd * 64), uu, uu, uu, uu] [(.ref a1), (.int (Int32.ofNat (lf))), (.int (0 : Int32)), (.int (Int32.ofNat (nd))), (.ref a1)])) _
    refine st13 _ ?_
    refine XS.iload X13.here hx rfl (hb hby d7_409) rfl ?_
    refine own_ldJN X13 hx hZ e13 (Lq8.aJ 20 (by decide) (by decide)) (i := nd * 64) (x := f20) (by omega) (congrArg Value.long (show ((ui (ui J 17 (lf) kh) 18 (lf) kl) 20 (nd * 64)) = f20 from Y20)) (g := (mkF m 411 #[vR a1, vN (tr), vN (sv), vJ kh, .second, vJ kl, .second, vN (nd), vN (l0), vI (-1), vN (lf), vN (nd * 64), uu, uu, uu, uu] [(.int (Int32.ofNat (nd * 64))), (.ref (A 20)), (.int (Int32.ofNat (lf))), (.int (0 : Int32)), (.int (Int32.ofNat (nd))), (.ref a1)])) rfl rfl (hb hby d7_411) _ ?_
    refine XS.aloadN X13.here hx rfl (hb hby d7_412) rfl rfl ?_
    refine st14 _ ?_
    refine XS.iload X14.here hx rfl (hb hby d7_416) rfl ?_
    refine own_ldJN X14 hx hZ e14 (Lq8.aJ 21 (by decide) (by decide)) (i := nd * 64) (x := f21) (by omega) (congrArg Value.long (show ((ui (ui J 17 (lf) kh) 18 (lf) kl) 21 (nd * 64)) = f21 from Y21)) (g := (mkF m 418 #[vR a1, vN (tr), vN (sv), vJ kh, .second, vJ kl, .second, vN (nd), vN (l0), vI (-1), vN (lf), vN (nd * 64), uu, uu, uu, uu] [(.int (Int32.ofNat (nd * 64))), (.ref (A 21)), (.long f20), (.int (Int32.ofNat (lf))), (.int (0 : Int32)), (.int (Int32.ofNat (nd))), (.ref a1)])) rfl rfl (hb hby d7_418) _ ?_
    refine XS.aloadN X14.here hx rfl (hb hby d7_419) rfl rfl ?_
    refine st15 _ ?_
    refine XS.iload X15.here hx rfl (hb hby d7_423) rfl ?_
    refine own_ldIN X15 hx hZ e15 (Lq8.aI 10 (by decide)) (i := nd * 64) (x := f10) (by omega) (congrArg Value.int (show ((ui I 3 (lf) (0 : Int32)) 10 (nd * 64)) = f10 from Y10)) (g := (mkF m 425 #[vR a1, vN (tr), vN (sv), vJ kh, .second, vJ kl, .second, vN (nd), vN (l0), vI (-1), vN (lf), vN (nd * 64), uu, uu, uu, uu] [(.int (Int32.ofNat (nd * 64))), (.ref (A 10)), (.long f21), (.long f20), (.int (Int32.ofNat (lf))), (.int (0 : Int32)), (.int (Int32.ofNat (nd))), (.ref a1)])) rfl rfl (hb hby d7_425) _ ?_
    refine st16.trans ?_
    show Steps p.tables e below (T16.setTop (mkF m 429 #[vR a1, vN (tr), vN (sv), vJ kh, .second, vJ kl, .second, vN (nd), vN (l0), vI (-1), vN (lf), vN (nd * 64), uu, uu, uu, uu] [])) _
    refine XS.aloadN X16.here hx rfl (hb hby d7_429) rfl rfl ?_
    refine XS.iload X16.here hx rfl (hb hby d7_430) rfl ?_
    refine XS.aloadN X16.here hx rfl (hb hby d7_432) rfl rfl ?_
    refine st17 _ ?_
    refine XS.iload X17.here hx rfl (hb hby d7_436) rfl ?_
    refine own_ldJN X17 hx hZ e17 (Lq16.aJ 17 (by decide) (by decide)) (i := l0) (x := kh0) (by omega) (congrArg Value.long (show ((adJ (ui (ui J 17 (lf) kh) 18 (lf) kl) nd (0) n f20 f21) 17 (l0)) = kh0 from (Eq.trans (own_JL J lf l0 kh kl hne).1 Y17))) (g := (mkF m 438 #[vR a1, vN (tr), vN (sv), vJ kh, .second, vJ kl, .second, vN (nd), vN (l0), vI (-1), vN (lf), vN (nd * 64), uu, uu, uu, uu] [(.int (Int32.ofNat (l0))), (.ref (A 17)), (.int (Int32.ofNat (l0))), (.ref a1)])) rfl rfl (hb hby d7_438) _ ?_
    refine XS.aloadN X17.here hx rfl (hb hby d7_439) rfl rfl ?_
    refine st18 _ ?_
    refine XS.iload X18.here hx rfl (hb hby d7_443) rfl ?_
    refine own_ldJN X18 hx hZ e18 (Lq16.aJ 18 (by decide) (by decide)) (i := l0) (x := kl0) (by omega) (congrArg Value.long (show ((adJ (ui (ui J 17 (lf) kh) 18 (lf) kl) nd (0) n f20 f21) 18 (l0)) = kl0 from (Eq.trans (own_JL J lf l0 kh kl hne).2 Y18))) (g := (mkF m 445 #[vR a1, vN (tr), vN (sv), vJ kh, .second, vJ kl, .second, vN (nd), vN (l0), vI (-1), vN (lf), vN (nd * 64), uu, uu, uu, uu] [(.int (Int32.ofNat (l0))), (.ref (A 18)), (.long kh0), (.int (Int32.ofNat (l0))), (.ref a1)])) rfl rfl (hb hby d7_445) _ ?_
    refine XS.iconst X18.here hx rfl (hb hby d7_446) ?_
    refine st19.trans ?_
    show Steps p.tables e below (T19.setTop (mkF m 450 #[vR a1, vN (tr), vN (sv), vJ kh, .second, vJ kl, .second, vN (nd), vN (l0), vI (-1), vN (lf), vN (nd * 64), uu, uu, uu, uu] [])) _
    refine XS.iload X19.here hx rfl (hb hby d7_450) rfl ?_
    refine XS.istore X19.here hx rfl (hb hby d7_452) rfl (l' := #[vR a1, vN (tr), vN (sv), vJ kh, .second, vJ kl, .second, vN (nd), vN (lf), vI (-1), vN (lf), vN (nd * 64), uu, uu, uu, uu]) rfl ?_
    exact kt
theorem d7_454 : decode q13 454 = .ok (.aload_n 0, 1) := by decide +kernel
theorem d7_455 : decode q13 455 = .ok (.getfield 34, 3) := by decide +kernel
theorem d7_458 : decode q13 458 = .ok (.iload 8, 2) := by decide +kernel
theorem d7_460 : decode q13 460 = .ok (.iaload, 1) := by decide +kernel
theorem d7_461 : decode q13 461 = .ok (.bipush 64, 2) := by decide +kernel
theorem d7_463 : decode q13 463 = .ok (.if_icmp .ne 28, 3) := by decide +kernel
theorem d7_491 : decode q13 491 = .ok (.aload_n 0, 1) := by decide +kernel
theorem d7_492 : decode q13 492 = .ok (.getfield 30, 3) := by decide +kernel
theorem d7_495 : decode q13 495 = .ok (.iload 8, 2) := by decide +kernel
theorem d7_497 : decode q13 497 = .ok (.aaload, 1) := by decide +kernel
theorem d7_498 : decode q13 498 = .ok (.astore 9, 2) := by decide +kernel
theorem d7_500 : decode q13 500 = .ok (.aload_n 0, 1) := by decide +kernel
theorem d7_501 : decode q13 501 = .ok (.getfield 34, 3) := by decide +kernel
theorem d7_504 : decode q13 504 = .ok (.iload 8, 2) := by decide +kernel
theorem d7_506 : decode q13 506 = .ok (.iaload, 1) := by decide +kernel
theorem d7_507 : decode q13 507 = .ok (.istore 10, 2) := by decide +kernel
theorem d7_509 : decode q13 509 = .ok (.iload 10, 2) := by decide +kernel
theorem d7_511 : decode q13 511 = .ok (.aload 9, 2) := by decide +kernel
theorem d7_513 : decode q13 513 = .ok (.arraylength, 1) := by decide +kernel
theorem d7_514 : decode q13 514 = .ok (.if_icmp .ne 28, 3) := by decide +kernel
theorem d7_542 : decode q13 542 = .ok (.iload 8, 2) := by decide +kernel
theorem d7_544 : decode q13 544 = .ok (.bipush 64, 2) := by decide +kernel
theorem d7_546 : decode q13 546 = .ok (.imul, 1) := by decide +kernel
theorem d7_547 : decode q13 547 = .ok (.istore 11, 2) := by decide +kernel
theorem d7_549 : decode q13 549 = .ok (.iload 10, 2) := by decide +kernel
theorem d7_551 : decode q13 551 = .ok (.istore 12, 2) := by decide +kernel
theorem os7_498_a3 {z0 : Value} {z1 : Value} {z2 : Value} {z3 : Value} {z5 : Value} {s7 : Slot} {z8 : Value} {s9 : Slot} {s10 : Slot} {s11 : Slot} {s12 : Slot} {s13 : Slot} {s14 : Slot} {s15 : Slot} {v : Addr} (h : One s9) : storeLocals #[.val z0, .val z1, .val z2, .val z3, .second, .val z5, .second, s7, .val z8, s9, s10, s11, s12, s13, s14, s15] 9 (.ref v) = some #[.val z0, .val z1, .val z2, .val z3, .second, .val z5, .second, s7, .val z8, vR v, s10, s11, s12, s13, s14, s15] := by
  rcases h with rfl | ⟨w, rfl, hw⟩
  · rfl
  · cases w <;> first | rfl | (simp [Value.category] at hw)
theorem os7_507_a5 {z0 : Value} {z1 : Value} {z2 : Value} {z3 : Value} {z5 : Value} {s7 : Slot} {z8 : Value} {z9 : Value} {s10 : Slot} {s11 : Slot} {s12 : Slot} {s13 : Slot} {s14 : Slot} {s15 : Slot} {v : Int32} (h : One s10) : storeLocals #[.val z0, .val z1, .val z2, .val z3, .second, .val z5, .second, s7, .val z8, .val z9, s10, s11, s12, s13, s14, s15] 10 (.int v) = some #[.val z0, .val z1, .val z2, .val z3, .second, .val z5, .second, s7, .val z8, .val z9, .val (.int v), s11, s12, s13, s14, s15] := by
  rcases h with rfl | ⟨w, rfl, hw⟩
  · rfl
  · cases w <;> first | rfl | (simp [Value.category] at hw)
theorem os7_547_a6 {z0 : Value} {z1 : Value} {z2 : Value} {z3 : Value} {z5 : Value} {s7 : Slot} {z8 : Value} {z9 : Value} {z10 : Value} {s11 : Slot} {s12 : Slot} {s13 : Slot} {s14 : Slot} {s15 : Slot} {v : Int32} (h : One s11) : storeLocals #[.val z0, .val z1, .val z2, .val z3, .second, .val z5, .second, s7, .val z8, .val z9, .val z10, s11, s12, s13, s14, s15] 11 (.int v) = some #[.val z0, .val z1, .val z2, .val z3, .second, .val z5, .second, s7, .val z8, .val z9, .val z10, .val (.int v), s12, s13, s14, s15] := by
  rcases h with rfl | ⟨w, rfl, hw⟩
  · rfl
  · cases w <;> first | rfl | (simp [Value.category] at hw)
theorem os7_551_a7 {z0 : Value} {z1 : Value} {z2 : Value} {z3 : Value} {z5 : Value} {s7 : Slot} {z8 : Value} {z9 : Value} {z10 : Value} {z11 : Value} {s12 : Slot} {s13 : Slot} {s14 : Slot} {s15 : Slot} {v : Int32} (h : One s12) : storeLocals #[.val z0, .val z1, .val z2, .val z3, .second, .val z5, .second, s7, .val z8, .val z9, .val z10, .val z11, s12, s13, s14, s15] 12 (.int v) = some #[.val z0, .val z1, .val z2, .val z3, .second, .val z5, .second, s7, .val z8, .val z9, .val z10, .val z11, .val (.int v), s13, s14, s15] := by
  rcases h with rfl | ⟨w, rfl, hw⟩
  · rfl
  · cases w <;> first | rfl | (simp [Value.category] at hw)
set_option maxRecDepth 65536 in
set_option maxHeartbeats 40000000 in
theorem sgC1 {p : Program} {l : Launch} {e : Env} {R : Room} {s : State} {m : MethodId} {args : Array Value} {below : List Frame} {meth : Method} {c : Code} {T0 : State} {locs : List Loc} {cells slots : Nat} {Z : State} {a0 : Array Value} {h0 : Heap} (a1 : Addr) (A : Nat → Addr) (N : Nat → Nat) (I : Nat → Nat → Int32) (J : Nat → Nat → Int64) (cc : Nat → Int32) (M : Nat → Option Addr) (B : Nat → Nat → Int32) (nb nd tr sv lf k1 : Nat) (kh kl : Int64) (b1 : Addr) (s7 s9 s10 s11 s12 s13 s14 s15 : Slot)
    (X0 : Stand p l e R s m args below meth c T0 locs cells slots) (hx : p.tables.exec = Jvm.exec) (hZ : Z.Warmed39 s.vm) (hw : ∀ d ∈ tables_1, d.before a0 Z = true) (hby : c.code = prog_74_method_2_code) (hml : c.maxLocals = 16) (hown : s.vm.findClass "com/example/ebbtide/ebbtide/cluster/LoadTrees" = some m.cls) (e0 : T0.heap = h0) (n0 : Nat) (N0 : Fr n0 locs) (Z0 : n0 ≤ h0.size) (L0 : LT Z h0 n0 a1 A N I J cc M B) (hS : SZ N nb) (hnd : nd < nb) (hnb : nb < 1000) (hsv : sv < 3) (hlf : lf < 4) (hM : M lf = some b1) (Y3 : I 3 lf = Int32.ofNat k1) (hk1 : k1 < 4) (hs9 : One s9) (hs10 : One s10) (hs11 : One s11) (hs12 : One s12) :
    ∃ (T' : State) (h' : Heap) (L' : List Loc), Stand p l e R s m args below meth c T' L' cells slots ∧ T'.heap = h' ∧ Fr n0 L' ∧ KN n0 h0 h' ∧ h' = h0 ∧ (∀ t, Steps p.tables e below (T'.setTop (mkF m 553 #[vR a1, vN (tr), vN (sv), vJ kh, .second, vJ kl, .second, s7, vN (lf), vR b1, vN (k1), vN (lf * 64), vN (k1), s13, s14, s15] [])) t → Steps p.tables e below (T0.setTop (mkF m 454 #[vR a1, vN (tr), vN (sv), vJ kh, .second, vJ kl, .second, s7, vN (lf), s9, s10, s11, s12, s13, s14, s15] [])) t) := by
  obtain ⟨S0, S1, S2, S3, S4, S5, S6, S7, S8, S9, S10, S11, S12, S13, S14, S15, S16, S17, S18, S19, S20, S21, S22⟩ := hS
  obtain ⟨T1, X1, e1, st1⟩ := getF X0 hx hZ hown (host := "") (Or.inl (tw hw 38 rfl)) Via.refl e0 (L0.FI 3 (by decide) rfl) (g := (mkF m 455 #[vR a1, vN (tr), vN (sv), vJ kh, .second, vJ kl, .second, s7, vN (lf), s9, s10, s11, s12, s13, s14, s15] [(.ref a1)])) rfl rfl (hb hby d7_455)
  obtain ⟨T2, X2, e2, st2⟩ := getF X1 hx hZ hown (host := "") (Or.inl (tw hw 36 rfl)) Via.refl e1 L0.FM (g := (mkF m 492 #[vR a1, vN (tr), vN (sv), vJ kh, .second, vJ kl, .second, s7, vN (lf), s9, s10, s11, s12, s13, s14, s15] [(.ref a1)])) rfl rfl (hb hby d7_492)
  obtain ⟨T4, X4, e4, st4⟩ := getF X2 hx hZ hown (host := "") (Or.inl (tw hw 38 rfl)) Via.refl e2 (L0.FI 3 (by decide) rfl) (g := (mkF m 501 #[vR a1, vN (tr), vN (sv), vJ kh, .second, vJ kl, .second, s7, vN (lf), vR b1, s10, s11, s12, s13, s14, s15] [(.ref a1)])) rfl rfl (hb hby d7_501)
  refine ⟨T4, _, _, X4, e4, N0, (KN.refl n0 h0), rfl, fun t kt => ?_⟩
  · show Steps p.tables e below (T0.setTop (mkF m 454 #[vR a1, vN (tr), vN (sv), vJ kh, .second, vJ kl, .second, s7, vN (lf), s9, s10, s11, s12, s13, s14, s15] [])) _
    refine XS.aloadN X0.here hx rfl (hb hby d7_454) rfl rfl ?_
    refine st1 _ ?_
    refine XS.iload X1.here hx rfl (hb hby d7_458) rfl ?_
    refine own_ldIN X1 hx hZ e1 (L0.aI 3 (by decide)) (i := lf) (x := (Int32.ofNat (k1))) (by omega) (congrArg Value.int (show (I 3 (lf)) = (Int32.ofNat (k1)) from Y3)) (g := (mkF m 460 #[vR a1, vN (tr), vN (sv), vJ kh, .second, vJ kl, .second, s7, vN (lf), s9, s10, s11, s12, s13, s14, s15] [(.int (Int32.ofNat (lf))), (.ref (A 3))])) rfl rfl (hb hby d7_460) _ ?_
    refine XS.bipush X1.here hx rfl (hb hby d7_461) ?_
    refine XS.icmpYes X1.here hx rfl (pc0 := 463) (pc' := 491) rfl (hb hby d7_463) rfl (feq (own_nne (a := k1) (b := 64) (by omega) (by omega) (by omega))).2 (by decide) (by decide) ?_
    refine XS.aloadN X1.here hx rfl (hb hby d7_491) rfl rfl ?_
    refine st2 _ ?_
    refine XS.iload X2.here hx rfl (hb hby d7_495) rfl ?_
    refine own_ldAN X2 hx hZ e2 L0.Mo.1 rfl (i := lf) (v := (.ref b1)) (by omega) (own_mref hM) (g := (mkF m 497 #[vR a1, vN (tr), vN (sv), vJ kh, .second, vJ kl, .second, s7, vN (lf), s9, s10, s11, s12, s13, s14, s15] [(.int (Int32.ofNat (lf))), (.ref (A 22))])) rfl rfl (hb hby d7_497) _ ?_
    refine XS.astore X2.here hx rfl (hb hby d7_498) rfl rfl (l' := #[vR a1, vN (tr), vN (sv), vJ kh, .second, vJ kl, .second, s7, vN (lf), vR b1, s10, s11, s12, s13, s14, s15]) (os7_498_a3 hs9) ?_
    refine XS.aloadN X2.here hx rfl (hb hby d7_500) rfl rfl ?_
    show Steps p.tables e below (T2.setTop (mkF m 501 #[vR a1, vN (tr), vN (sv), vJ kh, .second, vJ kl, .second, s7, vN (lf), vR b1, s10, s11, s12, s13, s14, s15] [(.ref a1)])) _
    refine st4 _ ?_
    refine XS.iload X4.here hx rfl (hb hby d7_504) rfl ?_
    refine own_ldIN X4 hx hZ e4 (L0.aI 3 (by decide)) (i := lf) (x := (Int32.ofNat (k1))) (by omega) (congrArg Value.int (show (I 3 (lf)) = (Int32.ofNat (k1)) from Y3)) (g := (mkF m 506 #[vR a1, vN (tr), vN (sv), vJ kh, .second, vJ kl, .second, s7, vN (lf), vR b1, s10, s11, s12, s13, s14, s15] [(.int (Int32.ofNat (lf))), (.ref (A 3))])) rfl rfl (hb hby d7_506) _ ?_
    refine XS.istore X4.here hx rfl (hb hby d7_507) rfl (l' := #[vR a1, vN (tr), vN (sv), vJ kh, .second, vJ kl, .second, s7, vN (lf), vR b1, vN (k1), s11, s12, s13, s14, s15]) (os7_507_a5 hs10) ?_
    refine XS.iload X4.here hx rfl (hb hby d7_509) rfl ?_
    refine XS.aload X4.here hx rfl (hb hby d7_511) rfl rfl ?_
    refine own_len X4 hx hZ e4 (L0.Bo (by omega) hM) (z := (4 : Int32)) rfl (g := (mkF m 513 #[vR a1, vN (tr), vN (sv), vJ kh, .second, vJ kl, .second, s7, vN (lf), vR b1, vN (k1), s11, s12, s13, s14, s15] [(.ref b1), (.int (Int32.ofNat (k1)))])) rfl rfl (hb hby d7_513) _ ?_
    refine XS.icmpYes X4.here hx rfl (pc0 := 514) (pc' := 542) rfl (hb hby d7_514) rfl (feq (own_nne (a := k1) (b := 4) (by omega) (by omega) (by omega))).2 (by decide) (by decide) ?_
    refine XS.iload X4.here hx rfl (hb hby d7_542) rfl ?_
    refine XS.bipush X4.here hx rfl (hb hby d7_544) ?_
    refine XS.imul X4.here hx rfl (hb hby d7_546) rfl ?_
    show Steps p.tables e below (T4.setTop (mkF m 547 #[vR a1, vN (tr), vN (sv), vJ kh, .second, vJ kl, .second, s7, vN (lf), vR b1, vN (k1), s11, s12, s13, s14, s15] [(.int ((Int32.ofNat (lf)) * (64 : Int32)))])) _
    rw [show (Int32.ofNat (lf)) * (64 : Int32) = Int32.ofNat (lf * 64) from own_nm (lf) (64)]
    show Steps p.tables e below (T4.setTop (mkF m 547 #[vR a1, vN (tr), vN (sv), vJ kh, .second, vJ kl, .second, s7, vN (lf), vR b1, vN (k1), s11, s12, s13, s14, s15] [(.int (Int32.ofNat (lf * 64)))])) _
    refine XS.istore X4.here hx rfl (hb hby d7_547) rfl (l' := #[vR a1, vN (tr), vN (sv), vJ kh, .second, vJ kl, .second, s7, vN (lf), vR b1, vN (k1), vN (lf * 64), s12, s13, s14, s15]) (os7_547_a6 hs11) ?_
    refine XS.iload X4.here hx rfl (hb hby d7_549) rfl ?_
    refine XS.istore X4.here hx rfl (hb hby d7_551) rfl (l' := #[vR a1, vN (tr), vN (sv), vJ kh, .second, vJ kl, .second, s7, vN (lf), vR b1, vN (k1), vN (lf * 64), vN (k1), s13, s14, s15]) (os7_551_a7 hs12) ?_
    exact kt
theorem d7_553 : decode q13 553 = .ok (.iload 12, 2) := by decide +kernel
theorem d7_555 : decode q13 555 = .ok (.ifCond .le 47, 3) := by decide +kernel
theorem d7_558 : decode q13 558 = .ok (.aload 9, 2) := by decide +kernel
theorem d7_560 : decode q13 560 = .ok (.iload 12, 2) := by decide +kernel
theorem d7_562 : decode q13 562 = .ok (.iconst 1, 1) := by decide +kernel
theorem d7_563 : decode q13 563 = .ok (.isub, 1) := by decide +kernel
theorem d7_564 : decode q13 564 = .ok (.iaload, 1) := by decide +kernel
theorem d7_565 : decode q13 565 = .ok (.iload_n 2, 1) := by decide +kernel
theorem d7_566 : decode q13 566 = .ok (.if_icmp .le 36, 3) := by decide +kernel
theorem d7_569 : decode q13 569 = .ok (.aload 9, 2) := by decide +kernel
theorem d7_571 : decode q13 571 = .ok (.iload 12, 2) := by decide +kernel
theorem d7_573 : decode q13 573 = .ok (.aload 9, 2) := by decide +kernel
theorem d7_575 : decode q13 575 = .ok (.iload 12, 2) := by decide +kernel
theorem d7_577 : decode q13 577 = .ok (.iconst 1, 1) := by decide +kernel
theorem d7_578 : decode q13 578 = .ok (.isub, 1) := by decide +kernel
theorem d7_579 : decode q13 579 = .ok (.iaload, 1) := by decide +kernel
theorem d7_580 : decode q13 580 = .ok (.iastore, 1) := by decide +kernel
theorem d7_581 : decode q13 581 = .ok (.aload_n 0, 1) := by decide +kernel
theorem d7_582 : decode q13 582 = .ok (.getfield 17, 3) := by decide +kernel
theorem d7_585 : decode q13 585 = .ok (.aload 9, 2) := by decide +kernel
theorem d7_587 : decode q13 587 = .ok (.iload 12, 2) := by decide +kernel
theorem d7_589 : decode q13 589 = .ok (.iaload, 1) := by decide +kernel
theorem d7_590 : decode q13 590 = .ok (.iload 11, 2) := by decide +kernel
theorem d7_592 : decode q13 592 = .ok (.iload 12, 2) := by decide +kernel
theorem d7_594 : decode q13 594 = .ok (.iadd, 1) := by decide +kernel
theorem d7_595 : decode q13 595 = .ok (.iastore, 1) := by decide +kernel
theorem d7_596 : decode q13 596 = .ok (.iinc 12 (-1), 3) := by decide +kernel
theorem d7_599 : decode q13 599 = .ok (.goto (-46), 3) := by decide +kernel
set_option maxRecDepth 65536 in
set_option maxHeartbeats 40000000 in
theorem sgCt {p : Program} {l : Launch} {e : Env} {R : Room} {s : State} {m : MethodId} {args : Array Value} {below : List Frame} {meth : Method} {c : Code} {T0 : State} {locs : List Loc} {cells slots : Nat} {Z : State} {a0 : Array Value} {h0 : Heap} (a1 : Addr) (A : Nat → Addr) (N : Nat → Nat) (I : Nat → Nat → Int32) (J : Nat → Nat → Int64) (cc : Nat → Int32) (M : Nat → Option Addr) (B : Nat → Nat → Int32) (nb nd tr sv lf k1 : Nat) (kh kl : Int64) (b1 : Addr) (s7 s13 s14 s15 : Slot) (i1 mm : Nat)
    (X0 : Stand p l e R s m args below meth c T0 locs cells slots) (hx : p.tables.exec = Jvm.exec) (hZ : Z.Warmed39 s.vm) (hw : ∀ d ∈ tables_1, d.before a0 Z = true) (hby : c.code = prog_74_method_2_code) (hml : c.maxLocals = 16) (hown : s.vm.findClass "com/example/ebbtide/ebbtide/cluster/LoadTrees" = some m.cls) (e0 : T0.heap = h0) (n0 : Nat) (N0 : Fr n0 locs) (Z0 : n0 ≤ h0.size) (L0 : LT Z h0 n0 a1 A N I J cc M B) (hS : SZ N nb) (hnd : nd < nb) (hnb : nb < 1000) (hsv : sv < 3) (hlf : lf < 4) (hM : M lf = some b1) (hi1 : i1 + 1 < 4) (hB : B lf i1 = Int32.ofNat mm) (hmm : mm < 3) (hgt : sv < mm) :
    ∃ (T' : State) (h' : Heap) (L' : List Loc), Stand p l e R s m args below meth c T' L' cells slots ∧ T'.heap = h' ∧ Fr n0 L' ∧ KN n0 h0 h' ∧ LT Z h' n0 a1 A N (ui I 1 (mm) (Int32.ofNat (lf * 64 + (i1 + 1)))) J cc M (ui B (lf) (i1 + 1) (Int32.ofNat (mm))) ∧ (∀ t, Steps p.tables e below (T'.setTop (mkF m 553 #[vR a1, vN (tr), vN (sv), vJ kh, .second, vJ kl, .second, s7, vN (lf), vR b1, vN (k1), vN (lf * 64), vN (i1), s13, s14, s15] [])) t → Steps p.tables e below (T0.setTop (mkF m 553 #[vR a1, vN (tr), vN (sv), vJ kh, .second, vJ kl, .second, s7, vN (lf), vR b1, vN (k1), vN (lf * 64), vN (i1 + 1), s13, s14, s15] [])) t) := by
  obtain ⟨S0, S1, S2, S3, S4, S5, S6, S7, S8, S9, S10, S11, S12, S13, S14, S15, S16, S17, S18, S19, S20, S21, S22⟩ := hS
  obtain ⟨T1, h1, X1, e1, W1, st1⟩ := own_stIN X0 hx hZ e0 (L0.Bo (by omega) hM) (i := i1 + 1) (by omega) (g := (mkF m 580 #[vR a1, vN (tr), vN (sv), vJ kh, .second, vJ kl, .second, s7, vN (lf), vR b1, vN (k1), vN (lf * 64), vN (i1 + 1), s13, s14, s15] [(.int (Int32.ofNat (mm))), (.int (Int32.ofNat (i1 + 1))), (.ref b1)])) rfl rfl (hb hby d7_580)
  have K1 : KN n0 h0 h1 := (KN.refl n0 h0).trans (KN.wr W1 (L0.gB (by omega) hM))
  have N1 := Fr.snoc X1 N0 (L0.gB (by omega) hM)
  have Z1 : n0 ≤ h1.size := Nat.le_trans Z0 (Keep.of_wr W1).1
  have Lq1 := L0.wrB (by omega) hM W1
  obtain ⟨T2, X2, e2, st2⟩ := getF X1 hx hZ hown (host := "") (Or.inl (tw hw 26 rfl)) Via.refl e1 (Lq1.FI 1 (by decide) rfl) (g := (mkF m 582 #[vR a1, vN (tr), vN (sv), vJ kh, .second, vJ kl, .second, s7, vN (lf), vR b1, vN (k1), vN (lf * 64), vN (i1 + 1), s13, s14, s15] [(.ref a1)])) rfl rfl (hb hby d7_582)
  obtain ⟨T3, h3, X3, e3, W3, st3⟩ := own_stIN X2 hx hZ e2 (Lq1.aI 1 (by decide)) (i := mm) (by omega) (g := (mkF m 595 #[vR a1, vN (tr), vN (sv), vJ kh, .second, vJ kl, .second, s7, vN (lf), vR b1, vN (k1), vN (lf * 64), vN (i1 + 1), s13, s14, s15] [(.int (Int32.ofNat (lf * 64 + (i1 + 1)))), (.int (Int32.ofNat (mm))), (.ref (A 1))])) rfl rfl (hb hby d7_595)
  have K3 : KN n0 h0 h3 := K1.trans (KN.wr W3 (Lq1.gA 1 (by decide)))
  have N3 := Fr.snoc X3 N1 (Lq1.gA 1 (by decide))
  have Z3 : n0 ≤ h3.size := Nat.le_trans Z1 (Keep.of_wr W3).1
  have Lq3 := Lq1.wrI (k := 1) (by decide) W3
  refine ⟨T3, h3, _, X3, e3, N3, K3, Lq3, fun t kt => ?_⟩
  · show Steps p.tables e below (T0.setTop (mkF m 553 #[vR a1, vN (tr), vN (sv), vJ kh, .second, vJ kl, .second, s7, vN (lf), vR b1, vN (k1), vN (lf * 64), vN (i1 + 1), s13, s14, s15] [])) _
    refine XS.iload X0.here hx rfl (hb hby d7_553) rfl ?_
    refine XS.ifNo X0.here hx rfl (hb hby d7_555) rfl ((if0 _ _).trans (tlt (own_nlt (a := 0) (b := i1 + 1) (by omega) (by omega))).2.2.2) ?_
    refine XS.aload X0.here hx rfl (hb hby d7_558) rfl rfl ?_
    refine XS.iload X0.here hx rfl (hb hby d7_560) rfl ?_
    refine XS.iconst X0.here hx rfl (hb hby d7_562) ?_
    refine XS.isub X0.here hx rfl (hb hby d7_563) rfl ?_
    show Steps p.tables e below (T0.setTop (mkF m 564 #[vR a1, vN (tr), vN (sv), vJ kh, .second, vJ kl, .second, s7, vN (lf), vR b1, vN (k1), vN (lf * 64), vN (i1 + 1), s13, s14, s15] [(.int ((Int32.ofNat (i1 + 1)) - (1 : Int32))), (.ref b1)])) _
    rw [show (Int32.ofNat (i1 + 1)) - (1 : Int32) = Int32.ofNat (i1) from own_dec1 (i1)]
    show Steps p.tables e below (T0.setTop (mkF m 564 #[vR a1, vN (tr), vN (sv), vJ kh, .second, vJ kl, .second, s7, vN (lf), vR b1, vN (k1), vN (lf * 64), vN (i1 + 1), s13, s14, s15] [(.int (Int32.ofNat (i1))), (.ref b1)])) _
    refine own_ldIN X0 hx hZ e0 (L0.Bo (by omega) hM) (i := i1) (x := (Int32.ofNat (mm))) (by omega) (congrArg Value.int (show (B (lf) (i1)) = (Int32.ofNat (mm)) from hB)) (g := (mkF m 564 #[vR a1, vN (tr), vN (sv), vJ kh, .second, vJ kl, .second, s7, vN (lf), vR b1, vN (k1), vN (lf * 64), vN (i1 + 1), s13, s14, s15] [(.int (Int32.ofNat (i1))), (.ref b1)])) rfl rfl (hb hby d7_564) _ ?_
    refine XS.iloadN X0.here hx rfl (hb hby d7_565) rfl ?_
    refine XS.icmpNo X0.here hx rfl (hb hby d7_566) rfl (tlt (own_nlt hgt (by omega))).2.2.2 ?_
    refine XS.aload X0.here hx rfl (hb hby d7_569) rfl rfl ?_
    refine XS.iload X0.here hx rfl (hb hby d7_571) rfl ?_
    refine XS.aload X0.here hx rfl (hb hby d7_573) rfl rfl ?_
    refine XS.iload X0.here hx rfl (hb hby d7_575) rfl ?_
    refine XS.iconst X0.here hx rfl (hb hby d7_577) ?_
    refine XS.isub X0.here hx rfl (hb hby d7_578) rfl ?_
    show Steps p.tables e below (T0.setTop (mkF m 579 #[vR a1, vN (tr), vN (sv), vJ kh, .second, vJ kl, .second, s7, vN (lf), vR b1, vN (k1), vN (lf * 64), vN (i1 + 1), s13, s14, s15] [(.int ((Int32.ofNat (i1 + 1)) - (1 : Int32))), (.ref b1), (.int (Int32.ofNat (i1 + 1))), (.ref b1)])) _
    rw [show (Int32.ofNat (i1 + 1)) - (1 : Int32) = Int32.ofNat (i1) from own_dec1 (i1)]
    show Steps p.tables e below (T0.setTop (mkF m 579 #[vR a1, vN (tr), vN (sv), vJ kh, .second, vJ kl, .second, s7, vN (lf), vR b1, vN (k1), vN (lf * 64), vN (i1 + 1), s13, s14, s15] [(.int (Int32.ofNat (i1))), (.ref b1), (.int (Int32.ofNat (i1 + 1))), (.ref b1)])) _
    refine own_ldIN X0 hx hZ e0 (L0.Bo (by omega) hM) (i := i1) (x := (Int32.ofNat (mm))) (by omega) (congrArg Value.int (show (B (lf) (i1)) = (Int32.ofNat (mm)) from hB)) (g := (mkF m 579 #[vR a1, vN (tr), vN (sv), vJ kh, .second, vJ kl, .second, s7, vN (lf), vR b1, vN (k1), vN (lf * 64), vN (i1 + 1), s13, s14, s15] [(.int (Int32.ofNat (i1))), (.ref b1), (.int (Int32.ofNat (i1 + 1))), (.ref b1)])) rfl rfl (hb hby d7_579) _ ?_
    refine st1 _ ?_
    refine XS.aloadN X1.here hx rfl (hb hby d7_581) rfl rfl ?_
    refine st2 _ ?_
    refine XS.aload X2.here hx rfl (hb hby d7_585) rfl rfl ?_
    refine XS.iload X2.here hx rfl (hb hby d7_587) rfl ?_
    refine own_ldIN X2 hx hZ e2 (Lq1.Bo (by omega) hM) (i := i1 + 1) (x := (Int32.ofNat (mm))) (by omega) (congrArg Value.int (show ((ui B (lf) (i1 + 1) (Int32.ofNat (mm))) (lf) (i1 + 1)) = (Int32.ofNat (mm)) from (own_ui B lf (i1 + 1) _))) (g := (mkF m 589 #[vR a1, vN (tr), vN (sv), vJ kh, .second, vJ kl, .second, s7, vN (lf), vR b1, vN (k1), vN (lf * 64), vN (i1 + 1), s13, s14, s15] [(.int (Int32.ofNat (i1 + 1))), (.ref b1), (.ref (A 1))])) rfl rfl (hb hby d7_589) _ ?_
    refine XS.iload X2.here hx rfl (hb hby d7_590) rfl ?_
    refine XS.iload X2.here hx rfl (hb hby d7_592) rfl ?_
    refine XS.iadd X2.here hx rfl (hb hby d7_594) rfl ?_
    show Steps p.tables e below (T2.setTop (mkF m 595 #[vR a1, vN (tr), vN (sv), vJ kh, .second, vJ kl, .second, s7, vN (lf), vR b1, vN (k1), vN (lf * 64), vN (i1 + 1), s13, s14, s15] [(.int ((Int32.ofNat (lf * 64)) + (Int32.ofNat (i1 + 1)))), (.int (Int32.ofNat (mm))), (.ref (A 1))])) _
    rw [show (Int32.ofNat (lf * 64)) + (Int32.ofNat (i1 + 1)) = Int32.ofNat (lf * 64 + (i1 + 1)) from own_na (lf * 64) (i1 + 1)]
    show Steps p.tables e below (T2.setTop (mkF m 595 #[vR a1, vN (tr), vN (sv), vJ kh, .second, vJ kl, .second, s7, vN (lf), vR b1, vN (k1), vN (lf * 64), vN (i1 + 1), s13, s14, s15] [(.int (Int32.ofNat (lf * 64 + (i1 + 1)))), (.int (Int32.ofNat (mm))), (.ref (A 1))])) _
    refine st3 _ ?_
    refine XS.iinc X3.here hx rfl (hb hby d7_596) rfl (l' := #[vR a1, vN (tr), vN (sv), vJ kh, .second, vJ kl, .second, s7, vN (lf), vR b1, vN (k1), vN (lf * 64), .val (.int ((Int32.ofNat (i1 + 1)) + (-1 : Int32))), s13, s14, s15]) rfl ?_
    show Steps p.tables e below (T3.setTop (mkF m 599 #[vR a1, vN (tr), vN (sv), vJ kh, .second, vJ kl, .second, s7, vN (lf), vR b1, vN (k1), vN (lf * 64), .val (.int ((Int32.ofNat (i1 + 1)) + (-1 : Int32))), s13, s14, s15] [])) _
    rw [show ((Int32.ofNat (i1 + 1)) + (-1 : Int32)) = Int32.ofNat (i1) from own_dec2 (i1)]
    show Steps p.tables e below (T3.setTop (mkF m 599 #[vR a1, vN (tr), vN (sv), vJ kh, .second, vJ kl, .second, s7, vN (lf), vR b1, vN (k1), vN (lf * 64), vN (i1), s13, s14, s15] [])) _
    refine XS.goto X3.here hx rfl (pc0 := 599) (pc' := 553) rfl (hb hby d7_599) (by decide) (by decide) ?_
    exact kt
set_option maxRecDepth 65536 in
set_option maxHeartbeats 40000000 in
theorem sgCz {p : Program} {l : Launch} {e : Env} {R : Room} {s : State} {m : MethodId} {args : Array Value} {below : List Frame} {meth : Method} {c : Code} {T0 : State} {locs : List Loc} {cells slots : Nat} {Z : State} {a0 : Array Value} {h0 : Heap} (a1 : Addr) (A : Nat → Addr) (N : Nat → Nat) (I : Nat → Nat → Int32) (J : Nat → Nat → Int64) (cc : Nat → Int32) (M : Nat → Option Addr) (B : Nat → Nat → Int32) (nb nd tr sv lf k1 : Nat) (kh kl : Int64) (b1 : Addr) (s7 s13 s14 s15 : Slot)
    (X0 : Stand p l e R s m args below meth c T0 locs cells slots) (hx : p.tables.exec = Jvm.exec) (hZ : Z.Warmed39 s.vm) (hw : ∀ d ∈ tables_1, d.before a0 Z = true) (hby : c.code = prog_74_method_2_code) (hml : c.maxLocals = 16) (hown : s.vm.findClass "com/example/ebbtide/ebbtide/cluster/LoadTrees" = some m.cls) (e0 : T0.heap = h0) (n0 : Nat) (N0 : Fr n0 locs) (Z0 : n0 ≤ h0.size) (L0 : LT Z h0 n0 a1 A N I J cc M B) (hS : SZ N nb) (hnd : nd < nb) (hnb : nb < 1000) (hsv : sv < 3) (hlf : lf < 4) (hM : M lf = some b1) :
    ∃ (T' : State) (h' : Heap) (L' : List Loc), Stand p l e R s m args below meth c T' L' cells slots ∧ T'.heap = h' ∧ Fr n0 L' ∧ KN n0 h0 h' ∧ h' = h0 ∧ (∀ t, Steps p.tables e below (T'.setTop (mkF m 602 #[vR a1, vN (tr), vN (sv), vJ kh, .second, vJ kl, .second, s7, vN (lf), vR b1, vN (k1), vN (lf * 64), vI 0, s13, s14, s15] [])) t → Steps p.tables e below (T0.setTop (mkF m 553 #[vR a1, vN (tr), vN (sv), vJ kh, .second, vJ kl, .second, s7, vN (lf), vR b1, vN (k1), vN (lf * 64), vI 0, s13, s14, s15] [])) t) := by
  obtain ⟨S0, S1, S2, S3, S4, S5, S6, S7, S8, S9, S10, S11, S12, S13, S14, S15, S16, S17, S18, S19, S20, S21, S22⟩ := hS
  refine ⟨T0, _, _, X0, e0, N0, (KN.refl n0 h0), rfl, fun t kt => ?_⟩
  · show Steps p.tables e below (T0.setTop (mkF m 553 #[vR a1, vN (tr), vN (sv), vJ kh, .second, vJ kl, .second, s7, vN (lf), vR b1, vN (k1), vN (lf * 64), vI 0, s13, s14, s15] [])) _
    refine XS.iload X0.here hx rfl (hb hby d7_553) rfl ?_
    refine XS.ifYes X0.here hx rfl (pc0 := 555) (pc' := 602) rfl (hb hby d7_555) rfl ((if0 _ _).trans (flt (by decide : ¬ ((0 : Int32) < (0 : Int32)))).2.2.2) (by decide) (by decide) ?_
    exact kt
set_option maxRecDepth 65536 in
set_option maxHeartbeats 40000000 in
theorem sgCe {p : Program} {l : Launch} {e : Env} {R : Room} {s : State} {m : MethodId} {args : Array Value} {below : List Frame} {meth : Method} {c : Code} {T0 : State} {locs : List Loc} {cells slots : Nat} {Z : State} {a0 : Array Value} {h0 : Heap} (a1 : Addr) (A : Nat → Addr) (N : Nat → Nat) (I : Nat → Nat → Int32) (J : Nat → Nat → Int64) (cc : Nat → Int32) (M : Nat → Option Addr) (B : Nat → Nat → Int32) (nb nd tr sv lf k1 : Nat) (kh kl : Int64) (b1 : Addr) (s7 s13 s14 s15 : Slot) (i1 mm : Nat)
    (X0 : Stand p l e R s m args below meth c T0 locs cells slots) (hx : p.tables.exec = Jvm.exec) (hZ : Z.Warmed39 s.vm) (hw : ∀ d ∈ tables_1, d.before a0 Z = true) (hby : c.code = prog_74_method_2_code) (hml : c.maxLocals = 16) (hown : s.vm.findClass "com/example/ebbtide/ebbtide/cluster/LoadTrees" = some m.cls) (e0 : T0.heap = h0) (n0 : Nat) (N0 : Fr n0 locs) (Z0 : n0 ≤ h0.size) (L0 : LT Z h0 n0 a1 A N I J cc M B) (hS : SZ N nb) (hnd : nd < nb) (hnb : nb < 1000) (hsv : sv < 3) (hlf : lf < 4) (hM : M lf = some b1) (hi1 : i1 + 1 < 4) (hB : B lf i1 = Int32.ofNat mm) (hmm : mm < 3) (hlt : mm < sv) :
    ∃ (T' : State) (h' : Heap) (L' : List Loc), Stand p l e R s m args below meth c T' L' cells slots ∧ T'.heap = h' ∧ Fr n0 L' ∧ KN n0 h0 h' ∧ h' = h0 ∧ (∀ t, Steps p.tables e below (T'.setTop (mkF m 602 #[vR a1, vN (tr), vN (sv), vJ kh, .second, vJ kl, .second, s7, vN (lf), vR b1, vN (k1), vN (lf * 64), vN (i1 + 1), s13, s14, s15] [])) t → Steps p.tables e below (T0.setTop (mkF m 553 #[vR a1, vN (tr), vN (sv), vJ kh, .second, vJ kl, .second, s7, vN (lf), vR b1, vN (k1), vN (lf * 64), vN (i1 + 1), s13, s14, s15] [])) t) := by
  obtain ⟨S0, S1, S2, S3, S4, S5, S6, S7, S8, S9, S10, S11, S12, S13, S14, S15, S16, S17, S18, S19, S20, S21, S22⟩ := hS
  refine ⟨T0, _, _, X0, e0, N0, (KN.refl n0 h0), rfl, fun t kt => ?_⟩
  · show Steps p.tables e below (T0.setTop (mkF m 553 #[vR a1, vN (tr), vN (sv), vJ kh, .second, vJ kl, .second, s7, vN (lf), vR b1, vN (k1), vN (lf * 64), vN (i1 + 1), s13, s14, s15] [])) _
    refine XS.iload X0.here hx rfl (hb hby d7_553) rfl ?_
    refine XS.ifNo X0.here hx rfl (hb hby d7_555) rfl ((if0 _ _).trans (tlt (own_nlt (a := 0) (b := i1 + 1) (by omega) (by omega))).2.2.2) ?_
    refine XS.aload X0.here hx rfl (hb hby d7_558) rfl rfl ?_
    refine XS.iload X0.here hx rfl (hb hby d7_560) rfl ?_
    refine XS.iconst X0.here hx rfl (hb hby d7_562) ?_
    refine XS.isub X0.here hx rfl (hb hby d7_563) rfl ?_
    show Steps p.tables e below (T0.setTop (mkF m 564 #[vR a1, vN (tr), vN (sv), vJ kh, .second, vJ kl, .second, s7, vN (lf), vR b1, vN (k1), vN (lf * 64), vN (i1 + 1), s13, s14, s15] [(.int ((Int32.ofNat (i1 + 1)) - (1 : Int32))), (.ref b1)])) _
    rw [show (Int32.ofNat (i1 + 1)) - (1 : Int32) = Int32.ofNat (i1) from own_dec1 (i1)]
    show Steps p.tables e below (T0.setTop (mkF m 564 #[vR a1, vN (tr), vN (sv), vJ kh, .second, vJ kl, .second, s7, vN (lf), vR b1, vN (k1), vN (lf * 64), vN (i1 + 1), s13, s14, s15] [(.int (Int32.ofNat (i1))), (.ref b1)])) _
    refine own_ldIN X0 hx hZ e0 (L0.Bo (by omega) hM) (i := i1) (x := (Int32.ofNat (mm))) (by omega) (congrArg Value.int (show (B (lf) (i1)) = (Int32.ofNat (mm)) from hB)) (g := (mkF m 564 #[vR a1, vN (tr), vN (sv), vJ kh, .second, vJ kl, .second, s7, vN (lf), vR b1, vN (k1), vN (lf * 64), vN (i1 + 1), s13, s14, s15] [(.int (Int32.ofNat (i1))), (.ref b1)])) rfl rfl (hb hby d7_564) _ ?_
    refine XS.iloadN X0.here hx rfl (hb hby d7_565) rfl ?_
    refine XS.icmpYes X0.here hx rfl (pc0 := 566) (pc' := 602) rfl (hb hby d7_566) rfl (flt (own_nge (Nat.le_of_lt hlt) (by omega))).2.2.2 (by decide) (by decide) ?_
    exact kt
theorem d7_602 : decode q13 602 = .ok (.aload 9, 2) := by decide +kernel
theorem d7_604 : decode q13 604 = .ok (.iload 12, 2) := by decide +kernel
theorem d7_606 : decode q13 606 = .ok (.iload_n 2, 1) := by decide +kernel
theorem d7_607 : decode q13 607 = .ok (.iastore, 1) := by decide +kernel
theorem d7_608 : decode q13 608 = .ok (.aload_n 0, 1) := by decide +kernel
theorem d7_609 : decode q13 609 = .ok (.getfield 17, 3) := by decide +kernel
theorem d7_612 : decode q13 612 = .ok (.iload_n 2, 1) := by decide +kernel
theorem d7_613 : decode q13 613 = .ok (.iload 11, 2) := by decide +kernel
theorem d7_615 : decode q13 615 = .ok (.iload 12, 2) := by decide +kernel
theorem d7_617 : decode q13 617 = .ok (.iadd, 1) := by decide +kernel
theorem d7_618 : decode q13 618 = .ok (.iastore, 1) := by decide +kernel
theorem d7_619 : decode q13 619 = .ok (.aload_n 0, 1) := by decide +kernel
theorem d7_620 : decode q13 620 = .ok (.getfield 34, 3) := by decide +kernel
theorem d7_623 : decode q13 623 = .ok (.iload 8, 2) := by decide +kernel
theorem d7_625 : decode q13 625 = .ok (.iload 10, 2) := by decide +kernel
theorem d7_627 : decode q13 627 = .ok (.iconst 1, 1) := by decide +kernel
theorem d7_628 : decode q13 628 = .ok (.iadd, 1) := by decide +kernel
theorem d7_629 : decode q13 629 = .ok (.iastore, 1) := by decide +kernel
theorem d7_630 : decode q13 630 = .ok (.aload_n 0, 1) := by decide +kernel
theorem d7_631 : decode q13 631 = .ok (.getfield 43, 3) := by decide +kernel
theorem d7_634 : decode q13 634 = .ok (.iload 8, 2) := by decide +kernel
theorem d7_636 : decode q13 636 = .ok (.iaload, 1) := by decide +kernel
theorem d7_637 : decode q13 637 = .ok (.istore 13, 2) := by decide +kernel
theorem d7_639 : decode q13 639 = .ok (.iload 13, 2) := by decide +kernel
theorem d7_641 : decode q13 641 = .ok (.bipush 64, 2) := by decide +kernel
theorem d7_643 : decode q13 643 = .ok (.imul, 1) := by decide +kernel
theorem d7_644 : decode q13 644 = .ok (.aload_n 0, 1) := by decide +kernel
theorem d7_645 : decode q13 645 = .ok (.getfield 46, 3) := by decide +kernel
theorem d7_648 : decode q13 648 = .ok (.iload 8, 2) := by decide +kernel
theorem d7_650 : decode q13 650 = .ok (.iaload, 1) := by decide +kernel
theorem d7_651 : decode q13 651 = .ok (.iadd, 1) := by decide +kernel
theorem d7_652 : decode q13 652 = .ok (.istore 14, 2) := by decide +kernel
theorem d7_654 : decode q13 654 = .ok (.aload_n 0, 1) := by decide +kernel
theorem d7_655 : decode q13 655 = .ok (.getfield 55, 3) := by decide +kernel
theorem d7_658 : decode q13 658 = .ok (.iload 14, 2) := by decide +kernel
theorem d7_660 : decode q13 660 = .ok (.dup2, 1) := by decide +kernel
theorem d7_661 : decode q13 661 = .ok (.iaload, 1) := by decide +kernel
theorem d7_662 : decode q13 662 = .ok (.iconst 1, 1) := by decide +kernel
theorem d7_663 : decode q13 663 = .ok (.iadd, 1) := by decide +kernel
theorem d7_664 : decode q13 664 = .ok (.iastore, 1) := by decide +kernel
theorem d7_665 : decode q13 665 = .ok (.aload_n 0, 1) := by decide +kernel
theorem d7_666 : decode q13 666 = .ok (.getfield 9, 3) := by decide +kernel
theorem d7_669 : decode q13 669 = .ok (.iload_n 2, 1) := by decide +kernel
theorem d7_670 : decode q13 670 = .ok (.iaload, 1) := by decide +kernel
theorem d7_671 : decode q13 671 = .ok (.aload_n 0, 1) := by decide +kernel
theorem d7_672 : decode q13 672 = .ok (.getfield 58, 3) := by decide +kernel
theorem d7_675 : decode q13 675 = .ok (.iload 14, 2) := by decide +kernel
theorem d7_677 : decode q13 677 = .ok (.iaload, 1) := by decide +kernel
theorem d7_678 : decode q13 678 = .ok (.if_icmp .le 16, 3) := by decide +kernel
theorem d7_694 : decode q13 694 = .ok (.aload_n 0, 1) := by decide +kernel
theorem d7_695 : decode q13 695 = .ok (.getfield 13, 3) := by decide +kernel
theorem d7_698 : decode q13 698 = .ok (.iload_n 2, 1) := by decide +kernel
theorem d7_699 : decode q13 699 = .ok (.laload, 1) := by decide +kernel
theorem d7_700 : decode q13 700 = .ok (.aload_n 0, 1) := by decide +kernel
theorem d7_701 : decode q13 701 = .ok (.getfield 61, 3) := by decide +kernel
theorem d7_704 : decode q13 704 = .ok (.iload 14, 2) := by decide +kernel
theorem d7_706 : decode q13 706 = .ok (.laload, 1) := by decide +kernel
theorem d7_707 : decode q13 707 = .ok (.lcmp, 1) := by decide +kernel
theorem d7_708 : decode q13 708 = .ok (.ifCond .le 16, 3) := by decide +kernel
theorem d7_724 : decode q13 724 = .ok (.aload_n 0, 1) := by decide +kernel
theorem d7_725 : decode q13 725 = .ok (.getfield 79, 3) := by decide +kernel
theorem d7_728 : decode q13 728 = .ok (.iload 13, 2) := by decide +kernel
theorem d7_730 : decode q13 730 = .ok (.iaload, 1) := by decide +kernel
theorem d7_731 : decode q13 731 = .ok (.istore 15, 2) := by decide +kernel
theorem d7_733 : decode q13 733 = .ok (.iload 15, 2) := by decide +kernel
theorem d7_735 : decode q13 735 = .ok (.ifCond .ge 4, 3) := by decide +kernel
theorem os7_637_e7 {z0 : Value} {z1 : Value} {z2 : Value} {z3 : Value} {z5 : Value} {s7 : Slot} {z8 : Value} {z9 : Value} {z10 : Value} {z11 : Value} {z12 : Value} {s13 : Slot} {s14 : Slot} {s15 : Slot} {v : Int32} (h : One s13) : storeLocals #[.val z0, .val z1, .val z2, .val z3, .second, .val z5, .second, s7, .val z8, .val z9, .val z10, .val z11, .val z12, s13, s14, s15] 13 (.int v) = some #[.val z0, .val z1, .val z2, .val z3, .second, .val z5, .second, s7, .val z8, .val z9, .val z10, .val z11, .val z12, .val (.int v), s14, s15] := by
  rcases h with rfl | ⟨w, rfl, hw⟩
  · rfl
  · cases w <;> first | rfl | (simp [Value.category] at hw)
theorem os7_652_e9 {z0 : Value} {z1 : Value} {z2 : Value} {z3 : Value} {z5 : Value} {s7 : Slot} {z8 : Value} {z9 : Value} {z10 : Value} {z11 : Value} {z12 : Value} {z13 : Value} {s14 : Slot} {s15 : Slot} {v : Int32} (h : One s14) : storeLocals #[.val z0, .val z1, .val z2, .val z3, .second, .val z5, .second, s7, .val z8, .val z9, .val z10, .val z11, .val z12, .val z13, s14, s15] 14 (.int v) = some #[.val z0, .val z1, .val z2, .val z3, .second, .val z5, .second, s7, .val z8, .val z9, .val z10, .val z11, .val z12, .val z13, .val (.int v), s15] := by
  rcases h with rfl | ⟨w, rfl, hw⟩
  · rfl
  · cases w <;> first | rfl | (simp [Value.category] at hw)
theorem os7_731_e17 {z0 : Value} {z1 : Value} {z2 : Value} {z3 : Value} {z5 : Value} {s7 : Slot} {z8 : Value} {z9 : Value} {z10 : Value} {z11 : Value} {z12 : Value} {z13 : Value} {z14 : Value} {s15 : Slot} {v : Int32} (h : One s15) : storeLocals #[.val z0, .val z1, .val z2, .val z3, .second, .val z5, .second, s7, .val z8, .val z9, .val z10, .val z11, .val z12, .val z13, .val z14, s15] 15 (.int v) = some #[.val z0, .val z1, .val z2, .val z3, .second, .val z5, .second, s7, .val z8, .val z9, .val z10, .val z11, .val z12, .val z13, .val z14, .val (.int v)] := by
  rcases h with rfl | ⟨w, rfl, hw⟩
  · rfl
  · cases w <;> first | rfl | (simp [Value.category] at hw)
set_option maxRecDepth 65536 in
set_option maxHeartbeats 40000000 in
theorem sgC3 {p : Program} {l : Launch} {e : Env} {R : Room} {s : State} {m : MethodId} {args : Array Value} {below : List Frame} {meth : Method} {c : Code} {T0 : State} {locs : List Loc} {cells slots : Nat} {Z : State} {a0 : Array Value} {h0 : Heap} (a1 : Addr) (A : Nat → Addr) (N : Nat → Nat) (I : Nat → Nat → Int32) (J : Nat → Nat → Int64) (cc : Nat → Int32) (M : Nat → Option Addr) (B : Nat → Nat → Int32) (nb nd tr sv lf k1 : Nat) (kh kl : Int64) (b1 : Addr) (s7 s13 s14 s15 : Slot) (i q1 : Nat)
    (X0 : Stand p l e R s m args below meth c T0 locs cells slots) (hx : p.tables.exec = Jvm.exec) (hZ : Z.Warmed39 s.vm) (hw : ∀ d ∈ tables_1, d.before a0 Z = true) (hby : c.code = prog_74_method_2_code) (hml : c.maxLocals = 16) (hown : s.vm.findClass "com/example/ebbtide/ebbtide/cluster/LoadTrees" = some m.cls) (e0 : T0.heap = h0) (n0 : Nat) (N0 : Fr n0 locs) (Z0 : n0 ≤ h0.size) (L0 : LT Z h0 n0 a1 A N I J cc M B) (hS : SZ N nb) (hnd : nd < nb) (hnb : nb < 1000) (hsv : sv < 3) (hlf : lf < 4) (hM : M lf = some b1) (hi : i < 4) (hk1 : k1 < 4) (hq1 : q1 < 60) (Y4 : I 4 lf = Int32.ofNat nd) (Y5 : I 5 lf = Int32.ofNat q1) (Y8 : I 8 (nd * 64 + q1) = Int32.ofNat k1) (Y13 : I 13 nd = (-1 : Int32)) (hz0 : I 0 sv = (0 : Int32)) (hz9 : I 9 (nd * 64 + q1) = (0 : Int32)) (hz16 : J 16 sv = (0 : Int64)) (hz19 : J 19 (nd * 64 + q1) = (0 : Int64)) (hs13 : One s13) (hs14 : One s14) (hs15 : One s15) :
    ∃ (T' : State) (h' : Heap) (L' : List Loc), Stand p l e R s m args below meth c T' L' cells slots ∧ T'.heap = h' ∧ Fr n0 L' ∧ KN n0 h0 h' ∧ LT Z h' n0 a1 A N (ui (ui (ui I 1 (sv) (Int32.ofNat (lf * 64 + i))) 3 (lf) (Int32.ofNat (k1 + 1))) 8 (nd * 64 + q1) (Int32.ofNat (k1 + 1))) J cc M (ui B (lf) (i) (Int32.ofNat (sv))) ∧ (∀ t, Steps p.tables e below (T'.setTop (mkF m 738 #[vR a1, vN (tr), vN (sv), vJ kh, .second, vJ kl, .second, s7, vN (lf), vR b1, vN (k1), vN (lf * 64), vN (i), vN (nd), vN (nd * 64 + q1), vI (-1)] [])) t → Steps p.tables e below (T0.setTop (mkF m 602 #[vR a1, vN (tr), vN (sv), vJ kh, .second, vJ kl, .second, s7, vN (lf), vR b1, vN (k1), vN (lf * 64), vN (i), s13, s14, s15] [])) t) := by
  obtain ⟨S0, S1, S2, S3, S4, S5, S6, S7, S8, S9, S10, S11, S12, S13, S14, S15, S16, S17, S18, S19, S20, S21, S22⟩ := hS
  obtain ⟨T1, h1, X1, e1, W1, st1⟩ := own_stIN X0 hx hZ e0 (L0.Bo (by omega) hM) (i := i) (by omega) (g := (mkF m 607 #[vR a1, vN (tr), vN (sv), vJ kh, .second, vJ kl, .second, s7, vN (lf), vR b1, vN (k1), vN (lf * 64), vN (i), s13, s14, s15] [(.int (Int32.ofNat (sv))), (.int (Int32.ofNat (i))), (.ref b1)])) rfl rfl (hb hby d7_607)
  have K1 : KN n0 h0 h1 := (KN.refl n0 h0).trans (KN.wr W1 (L0.gB (by omega) hM))
  have N1 := Fr.snoc X1 N0 (L0.gB (by omega) hM)
  have Z1 : n0 ≤ h1.size := Nat.le_trans Z0 (Keep.of_wr W1).1
  have Lq1 := L0.wrB (by omega) hM W1
  obtain ⟨T2, X2, e2, st2⟩ := getF X1 hx hZ hown (host := "") (Or.inl (tw hw 26 rfl)) Via.refl e1 (Lq1.FI 1 (by decide) rfl) (g := (mkF m 609 #[vR a1, vN (tr), vN (sv), vJ kh, .second, vJ kl, .second, s7, vN (lf), vR b1, vN (k1), vN (lf * 64), vN (i), s13, s14, s15] [(.ref a1)])) rfl rfl (hb hby d7_609)
  obtain ⟨T3, h3, X3, e3, W3, st3⟩ := own_stIN X2 hx hZ e2 (Lq1.aI 1 (by decide)) (i := sv) (by omega) (g := (mkF m 618 #[vR a1, vN (tr), vN (sv), vJ kh, .second, vJ kl, .second, s7, vN (lf), vR b1, vN (k1), vN (lf * 64), vN (i), s13, s14, s15] [(.int (Int32.ofNat (lf * 64 + i))), (.int (Int32.ofNat (sv))), (.ref (A 1))])) rfl rfl (hb hby d7_618)
  have K3 : KN n0 h0 h3 := K1.trans (KN.wr W3 (Lq1.gA 1 (by decide)))
  have N3 := Fr.snoc X3 N1 (Lq1.gA 1 (by decide))
  have Z3 : n0 ≤ h3.size := Nat.le_trans Z1 (Keep.of_wr W3).1
  have Lq3 := Lq1.wrI (k := 1) (by decide) W3
  obtain ⟨T4, X4, e4, st4⟩ := getF X3 hx hZ hown (host := "") (Or.inl (tw hw 38 rfl)) Via.refl e3 (Lq3.FI 3 (by decide) rfl) (g := (mkF m 620 #[vR a1, vN (tr), vN (sv), vJ kh, .second, vJ kl, .second, s7, vN (lf), vR b1, vN (k1), vN (lf * 64), vN (i), s13, s14, s15] [(.ref a1)])) rfl rfl (hb hby d7_620)
  obtain ⟨T5, h5, X5, e5, W5, st5⟩ := own_stIN X4 hx hZ e4 (Lq3.aI 3 (by decide)) (i := lf) (by omega) (g := (mkF m 629 #[vR a1, vN (tr), vN (sv), vJ kh, .second, vJ kl, .second, s7, vN (lf), vR b1, vN (k1), vN (lf * 64), vN (i), s13, s14, s15] [(.int (Int32.ofNat (k1 + 1))), (.int (Int32.ofNat (lf))), (.ref (A 3))])) rfl rfl (hb hby d7_629)
  have K5 : KN n0 h0 h5 := K3.trans (KN.wr W5 (Lq3.gA 3 (by decide)))
  have N5 := Fr.snoc X5 N3 (Lq3.gA 3 (by decide))
  have Z5 : n0 ≤ h5.size := Nat.le_trans Z3 (Keep.of_wr W5).1
  have Lq5 := Lq3.wrI (k := 3) (by decide) W5
  obtain ⟨T6, X6, e6, st6⟩ := getF X5 hx hZ hown (host := "") (Or.inl (tw hw 44 rfl)) Via.refl e5 (Lq5.FI 4 (by decide) rfl) (g := (mkF m 631 #[vR a1, vN (tr), vN (sv), vJ kh, .second, vJ kl, .second, s7, vN (lf), vR b1, vN (k1), vN (lf * 64), vN (i), s13, s14, s15] [(.ref a1)])) rfl rfl (hb hby d7_631)
  obtain ⟨T8, X8, e8, st8⟩ := getF X6 hx hZ hown (host := "") (Or.inl (tw hw 46 rfl)) Via.refl e6 (Lq5.FI 5 (by decide) rfl) (g := (mkF m 645 #[vR a1, vN (tr), vN (sv), vJ kh, .second, vJ kl, .second, s7, vN (lf), vR b1, vN (k1), vN (lf * 64), vN (i), vN (nd), s14, s15] [(.ref a1), (.int (Int32.ofNat (nd * 64)))])) rfl rfl (hb hby d7_645)
  obtain ⟨T10, X10, e10, st10⟩ := getF X8 hx hZ hown (host := "") (Or.inl (tw hw 52 rfl)) Via.refl e8 (Lq5.FI 8 (by decide) rfl) (g := (mkF m 655 #[vR a1, vN (tr), vN (sv), vJ kh, .second, vJ kl, .second, s7, vN (lf), vR b1, vN (k1), vN (lf * 64), vN (i), vN (nd), vN (nd * 64 + q1), s15] [(.ref a1)])) rfl rfl (hb hby d7_655)
  obtain ⟨T11, h11, X11, e11, W11, st11⟩ := own_stIN X10 hx hZ e10 (Lq5.aI 8 (by decide)) (i := nd * 64 + q1) (by omega) (g := (mkF m 664 #[vR a1, vN (tr), vN (sv), vJ kh, .second, vJ kl, .second, s7, vN (lf), vR b1, vN (k1), vN (lf * 64), vN (i), vN (nd), vN (nd * 64 + q1), s15] [(.int (Int32.ofNat (k1 + 1))), (.int (Int32.ofNat (nd * 64 + q1))), (.ref (A 8))])) rfl rfl (hb hby d7_664)
  have K11 : KN n0 h0 h11 := K5.trans (KN.wr W11 (Lq5.gA 8 (by decide)))
  have N11 := Fr.snoc X11 N5 (Lq5.gA 8 (by decide))
  have Z11 : n0 ≤ h11.size := Nat.le_trans Z5 (Keep.of_wr W11).1
  have Lq11 := Lq5.wrI (k := 8) (by decide) W11
  obtain ⟨T12, X12, e12, st12⟩ := getF X11 hx hZ hown (host := "") (Or.inl (tw hw 22 rfl)) Via.refl e11 (Lq11.FI 0 (by decide) rfl) (g := (mkF m 666 #[vR a1, vN (tr), vN (sv), vJ kh, .second, vJ kl, .second, s7, vN (lf), vR b1, vN (k1), vN (lf * 64), vN (i), vN (nd), vN (nd * 64 + q1), s15] [(.ref a1)])) rfl rfl (hb hby d7_666)
  obtain ⟨T13, X13, e13, st13⟩ := getF X12 hx hZ hown (host := "") (Or.inl (tw hw 54 rfl)) Via.refl e12 (Lq11.FI 9 (by decide) rfl) (g := (mkF m 672 #[vR a1, vN (tr), vN (sv), vJ kh, .second, vJ kl, .second, s7, vN (lf), vR b1, vN (k1), vN (lf * 64), vN (i), vN (nd), vN (nd * 64 + q1), s15] [(.ref a1), (.int (0 : Int32))])) rfl rfl (hb hby d7_672)
  obtain ⟨T14, X14, e14, st14⟩ := getF X13 hx hZ hown (host := "") (Or.inl (tw hw 24 rfl)) Via.refl e13 (Lq11.FJ 16 (by decide) (by decide) rfl) (g := (mkF m 695 #[vR a1, vN (tr), vN (sv), vJ kh, .second, vJ kl, .second, s7, vN (lf), vR b1, vN (k1), vN (lf * 64), vN (i), vN (nd), vN (nd * 64 + q1), s15] [(.ref a1)])) rfl rfl (hb hby d7_695)
  obtain ⟨T15, X15, e15, st15⟩ := getF X14 hx hZ hown (host := "") (Or.inl (tw hw 56 rfl)) Via.refl e14 (Lq11.FJ 19 (by decide) (by decide) rfl) (g := (mkF m 701 #[vR a1, vN (tr), vN (sv), vJ kh, .second, vJ kl, .second, s7, vN (lf), vR b1, vN (k1), vN (lf * 64), vN (i), vN (nd), vN (nd * 64 + q1), s15] [(.ref a1), (.long (0 : Int64))])) rfl rfl (hb hby d7_701)
  obtain ⟨T16, X16, e16, st16⟩ := getF X15 hx hZ hown (host := "") (Or.inl (tw hw 68 rfl)) Via.refl e15 (Lq11.FI 13 (by decide) rfl) (g := (mkF m 725 #[vR a1, vN (tr), vN (sv), vJ kh, .second, vJ kl, .second, s7, vN (lf), vR b1, vN (k1), vN (lf * 64), vN (i), vN (nd), vN (nd * 64 + q1), s15] [(.ref a1)])) rfl rfl (hb hby d7_725)
  refine ⟨T16, h11, _, X16, e16, N11, K11, Lq11, fun t kt => ?_⟩
  · show Steps p.tables e below (T0.setTop (mkF m 602 #[vR a1, vN (tr), vN (sv), vJ kh, .second, vJ kl, .second, s7, vN (lf), vR b1, vN (k1), vN (lf * 64), vN (i), s13, s14, s15] [])) _
    refine XS.aload X0.here hx rfl (hb hby d7_602) rfl rfl ?_
    refine XS.iload X0.here hx rfl (hb hby d7_604) rfl ?_
    refine XS.iloadN X0.here hx rfl (hb hby d7_606) rfl ?_
    refine st1 _ ?_
    refine XS.aloadN X1.here hx rfl (hb hby d7_608) rfl rfl ?_
    refine st2 _ ?_
    refine XS.iloadN X2.here hx rfl (hb hby d7_612) rfl ?_
    refine XS.iload X2.here hx rfl (hb hby d7_613) rfl ?_
    refine XS.iload X2.here hx rfl (hb hby d7_615) rfl ?_
    refine XS.iadd X2.here hx rfl (hb hby d7_617) rfl ?_
    show Steps p.tables e below (T2.setTop (mkF m 618 #[vR a1, vN (tr), vN (sv), vJ kh, .second, vJ kl, .second, s7, vN (lf), vR b1, vN (k1), vN (lf * 64), vN (i), s13, s14, s15] [(.int ((Int32.ofNat (lf * 64)) + (Int32.ofNat (i)))), (.int (Int32.ofNat (sv))), (.ref (A 1))])) _
    rw [show (Int32.ofNat (lf * 64)) + (Int32.ofNat (i)) = Int32.ofNat (lf * 64 + i) from own_na (lf * 64) (i)]
    show Steps p.tables e below (T2.setTop (mkF m 618 #[vR a1, vN (tr), vN (sv), vJ kh, .second, vJ kl, .second, s7, vN (lf), vR b1, vN (k1), vN (lf * 64), vN (i), s13, s14, s15] [(.int (Int32.ofNat (lf * 64 + i))), (.int (Int32.ofNat (sv))), (.ref (A 1))])) _
    refine st3 _ ?_
    refine XS.aloadN X3.here hx rfl (hb hby d7_619) rfl rfl ?_
    refine st4 _ ?_
    refine XS.iload X4.here hx rfl (hb hby d7_623) rfl ?_
    refine XS.iload X4.here hx rfl (hb hby d7_625) rfl ?_
    refine XS.iconst X4.here hx rfl (hb hby d7_627) ?_
    refine XS.iadd X4.here hx rfl (hb hby d7_628) rfl ?_
    show Steps p.tables e below (T4.setTop (mkF m 629 #[vR a1, vN (tr), vN (sv), vJ kh, .second, vJ kl, .second, s7, vN (lf), vR b1, vN (k1), vN (lf * 64), vN (i), s13, s14, s15] [(.int ((Int32.ofNat (k1)) + (1 : Int32))), (.int (Int32.ofNat (lf))), (.ref (A 3))])) _
    rw [show (Int32.ofNat (k1)) + (1 : Int32) = Int32.ofNat (k1 + 1) from own_na (k1) (1)]
    show Steps p.tables e below (T4.setTop (mkF m 629 #[vR a1, vN (tr), vN (sv), vJ kh, .second, vJ kl, .second, s7, vN (lf), vR b1, vN (k1), vN (lf * 64), vN (i), s13, s14, s15] [(.int (Int32.ofNat (k1 + 1))), (.int (Int32.ofNat (lf))), (.ref (A 3))])) _
    refine st5 _ ?_
    refine XS.aloadN X5.here hx rfl (hb hby d7_630) rfl rfl ?_
    refine st6 _ ?_
    refine XS.iload X6.here hx rfl (hb hby d7_634) rfl ?_
    refine own_ldIN X6 hx hZ e6 (Lq5.aI 4 (by decide)) (i := lf) (x := (Int32.ofNat (nd))) (by omega) (congrArg Value.int (show ((ui (ui I 1 (sv) (Int32.ofNat (lf * 64 + i))) 3 (lf) (Int32.ofNat (k1 + 1))) 4 (lf)) = (Int32.ofNat (nd)) from Y4)) (g := (mkF m 636 #[vR a1, vN (tr), vN (sv), vJ kh, .second, vJ kl, .second, s7, vN (lf), vR b1, vN (k1), vN (lf * 64), vN (i), s13, s14, s15] [(.int (Int32.ofNat (lf))), (.ref (A 4))])) rfl rfl (hb hby d7_636) _ ?_
    refine XS.istore X6.here hx rfl (hb hby d7_637) rfl (l' := #[vR a1, vN (tr), vN (sv), vJ kh, .second, vJ kl, .second, s7, vN (lf), vR b1, vN (k1), vN (lf * 64), vN (i), vN (nd), s14, s15]) (os7_637_e7 hs13) ?_
    refine XS.iload X6.here hx rfl (hb hby d7_639) rfl ?_
    refine XS.bipush X6.here hx rfl (hb hby d7_641) ?_
    refine XS.imul X6.here hx rfl (hb hby d7_643) rfl ?_
    show Steps p.tables e below (T6.setTop (mkF m 644 #[vR a1, vN (tr), vN (sv), vJ kh, .second, vJ kl, .second, s7, vN (lf), vR b1, vN (k1), vN (lf * 64), vN (i), vN (nd), s14, s15] [(.int ((Int32.ofNat (nd)) * (64 : Int32)))])) _
    rw [show (Int32.ofNat (nd)) * (64 : Int32) = Int32.ofNat (nd * 64) from own_nm (nd) (64)]
    show Steps p.tables e below (T6.setTop (mkF m 644 #[vR a1, vN (tr), vN (sv), vJ kh, .second, vJ kl, .second, s7, vN (lf), vR b1, vN (k1), vN (lf * 64), vN (i), vN (nd), s14, s15] [(.int (Int32.ofNat (nd * 64)))])) _
    refine XS.aloadN X6.here hx rfl (hb hby d7_644) rfl rfl ?_
    refine st8 _ ?_
    refine XS.iload X8.here hx rfl (hb hby d7_648) rfl ?_
    refine own_ldIN X8 hx hZ e8 (Lq5.aI 5 (by decide)) (i := lf) (x := (Int32.ofNat (q1))) (by omega) (congrArg Value.int (show ((ui (ui I 1 (sv) (Int32.ofNat (lf * 64 + i))) 3 (lf) (Int32.ofNat (k1 + 1))) 5 (lf)) = (Int32.ofNat (q1)) from Y5)) (g := (mkF m 650 #[vR a1, vN (tr), vN (sv), vJ kh, .second, vJ kl, .second, s7, vN (lf), vR b1, vN (k1), vN (lf * 64), vN (i), vN (nd), s14, s15] [(.int (Int32.ofNat (lf))), (.ref (A 5)), (.int (Int32.ofNat (nd * 64)))])) rfl rfl (hb hby d7_650) _ ?_
    refine XS.iadd X8.here hx rfl (hb hby d7_651) rfl ?_
    show Steps p.tables e below (T8.setTop (mkF m 652 #[vR a1, vN (tr), vN (sv), vJ kh, .second, vJ kl, .second, s7, vN (lf), vR b1, vN (k1), vN (lf * 64), vN (i), vN (nd), s14, s15] [(.int ((Int32.ofNat (nd * 64)) + (Int32.ofNat (q1))))])) _
    rw [show (Int32.ofNat (nd * 64)) + (Int32.ofNat (q1)) = Int32.ofNat (nd * 64 + q1) from own_na (nd * 64) (q1)]
    show Steps p.tables e below (T8.setTop (mkF m 652 #[vR a1, vN (tr), vN (sv), vJ kh, .second, vJ kl, .second, s7, vN (lf), vR b1, vN (k1), vN (lf * 64), vN (i), vN (nd), s14, s15] [(.int (Int32.ofNat (nd * 64 + q1)))])) _
    refine XS.istore X8.here hx rfl (hb hby d7_652) rfl (l' := #[vR a1, vN (tr), vN (sv), vJ kh, .second, vJ kl, .second, s7, vN (lf), vR b1, vN (k1), vN (lf * 64), vN (i), vN (nd), vN (nd * 64 + q1), s15]) (os7_652_e9 hs14) ?_
    refine XS.aloadN X8.here hx rfl (hb hby d7_654) rfl rfl ?_
    refine st10 _ ?_
    refine XS.iload X10.here hx rfl (hb hby d7_658) rfl ?_
    refine Jvm.Free.XT.dup2 X10.here hx rfl (hb hby d7_660) rfl rfl rfl ?_
    refine own_ldIN X10 hx hZ e10 (Lq5.aI 8 (by decide)) (i := nd * 64 + q1) (x := (Int32.ofNat (k1))) (by omega) (congrArg Value.int (show ((ui (ui I 1 (sv) (Int32.ofNat (lf * 64 + i))) 3 (lf) (Int32.ofNat (k1 + 1))) 8 (nd * 64 + q1)) = (Int32.ofNat (k1)) from Y8)) (g := (mkF m 661 #[vR a1, vN (tr), vN (sv), vJ kh, .second, vJ kl, .second, s7, vN (lf), vR b1, vN (k1), vN (lf * 64), vN (i), vN (nd), vN (nd * 64 + q1), s15] [(.int (Int32.ofNat (nd * 64 + q1))), (.ref (A 8)), (.int (Int32.ofNat (nd * 64 + q1))), (.ref (A 8))])) rfl rfl (hb hby d7_661) _ ?_
    refine XS.iconst X10.here hx rfl (hb hby d7_662) ?_
    refine XS.iadd X10.here hx rfl (hb hby d7_663) rfl ?_
    show Steps p.tables e below (T10.setTop (mkF m 664 #[vR a1, vN (tr), vN (sv), vJ kh, .second, vJ kl, .second, s7, vN (lf), vR b1, vN (k1), vN (lf * 64), vN (i), vN (nd), vN (nd * 64 + q1), s15] [(.int ((Int32.ofNat (k1)) + (1 : Int32))), (.int (Int32.ofNat (nd * 64 + q1))), (.ref (A 8))])) _
    rw [show (Int32.ofNat (k1)) + (1 : Int32) = Int32.ofNat (k1 + 1) from own_na (k1) (1)]
    show Steps p.tables e below (T10.setTop (mkF m 664 #[vR a1, vN (tr), vN (sv), vJ kh, .second, vJ kl, .second, s7, vN (lf), vR b1, vN (k1), vN (lf * 64), vN (i), vN (nd), vN (nd * 64 + q1), s15] [(.int (Int32.ofNat (k1 + 1))), (.int (Int32.ofNat (nd * 64 + q1))), (.ref (A 8))])) _
    refine st11 _ ?_
    refine XS.aloadN X11.here hx rfl (hb hby d7_665) rfl rfl ?_
    refine st12 _ ?_
    refine XS.iloadN X12.here hx rfl (hb hby d7_669) rfl ?_
    refine own_ldIN X12 hx hZ e12 (Lq11.aI 0 (by decide)) (i := sv) (x := (0 : Int32)) (by omega) (congrArg Value.int (show ((ui (ui (ui I 1 (sv) (Int32.ofNat (lf * 64 + i))) 3 (lf) (Int32.ofNat (k1 + 1))) 8 (nd * 64 + q1) (Int32.ofNat (k1 + 1))) 0 (sv)) = (0 : Int32) from hz0)) (g := (mkF m 670 #[vR a1, vN (tr), vN (sv), vJ kh, .second, vJ kl, .second, s7, vN (lf), vR b1, vN (k1), vN (lf * 64), vN (i), vN (nd), vN (nd * 64 + q1), s15] [(.int (Int32.ofNat (sv))), (.ref (A 0))])) rfl rfl (hb hby d7_670) _ ?_
    refine XS.aloadN X12.here hx rfl (hb hby d7_671) rfl rfl ?_
    refine st13 _ ?_
    refine XS.iload X13.here hx rfl (hb hby d7_675) rfl ?_
    refine own_ldIN X13 hx hZ e13 (Lq11.aI 9 (by decide)) (i := nd * 64 + q1) (x := (0 : Int32)) (by omega) (congrArg Value.int (show ((ui (ui (ui I 1 (sv) (Int32.ofNat (lf * 64 + i))) 3 (lf) (Int32.ofNat (k1 + 1))) 8 (nd * 64 + q1) (Int32.ofNat (k1 + 1))) 9 (nd * 64 + q1)) = (0 : Int32) from hz9)) (g := (mkF m 677 #[vR a1, vN (tr), vN (sv), vJ kh, .second, vJ kl, .second, s7, vN (lf), vR b1, vN (k1), vN (lf * 64), vN (i), vN (nd), vN (nd * 64 + q1), s15] [(.int (Int32.ofNat (nd * 64 + q1))), (.ref (A 9)), (.int (0 : Int32))])) rfl rfl (hb hby d7_677) _ ?_
    refine XS.icmpYes X13.here hx rfl (pc0 := 678) (pc' := 694) rfl (hb hby d7_678) rfl (flt (by decide : ¬ ((0 : Int32) < (0 : Int32)))).2.2.2 (by decide) (by decide) ?_
    refine XS.aloadN X13.here hx rfl (hb hby d7_694) rfl rfl ?_
    refine st14 _ ?_
    show Steps p.tables e below (T14.setTop (mkF m 698 #[vR a1, vN (tr), vN (sv), vJ kh, .second, vJ kl, .second, s7, vN (lf), vR b1, vN (k1), vN (lf * 64), vN (i), vN (nd), vN (nd * 64 + q1), s15] [(.ref (A 16))])) _
    refine XS.iloadN X14.here hx rfl (hb hby d7_698) rfl ?_
    refine own_ldJN X14 hx hZ e14 (Lq11.aJ 16 (by decide) (by decide)) (i := sv) (x := (0 : Int64)) (by omega) (congrArg Value.long (show (J 16 (sv)) = (0 : Int64) from hz16)) (g := (mkF m 699 #[vR a1, vN (tr), vN (sv), vJ kh, .second, vJ kl, .second, s7, vN (lf), vR b1, vN (k1), vN (lf * 64), vN (i), vN (nd), vN (nd * 64 + q1), s15] [(.int (Int32.ofNat (sv))), (.ref (A 16))])) rfl rfl (hb hby d7_699) _ ?_
    refine XS.aloadN X14.here hx rfl (hb hby d7_700) rfl rfl ?_
    refine st15 _ ?_
    refine XS.iload X15.here hx rfl (hb hby d7_704) rfl ?_
    refine own_ldJN X15 hx hZ e15 (Lq11.aJ 19 (by decide) (by decide)) (i := nd * 64 + q1) (x := (0 : Int64)) (by omega) (congrArg Value.long (show (J 19 (nd * 64 + q1)) = (0 : Int64) from hz19)) (g := (mkF m 706 #[vR a1, vN (tr), vN (sv), vJ kh, .second, vJ kl, .second, s7, vN (lf), vR b1, vN (k1), vN (lf * 64), vN (i), vN (nd), vN (nd * 64 + q1), s15] [(.int (Int32.ofNat (nd * 64 + q1))), (.ref (A 19)), (.long (0 : Int64))])) rfl rfl (hb hby d7_706) _ ?_
    refine XS.lcmp X15.here hx rfl (hb hby d7_707) rfl ?_
    refine XS.ifYes X15.here hx rfl (pc0 := 708) (pc' := 724) rfl (hb hby d7_708) rfl ((if0 _ _).trans (flt (by decide)).2.2.2) (by decide) (by decide) ?_
    refine XS.aloadN X15.here hx rfl (hb hby d7_724) rfl rfl ?_
    refine st16 _ ?_
    refine XS.iload X16.here hx rfl (hb hby d7_728) rfl ?_
    refine own_ldIN X16 hx hZ e16 (Lq11.aI 13 (by decide)) (i := nd) (x := (-1 : Int32)) (by omega) (congrArg Value.int (show ((ui (ui (ui I 1 (sv) (Int32.ofNat (lf * 64 + i))) 3 (lf) (Int32.ofNat (k1 + 1))) 8 (nd * 64 + q1) (Int32.ofNat (k1 + 1))) 13 (nd)) = (-1 : Int32) from Y13)) (g := (mkF m 730 #[vR a1, vN (tr), vN (sv), vJ kh, .second, vJ kl, .second, s7, vN (lf), vR b1, vN (k1), vN (lf * 64), vN (i), vN (nd), vN (nd * 64 + q1), s15] [(.int (Int32.ofNat (nd))), (.ref (A 13))])) rfl rfl (hb hby d7_730) _ ?_
    show Steps p.tables e below (T16.setTop (mkF m 731 #[vR a1, vN (tr), vN (sv), vJ kh, .second, vJ kl, .second, s7, vN (lf), vR b1, vN (k1), vN (lf * 64), vN (i), vN (nd), vN (nd * 64 + q1), s15] [(.int (-1 : Int32))])) _
    refine XS.istore X16.here hx rfl (hb hby d7_731) rfl (l' := #[vR a1, vN (tr), vN (sv), vJ kh, .second, vJ kl, .second, s7, vN (lf), vR b1, vN (k1), vN (lf * 64), vN (i), vN (nd), vN (nd * 64 + q1), vI (-1)]) (os7_731_e17 hs15) ?_
    refine XS.iload X16.here hx rfl (hb hby d7_733) rfl ?_
    refine XS.ifNo X16.here hx rfl (hb hby d7_735) rfl ((if0 _ _).trans (tlt (by decide : (-1 : Int32) < (0 : Int32))).2.1) ?_
    exact kt
theorem ad_7 (I : Nat → Nat → Int32) (nd sl n cd : Nat) (sv : Int32) (P S : Nat → Int32) : adI I nd sl n cd sv P S 7 = u1 (cpy (I 7) (nd * 64 + sl) (nd * 64 + sl + 1) (n - sl)) (nd * 64 + sl) (Int32.ofNat cd) := rfl
theorem ad_8 (I : Nat → Nat → Int32) (nd sl n cd : Nat) (sv : Int32) (P S : Nat → Int32) : adI I nd sl n cd sv P S 8 = u1 (cpy (I 8) (nd * 64 + sl) (nd * 64 + sl + 1) (n - sl)) (nd * 64 + sl) 0 := rfl
theorem ad_9 (I : Nat → Nat → Int32) (nd sl n cd : Nat) (sv : Int32) (P S : Nat → Int32) : adI I nd sl n cd sv P S 9 = u1 (cpy (I 9) (nd * 64 + sl) (nd * 64 + sl + 1) (n - sl)) (nd * 64 + sl) 0 := rfl
theorem ad_10 (I : Nat → Nat → Int32) (nd sl n cd : Nat) (sv : Int32) (P S : Nat → Int32) : adI I nd sl n cd sv P S 10 = u1 (cpy (I 10) (nd * 64 + sl) (nd * 64 + sl + 1) (n - sl)) (nd * 64 + sl) sv := rfl
theorem ad_11 (I : Nat → Nat → Int32) (nd sl n cd : Nat) (sv : Int32) (P S : Nat → Int32) : adI I nd sl n cd sv P S 11 = u1 (I 11) nd (Int32.ofNat (n + 1)) := rfl
theorem ad_4 (I : Nat → Nat → Int32) (nd sl n cd : Nat) (sv : Int32) (P S : Nat → Int32) : adI I nd sl n cd sv P S 4 = P := rfl
theorem ad_5 (I : Nat → Nat → Int32) (nd sl n cd : Nat) (sv : Int32) (P S : Nat → Int32) : adI I nd sl n cd sv P S 5 = S := rfl
theorem ad_o (I : Nat → Nat → Int32) (nd sl n cd : Nat) (sv : Int32) (P S : Nat → Int32) (k : Nat) (h : k < 4 ∨ k = 6 ∨ 12 ≤ k) : adI I nd sl n cd sv P S k = I k := by
  unfold adI mvI ui u1
  simp only [show k ≠ 4 by omega, show k ≠ 5 by omega, show k ≠ 7 by omega, show k ≠ 8 by omega, show k ≠ 9 by omega, show k ≠ 10 by omega, show k ≠ 11 by omega, if_false]
theorem aj_20 (J : Nat → Nat → Int64) (nd sl n : Nat) (kh kl : Int64) : adJ J nd sl n kh kl 20 = u1 (cpy (J 20) (nd * 64 + sl) (nd * 64 + sl + 1) (n - sl)) (nd * 64 + sl) kh := rfl
theorem aj_21 (J : Nat → Nat → Int64) (nd sl n : Nat) (kh kl : Int64) : adJ J nd sl n kh kl 21 = u1 (cpy (J 21) (nd * 64 + sl) (nd * 64 + sl + 1) (n - sl)) (nd * 64 + sl) kl := rfl
theorem aj_19 (J : Nat → Nat → Int64) (nd sl n : Nat) (kh kl : Int64) : adJ J nd sl n kh kl 19 = u1 (cpy (J 19) (nd * 64 + sl) (nd * 64 + sl + 1) (n - sl)) (nd * 64 + sl) 0 := rfl
theorem aj_o (J : Nat → Nat → Int64) (nd sl n : Nat) (kh kl : Int64) (k : Nat) (h : k < 19) : adJ J nd sl n kh kl k = J k := by
  unfold adJ mvJ ui u1
  simp only [show k ≠ 19 by omega, show k ≠ 20 by omega, show k ≠ 21 by omega, if_false]
def GP (I : Nat → Nat → Int32) (J : Nat → Nat → Int64) (B : Nat → Nat → Int32) (nd n i c : Nat) (kh kl : Int64) (z : Nat) (m : Nat → Nat) : Prop :=
  I 7 (nd * 64 + i) = Int32.ofNat c ∧ c < n ∧ I 4 c = Int32.ofNat nd ∧ I 5 c = Int32.ofNat i ∧ J 17 c = kh ∧ J 18 c = kl ∧
  (i ≠ 0 → J 20 (nd * 64 + i) = kh ∧ J 21 (nd * 64 + i) = kl ∧ I 10 (nd * 64 + i) = -1) ∧ I 8 (nd * 64 + i) = Int32.ofNat z ∧ I 3 c = Int32.ofNat z ∧ z ≤ 3 ∧ I 9 (nd * 64 + i) = 0 ∧ J 19 (nd * 64 + i) = 0 ∧
  (∀ j, j < z → B c j = Int32.ofNat (m j) ∧ m j < 3)
def TS (I : Nat → Nat → Int32) (J : Nat → Nat → Int64) (cc : Nat → Int32) (M : Nat → Option Addr) (B : Nat → Nat → Int32) (tr nd n : Nat) (ch : Nat → Nat) (kh kl : Nat → Int64) (sz : Nat → Nat) (mb : Nat → Nat → Nat) : Prop :=
  (I 2 tr = Int32.ofNat nd ∧ I 12 nd = 1 ∧ I 13 nd = -1 ∧ I 11 nd = Int32.ofNat n ∧ n ≤ 3 ∧ cc 0 = Int32.ofNat n ∧ cc 1 = 0) ∧ (∀ j, n ≤ j → j < 4 → M j = none) ∧ (∀ j, j < n → ∃ b, M j = some b) ∧
  (∀ i, i < n → GP I J B nd n i (ch i) (kh i) (kl i) (sz i) (mb i)) ∧ (∀ i i', i < n → i' < n → ch i = ch i' → i = i') ∧ (∀ s, s < 3 → I 0 s = 0 ∧ J 16 s = 0)
theorem own_u1s {α : Type} (f : Nat → α) (k : Nat) (x : α) : u1 f k x k = x := if_pos rfl
theorem own_u1o {α : Type} (f : Nat → α) (k k' : Nat) (x : α) (h : k' ≠ k) : u1 f k x k' = f k' := if_neg h
/-- a new leaf at the slot sl, empty as yet -/
theorem TS.add {I : Nat → Nat → Int32} {J : Nat → Nat → Int64} {cc : Nat → Int32} {M : Nat → Option Addr} {B : Nat → Nat → Int32} {tr nd n : Nat} {ch : Nat → Nat} {kh kl : Nat → Int64} {sz : Nat → Nat} {mb : Nat → Nat → Nat}
    (H : TS I J cc M B tr nd n ch kh kl sz mb) (hn : n < 3) {sl : Nat} (hsl : sl ≤ n) (hs0 : sl = 0 → n = 0) (h1 h2 : Int64) (bb : Addr) (P S : Nat → Int32)
    (q1 : ∀ i, sl ≤ i → i < n + 1 → P (sins ch sl n i) = Int32.ofNat nd ∧ S (sins ch sl n i) = Int32.ofNat i) (q2 : ∀ x, (∀ i, sl ≤ i → i < n + 1 → x ≠ sins ch sl n i) → P x = I 4 x ∧ S x = I 5 x) :
    TS (adI (ui I 3 n 0) nd sl n n (-1) P S) (adJ (ui (ui J 17 n h1) 18 n h2) nd sl n h1 h2) (u1 cc 0 (Int32.ofNat (n + 1))) (u1 M n (some bb)) (fun j => if j = n then (fun _ => 0) else B j) tr nd (n + 1) (sins ch sl n) (sins kh sl h1) (sins kl sl h2) (sins sz sl 0) (sins mb sl (fun _ => 0)) := by
  obtain ⟨⟨a1, a2, a3, a4, a5, a6, a7⟩, b1, b2, g, inj, z⟩ := H
  have lt : ∀ i, i < n → ch i < n := fun i hi => (g i hi).2.1
  refine ⟨⟨?_, ?_, ?_, ?_, by omega, own_u1s _ _ _, ?_⟩, fun j u w => ?_, fun j u => ?_, fun i hi => ?_, fun i i' hi hi' e => ?_, fun s hs => ?_⟩
  · rw [ad_o _ _ _ _ _ _ _ _ 2 (by omega), own_ui_k _ 3 2 _ _ (by omega)]; exact a1
  · rw [ad_o _ _ _ _ _ _ _ _ 12 (by omega), own_ui_k _ 3 12 _ _ (by omega)]; exact a2
  · rw [ad_o _ _ _ _ _ _ _ _ 13 (by omega), own_ui_k _ 3 13 _ _ (by omega)]; exact a3
  · rw [ad_11]; exact own_u1s _ _ _
  · rw [own_u1o _ _ _ _ (by omega)]; exact a7
  · rw [own_u1o _ _ _ _ (by omega)]; exact b1 j (by omega) w
  · by_cases q : j = n
    · exact ⟨bb, by rw [q]; exact own_u1s _ _ _⟩
    · rw [own_u1o _ _ _ _ q]; exact b2 j (by omega)
  · have e7 := own_sins (I 7) (nd * 64) sl n (Int32.ofNat n) i (by omega) hsl
    have e8 := own_sins (I 8) (nd * 64) sl n (0 : Int32) i (by omega) hsl
    have e9 := own_sins (I 9) (nd * 64) sl n (0 : Int32) i (by omega) hsl
    have e10 := own_sins (I 10) (nd * 64) sl n (-1 : Int32) i (by omega) hsl
    have e20 := own_sins (J 20) (nd * 64) sl n h1 i (by omega) hsl
    have e21 := own_sins (J 21) (nd * 64) sl n h2 i (by omega) hsl
    have e19 := own_sins (J 19) (nd * 64) sl n (0 : Int64) i (by omega) hsl
    have w7 : (ui I 3 n 0) 7 = I 7 := own_ui_k _ 3 7 _ _ (by omega)
    have w8 : (ui I 3 n 0) 8 = I 8 := own_ui_k _ 3 8 _ _ (by omega)
    have w9 : (ui I 3 n 0) 9 = I 9 := own_ui_k _ 3 9 _ _ (by omega)
    have w10 : (ui I 3 n 0) 10 = I 10 := own_ui_k _ 3 10 _ _ (by omega)
    have x20 : (ui (ui J 17 n h1) 18 n h2) 20 = J 20 := rfl
    have x21 : (ui (ui J 17 n h1) 18 n h2) 21 = J 21 := rfl
    have x19 : (ui (ui J 17 n h1) 18 n h2) 19 = J 19 := rfl
    have k17 : ∀ x, x ≠ n → (ui (ui J 17 n h1) 18 n h2) 17 x = J 17 x := fun x hx => if_neg hx
    have k18 : ∀ x, x ≠ n → (ui (ui J 17 n h1) 18 n h2) 18 x = J 18 x := fun x hx => if_neg hx
    unfold GP
    rw [ad_7, ad_8, ad_9, ad_10, ad_4, ad_5, ad_o _ _ _ _ _ _ _ _ 3 (by omega), aj_19, aj_20, aj_21, aj_o _ _ _ _ _ _ 17 (by omega), aj_o _ _ _ _ _ _ 18 (by omega), w7, w8, w9, w10, x20, x21, x19, e7, e8, e9, e10, e20, e21, e19]
    by_cases c1 : i < sl
    · obtain ⟨f1, f2, f3, f4, f5, f6, f7, f8, f9, f10, f11, f12, f13⟩ := g i (by omega)
      have hne : ch i ≠ n := by have := lt i (by omega); omega
      obtain ⟨p1, p2⟩ := q2 (ch i) (fun i' u w => by
        unfold sins; rw [if_neg (by omega)]
        by_cases c : i' = sl
        · rw [if_pos c]; exact hne
        · rw [if_neg c]; intro e; have := inj _ _ (by omega) (by omega) e; omega)
      unfold sins
      simp only [if_pos c1]
      refine ⟨f1, by omega, p1.trans f3, p2.trans f4, (k17 _ hne).trans f5, (k18 _ hne).trans f6, f7, f8, ?_, f10, f11, f12, fun j hj => ?_⟩
      · rw [own_ui_j _ _ _ _ _ hne]; exact f9
      · rw [if_neg hne]; exact f13 j hj
    · by_cases c2 : i = sl
      · obtain ⟨p1, p2⟩ := q1 i (by omega) hi
        unfold sins at p1 p2 ⊢
        simp only [if_neg c1, if_pos c2] at p1 p2 ⊢
        refine ⟨trivial, by omega, p1, p2, if_pos rfl, if_pos rfl, fun _ => ⟨by first | rfl | trivial, by first | rfl | trivial, by first | rfl | trivial⟩, by first | rfl | trivial, own_ui _ _ _ _, by omega, by first | rfl | trivial, by first | rfl | trivial, fun j hj => absurd hj (by omega)⟩
      · obtain ⟨f1, f2, f3, f4, f5, f6, f7, f8, f9, f10, f11, f12, f13⟩ := g (i - 1) (by omega)
        have hne : ch (i - 1) ≠ n := by have := lt (i - 1) (by omega); omega
        obtain ⟨p1, p2⟩ := q1 i (by omega) hi
        unfold sins at p1 p2 ⊢
        simp only [if_neg c1, if_neg c2] at p1 p2 ⊢
        refine ⟨f1, by omega, p1, p2, (k17 _ hne).trans f5, (k18 _ hne).trans f6, fun _ => f7 (by omega), f8, ?_, f10, f11, f12, fun j hj => ?_⟩
        · rw [own_ui_j _ _ _ _ _ hne]; exact f9
        · rw [if_neg hne]; exact f13 j hj
  · unfold sins at e
    by_cases c1 : i < sl
    · by_cases d1 : i' < sl
      · rw [if_pos c1, if_pos d1] at e; exact inj _ _ (by omega) (by omega) e
      · by_cases d2 : i' = sl
        · rw [if_pos c1, if_neg d1, if_pos d2] at e; have := lt i (by omega); omega
        · rw [if_pos c1, if_neg d1, if_neg d2] at e; have := inj _ _ (by omega) (by omega) e; omega
    · by_cases c2 : i = sl
      · by_cases d1 : i' < sl
        · rw [if_neg c1, if_pos c2, if_pos d1] at e; have := lt i' (by omega); omega
        · by_cases d2 : i' = sl
          · omega
          · rw [if_neg c1, if_pos c2, if_neg d1, if_neg d2] at e; have := lt (i' - 1) (by omega); omega
      · by_cases d1 : i' < sl
        · rw [if_neg c1, if_neg c2, if_pos d1] at e; have := inj _ _ (by omega) (by omega) e; omega
        · by_cases d2 : i' = sl
          · rw [if_neg c1, if_neg c2, if_neg d1, if_pos d2] at e; have := lt (i - 1) (by omega); omega
          · rw [if_neg c1, if_neg c2, if_neg d1, if_neg d2] at e; have := inj _ _ (by omega) (by omega) e; omega
  · rw [ad_o _ _ _ _ _ _ _ _ 0 (by omega), own_ui_k _ 3 0 _ _ (by omega), aj_o _ _ _ _ _ _ 16 (by omega)]
    exact z s hs
/-- a new leaf ahead of the first one -/
theorem TS.addL {I : Nat → Nat → Int32} {J : Nat → Nat → Int64} {cc : Nat → Int32} {M : Nat → Option Addr} {B : Nat → Nat → Int32} {tr nd n : Nat} {ch : Nat → Nat} {kh kl : Nat → Int64} {sz : Nat → Nat} {mb : Nat → Nat → Nat}
    (H : TS I J cc M B tr nd n ch kh kl sz mb) (hn : n < 3) (h1 h2 f1 f2 : Int64) (f3 : Int32) (bb : Addr) (P S : Nat → Int32)
    (q1 : ∀ i, 0 ≤ i → i < n + 1 → P (sins ch 0 n i) = Int32.ofNat nd ∧ S (sins ch 0 n i) = Int32.ofNat i) :
    TS (ui (adI (ui I 3 n 0) nd 0 n n f3 P S) 10 (nd * 64 + 1) (-1)) (ui (ui (adJ (ui (ui J 17 n h1) 18 n h2) nd 0 n f1 f2) 20 (nd * 64 + 1) (kh 0)) 21 (nd * 64 + 1) (kl 0)) (u1 cc 0 (Int32.ofNat (n + 1))) (u1 M n (some bb)) (fun j => if j = n then (fun _ => 0) else B j) tr nd (n + 1) (sins ch 0 n) (sins kh 0 h1) (sins kl 0 h2) (sins sz 0 0) (sins mb 0 (fun _ => 0)) := by
  obtain ⟨⟨a1, a2, a3, a4, a5, a6, a7⟩, b1, b2, g, inj, z⟩ := H
  have lt : ∀ i, i < n → ch i < n := fun i hi => (g i hi).2.1
  have E : ∀ k, k ≠ 10 → (ui (adI (ui I 3 n 0) nd 0 n n f3 P S) 10 (nd * 64 + 1) (-1)) k = adI (ui I 3 n 0) nd 0 n n f3 P S k := fun k hk => own_ui_k _ _ _ _ _ hk
  have F : ∀ k, k ≠ 20 → k ≠ 21 → (ui (ui (adJ (ui (ui J 17 n h1) 18 n h2) nd 0 n f1 f2) 20 (nd * 64 + 1) (kh 0)) 21 (nd * 64 + 1) (kl 0)) k = adJ (ui (ui J 17 n h1) 18 n h2) nd 0 n f1 f2 k := fun k hk hk' => by rw [own_ui_k _ _ _ _ _ hk', own_ui_k _ _ _ _ _ hk]
  refine ⟨⟨?_, ?_, ?_, ?_, by omega, own_u1s _ _ _, ?_⟩, fun j u w => ?_, fun j u => ?_, fun i hi => ?_, fun i i' hi hi' e => ?_, fun s hs => ?_⟩
  · rw [E 2 (by omega), ad_o _ _ _ _ _ _ _ _ 2 (by omega), own_ui_k _ 3 2 _ _ (by omega)]; exact a1
  · rw [E 12 (by omega), ad_o _ _ _ _ _ _ _ _ 12 (by omega), own_ui_k _ 3 12 _ _ (by omega)]; exact a2
  · rw [E 13 (by omega), ad_o _ _ _ _ _ _ _ _ 13 (by omega), own_ui_k _ 3 13 _ _ (by omega)]; exact a3
  · rw [E 11 (by omega), ad_11]; exact own_u1s _ _ _
  · rw [own_u1o _ _ _ _ (by omega)]; exact a7
  · rw [own_u1o _ _ _ _ (by omega)]; exact b1 j (by omega) w
  · by_cases q : j = n
    · exact ⟨bb, by rw [q]; exact own_u1s _ _ _⟩
    · rw [own_u1o _ _ _ _ q]; exact b2 j (by omega)
  · have e7 := own_sins (I 7) (nd * 64) 0 n (Int32.ofNat n) i (by omega) (Nat.zero_le _)
    have e8 := own_sins (I 8) (nd * 64) 0 n (0 : Int32) i (by omega) (Nat.zero_le _)
    have e9 := own_sins (I 9) (nd * 64) 0 n (0 : Int32) i (by omega) (Nat.zero_le _)
    have e10 := own_sins (I 10) (nd * 64) 0 n f3 i (by omega) (Nat.zero_le _)
    have e20 := own_sins (J 20) (nd * 64) 0 n f1 i (by omega) (Nat.zero_le _)
    have e21 := own_sins (J 21) (nd * 64) 0 n f2 i (by omega) (Nat.zero_le _)
    have e19 := own_sins (J 19) (nd * 64) 0 n (0 : Int64) i (by omega) (Nat.zero_le _)
    have w7 : (ui I 3 n 0) 7 = I 7 := own_ui_k _ 3 7 _ _ (by omega)
    have w8 : (ui I 3 n 0) 8 = I 8 := own_ui_k _ 3 8 _ _ (by omega)
    have w9 : (ui I 3 n 0) 9 = I 9 := own_ui_k _ 3 9 _ _ (by omega)
    have w10 : (ui I 3 n 0) 10 = I 10 := own_ui_k _ 3 10 _ _ (by omega)
    have x20 : (ui (ui J 17 n h1) 18 n h2) 20 = J 20 := rfl
    have x21 : (ui (ui J 17 n h1) 18 n h2) 21 = J 21 := rfl
    have x19 : (ui (ui J 17 n h1) 18 n h2) 19 = J 19 := rfl
    have k17 : ∀ x, x ≠ n → (ui (ui J 17 n h1) 18 n h2) 17 x = J 17 x := fun x hx => if_neg hx
    have k18 : ∀ x, x ≠ n → (ui (ui J 17 n h1) 18 n h2) 18 x = J 18 x := fun x hx => if_neg hx
    have t10 : ∀ x, (ui (adI (ui I 3 n 0) nd 0 n n f3 P S) 10 (nd * 64 + 1) (-1)) 10 x = if x = nd * 64 + 1 then -1 else adI (ui I 3 n 0) nd 0 n n f3 P S 10 x := fun x => rfl
    have t20 : ∀ x, (ui (ui (adJ (ui (ui J 17 n h1) 18 n h2) nd 0 n f1 f2) 20 (nd * 64 + 1) (kh 0)) 21 (nd * 64 + 1) (kl 0)) 20 x = if x = nd * 64 + 1 then kh 0 else adJ (ui (ui J 17 n h1) 18 n h2) nd 0 n f1 f2 20 x := fun x => rfl
    have t21 : ∀ x, (ui (ui (adJ (ui (ui J 17 n h1) 18 n h2) nd 0 n f1 f2) 20 (nd * 64 + 1) (kh 0)) 21 (nd * 64 + 1) (kl 0)) 21 x = if x = nd * 64 + 1 then kl 0 else adJ (ui (ui J 17 n h1) 18 n h2) nd 0 n f1 f2 21 x := fun x => rfl
    unfold GP
    rw [t10, t20, t21, E 7 (by omega), E 8 (by omega), E 9 (by omega), E 4 (by omega), E 5 (by omega), E 3 (by omega), F 17 (by omega) (by omega), F 18 (by omega) (by omega), F 19 (by omega) (by omega)]
    rw [ad_7, ad_8, ad_9, ad_10, ad_4, ad_5, ad_o _ _ _ _ _ _ _ _ 3 (by omega), aj_19, aj_20, aj_21, aj_o _ _ _ _ _ _ 17 (by omega), aj_o _ _ _ _ _ _ 18 (by omega), w7, w8, w9, w10, x20, x21, x19, e7, e8, e9, e10, e20, e21, e19]
    have c1 : ¬ i < 0 := by omega
    by_cases c2 : i = 0
    · obtain ⟨p1, p2⟩ := q1 i (by omega) hi
      unfold sins at p1 p2 ⊢
      simp only [if_neg c1, if_pos c2] at p1 p2 ⊢
      exact ⟨trivial, by omega, p1, p2, if_pos rfl, if_pos rfl, fun h => absurd c2 h, by first | rfl | trivial, own_ui _ _ _ _, by omega, by first | rfl | trivial, by first | rfl | trivial, fun j hj => absurd hj (by omega)⟩
    · obtain ⟨f1, f2, f3, f4, f5, f6, f7, f8, f9, f10, f11, f12, f13⟩ := g (i - 1) (by omega)
      have hne : ch (i - 1) ≠ n := by have := lt (i - 1) (by omega); omega
      obtain ⟨p1, p2⟩ := q1 i (by omega) hi
      unfold sins at p1 p2 ⊢
      simp only [if_neg c1, if_neg c2] at p1 p2 ⊢
      refine ⟨f1, by omega, p1, p2, (k17 _ hne).trans f5, (k18 _ hne).trans f6, fun _ => ?_, f8, ?_, f10, f11, f12, fun j hj => ?_⟩
      · by_cases c3 : i = 1
        · subst c3; exact ⟨if_pos rfl, if_pos rfl, if_pos rfl⟩
        · obtain ⟨g1, g2, g3⟩ := f7 (by omega)
          exact ⟨(if_neg (by omega)).trans g1, (if_neg (by omega)).trans g2, (if_neg (by omega)).trans g3⟩
      · rw [own_ui_j _ _ _ _ _ hne]; exact f9
      · rw [if_neg hne]; exact f13 j hj
  · unfold sins at e
    rw [if_neg (by omega : ¬ i < 0), if_neg (by omega : ¬ i' < 0)] at e
    by_cases c2 : i = 0
    · by_cases d2 : i' = 0
      · omega
      · rw [if_pos c2, if_neg d2] at e; have := lt (i' - 1) (by omega); omega
    · by_cases d2 : i' = 0
      · rw [if_neg c2, if_pos d2] at e; have := lt (i - 1) (by omega); omega
      · rw [if_neg c2, if_neg d2] at e; have := inj _ _ (by omega) (by omega) e; omega
  · rw [E 0 (by omega), F 16 (by omega) (by omega), ad_o _ _ _ _ _ _ _ _ 0 (by omega), own_ui_k _ 3 0 _ _ (by omega), aj_o _ _ _ _ _ _ 16 (by omega)]
    exact z s hs
/-- a server goes into the group q -/
theorem TS.put {I I' : Nat → Nat → Int32} {J : Nat → Nat → Int64} {cc : Nat → Int32} {M : Nat → Option Addr} {B B' : Nat → Nat → Int32} {tr nd n : Nat} {ch : Nat → Nat} {kh kl : Nat → Int64} {sz : Nat → Nat} {mb : Nat → Nat → Nat}
    (H : TS I J cc M B tr nd n ch kh kl sz mb) {q : Nat} (hq : q < n) (hz : sz q + 1 ≤ 3) (m' : Nat → Nat) (hI : ∀ k, k ≠ 1 → I' k = ui (ui I 3 (ch q) (Int32.ofNat (sz q + 1))) 8 (nd * 64 + q) (Int32.ofNat (sz q + 1)) k) (hB : ∀ c, c ≠ ch q → B' c = B c) (hm : ∀ j, j < sz q + 1 → B' (ch q) j = Int32.ofNat (m' j) ∧ m' j < 3) :
    TS I' J cc M B' tr nd n ch kh kl (u1 sz q (sz q + 1)) (u1 mb q m') := by
  obtain ⟨⟨a1, a2, a3, a4, a5, a6, a7⟩, b1, b2, g, inj, z⟩ := H
  have E : ∀ k, k ≠ 1 → k ≠ 3 → k ≠ 8 → I' k = I k := fun k h1 h2 h3 => by rw [hI k h1, own_ui_k _ _ _ _ _ h3, own_ui_k _ _ _ _ _ h2]
  have E3 : I' 3 = u1 (I 3) (ch q) (Int32.ofNat (sz q + 1)) := by rw [hI 3 (by omega)]; rfl
  have E8 : I' 8 = u1 (I 8) (nd * 64 + q) (Int32.ofNat (sz q + 1)) := by rw [hI 8 (by omega)]; rfl
  refine ⟨⟨by rw [E 2 (by omega) (by omega) (by omega)]; exact a1, by rw [E 12 (by omega) (by omega) (by omega)]; exact a2, by rw [E 13 (by omega) (by omega) (by omega)]; exact a3, by rw [E 11 (by omega) (by omega) (by omega)]; exact a4, a5, a6, a7⟩, b1, b2, fun i hi => ?_, inj, fun s hs => by rw [E 0 (by omega) (by omega) (by omega)]; exact z s hs⟩
  obtain ⟨f1, f2, f3, f4, f5, f6, f7, f8, f9, f10, f11, f12, f13⟩ := g i hi
  unfold GP
  rw [E 7 (by omega) (by omega) (by omega), E 4 (by omega) (by omega) (by omega), E 5 (by omega) (by omega) (by omega), E 10 (by omega) (by omega) (by omega), E 9 (by omega) (by omega) (by omega), E3, E8]
  by_cases c : i = q
  · subst c
    rw [own_u1s, own_u1s, own_u1s, own_u1s]
    exact ⟨f1, f2, f3, f4, f5, f6, f7, rfl, rfl, hz, f11, f12, hm⟩
  · have hne : ch i ≠ ch q := fun e => c (inj _ _ hi hq e)
    rw [own_u1o _ _ _ _ (show nd * 64 + i ≠ nd * 64 + q by omega), own_u1o _ _ _ _ hne, own_u1o _ _ _ _ c, own_u1o _ _ _ _ c]
    refine ⟨f1, f2, f3, f4, f5, f6, f7, f8, f9, f10, f11, f12, fun j hj => ?_⟩
    rw [hB _ hne]; exact f13 j hj
/-- the empty tree, its root made -/
theorem TS.start {I : Nat → Nat → Int32} {J : Nat → Nat → Int64} {cc : Nat → Int32} {M : Nat → Option Addr} {B : Nat → Nat → Int32} {tr nd : Nat} (a1 : I 2 tr = Int32.ofNat nd) (a2 : I 12 nd = 1) (a3 : I 13 nd = -1) (a4 : I 11 nd = 0) (a6 : cc 0 = 0) (a7 : cc 1 = 0) (hM : ∀ j, M j = none) (z : ∀ s, s < 3 → I 0 s = 0 ∧ J 16 s = 0) (ch : Nat → Nat) (kh kl : Nat → Int64) (sz : Nat → Nat) (mb : Nat → Nat → Nat) : TS I J cc M B tr nd 0 ch kh kl sz mb :=
  ⟨⟨a1, a2, a3, a4, by omega, a6, a7⟩, fun j _ _ => hM j, fun j hj => absurd hj (by omega), fun i hi => absurd hi (by omega), fun i i' hi => absurd hi (by omega), z⟩
def tot (sz : Nat → Nat) : Nat → Nat
  | 0 => 0
  | n + 1 => tot sz n + sz n
def INV (n : Nat) (kh kl : Nat → Int64) (sz : Nat → Nat) (mb : Nat → Nat → Nat) (kv : Nat → Int) (A : Nat → Prop) : Prop :=
  (∀ i i', i < i' → i' < n → own_kv (kh i) (kl i) < own_kv (kh i') (kl i')) ∧ (∀ i, i < n → 1 ≤ sz i) ∧ (∀ i j, i < n → j < sz i → kv (mb i j) = own_kv (kh i) (kl i) ∧ mb i j < 3 ∧ A (mb i j)) ∧ (∀ i j j', i < n → j < j' → j' < sz i → mb i j < mb i j')
theorem tot_u {sz : Nat → Nat} {q n x : Nat} (h : q < n) : tot (u1 sz q x) n + sz q = tot sz n + x := by
  induction n with
  | zero => omega
  | succ n ih =>
    show tot (u1 sz q x) n + u1 sz q x n + sz q = tot sz n + sz n + x
    by_cases c : q = n
    · subst c
      have : ∀ m, m ≤ q → tot (u1 sz q x) m = tot sz m := by
        intro m
        induction m with
        | zero => intro _; rfl
        | succ m im => intro hm; show tot (u1 sz q x) m + u1 sz q x m = tot sz m + sz m; rw [im (by omega), own_u1o _ _ _ _ (by omega)]
      rw [this q (Nat.le_refl _), own_u1s]; omega
    · have := ih (by omega); rw [own_u1o _ _ _ _ (by omega)]; omega
theorem tot_s {sz : Nat → Nat} {sl n x : Nat} (h : sl ≤ n) : tot (sins sz sl x) (n + 1) = tot sz n + x := by
  have lo : ∀ m, m ≤ sl → tot (sins sz sl x) m = tot sz m := by
    intro m
    induction m with
    | zero => intro _; rfl
    | succ m im => intro hm; show tot (sins sz sl x) m + sins sz sl x m = tot sz m + sz m; rw [im (by omega)]; unfold sins; rw [if_pos (by omega)]
  induction n with
  | zero =>
    obtain rfl : sl = 0 := by omega
    show 0 + sins sz 0 x 0 = 0 + x
    unfold sins; simp
  | succ n ih =>
    show tot (sins sz sl x) (n + 1) + sins sz sl x (n + 1) = tot sz n + sz n + x
    by_cases c : sl = n + 1
    · rw [lo (n + 1) (by omega)]; unfold sins; rw [if_neg (by omega), if_pos c.symm]; rfl
    · rw [ih (by omega)]; unfold sins; rw [if_neg (by omega), if_neg (by omega), Nat.add_sub_cancel]; omega
theorem INV.eq {n : Nat} {kh kl : Nat → Int64} {sz : Nat → Nat} {mb : Nat → Nat → Nat} {kv : Nat → Int} {A : Nat → Prop} (H : INV n kh kl sz mb kv A) {q sv p : Nat} (hsv : sv < 3) (hk : kv sv = own_kv (kh q) (kl q)) (hp : p ≤ sz q) (h1 : ∀ j, j < p → mb q j < sv) (h2 : ∀ j, p ≤ j → j < sz q → sv < mb q j) :
    INV n kh kl (u1 sz q (sz q + 1)) (u1 mb q (sins (mb q) p sv)) kv (fun x => A x ∨ x = sv) := by
  obtain ⟨a, b, c, d⟩ := H
  refine ⟨a, fun i hi => ?_, fun i j hi hj => ?_, fun i j j' hi hj hj' => ?_⟩
  · unfold u1; by_cases e : i = q
    · rw [if_pos e]; omega
    · rw [if_neg e]; exact b i hi
  · by_cases e : i = q
    · subst e
      rw [own_u1s] at hj ⊢
      unfold sins
      by_cases e1 : j < p
      · rw [if_pos e1]; obtain ⟨x, y, z⟩ := c i j hi (by omega); exact ⟨x, y, Or.inl z⟩
      · rw [if_neg e1]
        by_cases e2 : j = p
        · rw [if_pos e2]; exact ⟨hk, hsv, Or.inr rfl⟩
        · rw [if_neg e2]; obtain ⟨x, y, z⟩ := c i (j - 1) hi (by omega); exact ⟨x, y, Or.inl z⟩
    · rw [own_u1o _ _ _ _ e] at hj ⊢; obtain ⟨x, y, z⟩ := c i j hi hj; exact ⟨x, y, Or.inl z⟩
  · by_cases e : i = q
    · subst e
      rw [own_u1s] at hj' ⊢
      unfold sins
      by_cases e1 : j < p
      · rw [if_pos e1]
        by_cases f1 : j' < p
        · rw [if_pos f1]; exact d i j j' hi hj (by omega)
        · rw [if_neg f1]
          by_cases f2 : j' = p
          · rw [if_pos f2]; exact h1 j e1
          · rw [if_neg f2]; exact d i j (j' - 1) hi (by omega) (by omega)
      · rw [if_neg e1, if_neg (by omega : ¬ j' < p), if_neg (by omega : ¬ j' = p)]
        by_cases e2 : j = p
        · rw [if_pos e2]; exact h2 _ (by omega) (by omega)
        · rw [if_neg e2]; exact d i _ _ hi (by omega) (by omega)
    · rw [own_u1o _ _ _ _ e] at hj' ⊢; exact d i j j' hi hj hj'
theorem INV.new {n : Nat} {kh kl : Nat → Int64} {sz : Nat → Nat} {mb : Nat → Nat → Nat} {kv : Nat → Int} {A : Nat → Prop} (H : INV n kh kl sz mb kv A) {sl sv : Nat} {x y : Int64} (hsl : sl ≤ n) (hsv : sv < 3) (hk : kv sv = own_kv x y) (h1 : ∀ i, i < sl → own_kv (kh i) (kl i) < own_kv x y) (h2 : ∀ i, sl ≤ i → i < n → own_kv x y < own_kv (kh i) (kl i)) {m0 : Nat → Nat} (hm : m0 0 = sv) :
    INV (n + 1) (sins kh sl x) (sins kl sl y) (u1 (sins sz sl 0) sl 1) (u1 (sins mb sl (fun _ => 0)) sl m0) kv (fun x => A x ∨ x = sv) := by
  obtain ⟨a, b, c, d⟩ := H
  have K : ∀ i, own_kv (sins kh sl x i) (sins kl sl y i) = if i < sl then own_kv (kh i) (kl i) else if i = sl then own_kv x y else own_kv (kh (i - 1)) (kl (i - 1)) := by
    intro i; unfold sins
    by_cases e1 : i < sl
    · simp only [if_pos e1]
    · by_cases e2 : i = sl
      · simp only [if_neg e1, if_pos e2]
      · simp only [if_neg e1, if_neg e2]
  refine ⟨fun i i' hi hi' => ?_, fun i hi => ?_, fun i j hi hj => ?_, fun i j j' hi hj hj' => ?_⟩
  · rw [K, K]
    by_cases e1 : i < sl
    · rw [if_pos e1]
      by_cases f1 : i' < sl
      · rw [if_pos f1]; exact a i i' hi (by omega)
      · rw [if_neg f1]
        by_cases f2 : i' = sl
        · rw [if_pos f2]; exact h1 i e1
        · rw [if_neg f2]; exact a i (i' - 1) (by omega) (by omega)
    · rw [if_neg e1, if_neg (by omega : ¬ i' < sl), if_neg (by omega : ¬ i' = sl)]
      by_cases e2 : i = sl
      · rw [if_pos e2]; exact h2 _ (by omega) (by omega)
      · rw [if_neg e2]; exact a _ _ (by omega) (by omega)
  · by_cases e : i = sl
    · rw [e, own_u1s]; omega
    · rw [own_u1o _ _ _ _ e]; unfold sins
      by_cases e1 : i < sl
      · rw [if_pos e1]; exact b i (by omega)
      · rw [if_neg e1, if_neg e]; exact b _ (by omega)
  · rw [K]
    by_cases e : i = sl
    · subst e
      rw [own_u1s] at hj ⊢
      obtain rfl : j = 0 := by omega
      rw [if_neg (by omega), if_pos rfl, hm]; exact ⟨hk, hsv, Or.inr rfl⟩
    · rw [own_u1o _ _ _ _ e] at hj ⊢
      unfold sins at hj ⊢
      by_cases e1 : i < sl
      · rw [if_pos e1] at hj ⊢; rw [if_pos e1]; obtain ⟨x, y, z⟩ := c i j (by omega) hj; exact ⟨x, y, Or.inl z⟩
      · rw [if_neg e1, if_neg e] at hj ⊢; rw [if_neg e1, if_neg e]; obtain ⟨x, y, z⟩ := c (i - 1) j (by omega) hj; exact ⟨x, y, Or.inl z⟩
  · by_cases e : i = sl
    · subst e; rw [own_u1s] at hj'; omega
    · rw [own_u1o _ _ _ _ e] at hj' ⊢
      unfold sins at hj' ⊢
      by_cases e1 : i < sl
      · rw [if_pos e1] at hj' ⊢; exact d i j j' (by omega) hj hj'
      · rw [if_neg e1, if_neg e] at hj' ⊢; exact d (i - 1) j j' (by omega) hj hj'
def fltn (sz : Nat → Nat) (mb : Nat → Nat → Nat) (r : Nat) : Nat := if r < sz 0 then mb 0 r else if r - sz 0 < sz 1 then mb 1 (r - sz 0) else mb 2 (r - sz 0 - sz 1)
def bfn (kv : Nat → Int) (s t : Nat) : Prop := kv s < kv t ∨ (kv s = kv t ∧ s < t)
theorem own_n3 {n : Nat} {kh kl : Nat → Int64} {sz : Nat → Nat} {mb : Nat → Nat → Nat} {kv : Nat → Int} {A : Nat → Prop} (H : INV n kh kl sz mb kv A) (h : tot sz n = 3) : (n = 1 ∧ sz 0 = 3) ∨ (n = 2 ∧ sz 0 = 1 ∧ sz 1 = 2) ∨ (n = 2 ∧ sz 0 = 2 ∧ sz 1 = 1) ∨ (n = 3 ∧ sz 0 = 1 ∧ sz 1 = 1 ∧ sz 2 = 1) := by
  have b := H.2.1
  match n, h, b with
  | 0, h, _ => exact absurd h (by show ¬ (0 = 3); omega)
  | 1, h, b => have : 0 + sz 0 = 3 := h; omega
  | 2, h, b => have : 0 + sz 0 + sz 1 = 3 := h; have := b 0 (by omega); have := b 1 (by omega); omega
  | 3, h, b => have : 0 + sz 0 + sz 1 + sz 2 = 3 := h; have := b 0 (by omega); have := b 1 (by omega); have := b 2 (by omega); omega
  | n + 4, h, b =>
    have : tot sz n + sz n + sz (n + 1) + sz (n + 2) + sz (n + 3) = 3 := h
    have := b n (by omega); have := b (n + 1) (by omega); have := b (n + 2) (by omega); have := b (n + 3) (by omega); omega
theorem own_flt {n : Nat} {kh kl : Nat → Int64} {sz : Nat → Nat} {mb : Nat → Nat → Nat} {kv : Nat → Int} {A : Nat → Prop} (H : INV n kh kl sz mb kv A) (h : tot sz n = 3) : (∀ r, r < 3 → fltn sz mb r < 3) ∧ bfn kv (fltn sz mb 0) (fltn sz mb 1) ∧ bfn kv (fltn sz mb 1) (fltn sz mb 2) ∧ bfn kv (fltn sz mb 0) (fltn sz mb 2) := by
  obtain ⟨a, b, c, d⟩ := id H
  have three : ∀ P : Nat → Prop, P 0 → P 1 → P 2 → ∀ r, r < 3 → P r := fun P p0 p1 p2 r hr => match r, hr with
    | 0, _ => p0
    | 1, _ => p1
    | 2, _ => p2
  rcases own_n3 H h with ⟨rfl, z0⟩ | ⟨rfl, z0, z1⟩ | ⟨rfl, z0, z1⟩ | ⟨rfl, z0, z1, z2⟩
  · have f0 : fltn sz mb 0 = mb 0 0 := by unfold fltn; rw [z0]; rfl
    have f1 : fltn sz mb 1 = mb 0 1 := by unfold fltn; rw [z0]; rfl
    have f2 : fltn sz mb 2 = mb 0 2 := by unfold fltn; rw [z0]; rfl
    obtain ⟨k0, m0, -⟩ := c 0 0 (by omega) (by omega); obtain ⟨k1, m1, -⟩ := c 0 1 (by omega) (by omega); obtain ⟨k2, m2, -⟩ := c 0 2 (by omega) (by omega)
    have d1 := d 0 0 1 (by omega) (by omega) (by omega); have d2 := d 0 1 2 (by omega) (by omega) (by omega)
    refine ⟨three _ (f0 ▸ m0) (f1 ▸ m1) (f2 ▸ m2), ?_, ?_, ?_⟩ <;> (unfold bfn; simp only [f0, f1, f2]; omega)
  · have f0 : fltn sz mb 0 = mb 0 0 := by unfold fltn; rw [z0]; rfl
    have f1 : fltn sz mb 1 = mb 1 0 := by unfold fltn; rw [z0, z1]; rfl
    have f2 : fltn sz mb 2 = mb 1 1 := by unfold fltn; rw [z0, z1]; rfl
    obtain ⟨k0, m0, -⟩ := c 0 0 (by omega) (by omega); obtain ⟨k1, m1, -⟩ := c 1 0 (by omega) (by omega); obtain ⟨k2, m2, -⟩ := c 1 1 (by omega) (by omega)
    have d1 := a 0 1 (by omega) (by omega); have d2 := d 1 0 1 (by omega) (by omega) (by omega)
    refine ⟨three _ (f0 ▸ m0) (f1 ▸ m1) (f2 ▸ m2), ?_, ?_, ?_⟩ <;> (unfold bfn; simp only [f0, f1, f2]; omega)
  · have f0 : fltn sz mb 0 = mb 0 0 := by unfold fltn; rw [z0]; rfl
    have f1 : fltn sz mb 1 = mb 0 1 := by unfold fltn; rw [z0]; rfl
    have f2 : fltn sz mb 2 = mb 1 0 := by unfold fltn; rw [z0, z1]; rfl
    obtain ⟨k0, m0, -⟩ := c 0 0 (by omega) (by omega); obtain ⟨k1, m1, -⟩ := c 0 1 (by omega) (by omega); obtain ⟨k2, m2, -⟩ := c 1 0 (by omega) (by omega)
    have d1 := a 0 1 (by omega) (by omega); have d2 := d 0 0 1 (by omega) (by omega) (by omega)
    refine ⟨three _ (f0 ▸ m0) (f1 ▸ m1) (f2 ▸ m2), ?_, ?_, ?_⟩ <;> (unfold bfn; simp only [f0, f1, f2]; omega)
  · have f0 : fltn sz mb 0 = mb 0 0 := by unfold fltn; rw [z0]; rfl
    have f1 : fltn sz mb 1 = mb 1 0 := by unfold fltn; rw [z0, z1]; rfl
    have f2 : fltn sz mb 2 = mb 2 0 := by unfold fltn; rw [z0, z1]; rfl
    obtain ⟨k0, m0, -⟩ := c 0 0 (by omega) (by omega); obtain ⟨k1, m1, -⟩ := c 1 0 (by omega) (by omega); obtain ⟨k2, m2, -⟩ := c 2 0 (by omega) (by omega)
    have d1 := a 0 1 (by omega) (by omega); have d2 := a 1 2 (by omega) (by omega)
    refine ⟨three _ (f0 ▸ m0) (f1 ▸ m1) (f2 ▸ m2), ?_, ?_, ?_⟩ <;> (unfold bfn; simp only [f0, f1, f2]; omega)
/-- how many stand before k -/
def rkn (bf : Nat → Nat → Bool) (k : Nat) : Nat := (if (k != 0 && bf 0 k) = true then 1 else 0) + (if (k != 1 && bf 1 k) = true then 1 else 0) + (if (k != 2 && bf 2 k) = true then 1 else 0)
theorem own_rank {kv : Nat → Int} {bf : Nat → Nat → Bool} (hb : ∀ s t, bf s t = true ↔ bfn kv s t) {f : Nat → Nat} (h3 : ∀ r, r < 3 → f r < 3) (b01 : bfn kv (f 0) (f 1)) (b12 : bfn kv (f 1) (f 2)) (b02 : bfn kv (f 0) (f 2)) (k : Nat) (hk : k < 3) : rkn bf k < 3 ∧ f (rkn bf k) = k := by
  have irr : ∀ s, bf s s = false := fun s => by
    cases e : bf s s with
    | false => rfl
    | true => have := (hb s s).mp e; unfold bfn at this; omega
  have asy : ∀ s t, bfn kv s t → bf s t = true ∧ bf t s = false := fun s t h => ⟨(hb s t).mpr h, by
    cases e : bf t s with
    | false => rfl
    | true => have := (hb t s).mp e; unfold bfn at this h; omega⟩
  obtain ⟨p1, p2⟩ := asy _ _ b01
  obtain ⟨p3, p4⟩ := asy _ _ b12
  obtain ⟨p5, p6⟩ := asy _ _ b02
  have q0 := h3 0 (by omega); have q1 := h3 1 (by omega); have q2 := h3 2 (by omega)
  have n01 : f 0 ≠ f 1 := fun e => by rw [e, irr] at p1; cases p1
  have n12 : f 1 ≠ f 2 := fun e => by rw [e, irr] at p3; cases p3
  have n02 : f 0 ≠ f 2 := fun e => by rw [e, irr] at p5; cases p5
  have key : rkn bf (f 0) = 0 ∧ rkn bf (f 1) = 1 ∧ rkn bf (f 2) = 2 := by
    generalize f 0 = x at *; generalize f 1 = y at *; generalize f 2 = z at *
    have hx : x = 0 ∨ x = 1 ∨ x = 2 := by omega
    have hy : y = 0 ∨ y = 1 ∨ y = 2 := by omega
    have hz : z = 0 ∨ z = 1 ∨ z = 2 := by omega
    rcases hx with rfl | rfl | rfl <;> rcases hy with rfl | rfl | rfl <;> rcases hz with rfl | rfl | rfl <;> first | omega | (simp [rkn, p1, p2, p3, p4, p5, p6])
  have : k = f 0 ∨ k = f 1 ∨ k = f 2 := by omega
  rcases this with e | e | e
  · rw [e, key.1]; exact ⟨by omega, rfl⟩
  · rw [e, key.2.1]; exact ⟨by omega, rfl⟩
  · rw [e, key.2.2]; exact ⟨by omega, rfl⟩
set_option maxHeartbeats 4000000 in
theorem lpC (i : Nat) : ∀ {p : Program} {l : Launch} {e : Env} {R : Room} {s : State} {m : MethodId} {args : Array Value} {below : List Frame} {meth : Method} {c : Code} {T0 : State} {locs : List Loc} {cells slots : Nat} {Z : State} {a0 : Array Value} {h0 : Heap} (a1 : Addr) (A : Nat → Addr) (N : Nat → Nat) (I : Nat → Nat → Int32) (J : Nat → Nat → Int64) (cc : Nat → Int32) (M : Nat → Option Addr) (B : Nat → Nat → Int32) (nb nd tr sv lf k1 : Nat) (kh kl : Int64) (b1 : Addr) (s7 s13 s14 s15 : Slot) (mm : Nat → Nat) (X0 : Stand p l e R s m args below meth c T0 locs cells slots) (hx : p.tables.exec = Jvm.exec) (hZ : Z.Warmed39 s.vm) (hw : ∀ d ∈ tables_1, d.before a0 Z = true) (hby : c.code = prog_74_method_2_code) (hml : c.maxLocals = 16) (hown : s.vm.findClass "com/example/ebbtide/ebbtide/cluster/LoadTrees" = some m.cls) (e0 : T0.heap = h0) (n0 : Nat) (N0 : Fr n0 locs) (Z0 : n0 ≤ h0.size) (L0 : LT Z h0 n0 a1 A N I J cc M B) (hS : SZ N nb) (hnd : nd < nb) (hnb : nb < 1000) (hsv : sv < 3) (hlf : lf < 4) (hM : M lf = some b1) (hi : i < 4) (hm : ∀ j, j < i → B lf j = Int32.ofNat (mm j) ∧ mm j < 3 ∧ mm j ≠ sv) (hso : ∀ j j', j < j' → j' < i → mm j < mm j'),
    ∃ (T' : State) (h' : Heap) (L' : List Loc) (I' B' : Nat → Nat → Int32) (pp : Nat), Stand p l e R s m args below meth c T' L' cells slots ∧ T'.heap = h' ∧ Fr n0 L' ∧ KN n0 h0 h' ∧ LT Z h' n0 a1 A N I' J cc M B' ∧ pp ≤ i ∧ (∀ k, k ≠ 1 → I' k = I k) ∧ (∀ c, c ≠ lf → B' c = B c) ∧ (∀ j, j < pp → mm j < sv) ∧ (∀ j, pp ≤ j → j < i → sv < mm j) ∧ (∀ j, j < pp → B' lf j = Int32.ofNat (mm j)) ∧ (∀ j, pp < j → j ≤ i → B' lf j = Int32.ofNat (mm (j - 1))) ∧ (∀ j, i < j → B' lf j = B lf j) ∧
      (∀ t, Steps p.tables e below (T'.setTop (mkF m 602 #[vR a1, vN (tr), vN (sv), vJ kh, .second, vJ kl, .second, s7, vN (lf), vR b1, vN (k1), vN (lf * 64), vN (pp), s13, s14, s15] [])) t → Steps p.tables e below (T0.setTop (mkF m 553 #[vR a1, vN (tr), vN (sv), vJ kh, .second, vJ kl, .second, s7, vN (lf), vR b1, vN (k1), vN (lf * 64), vN (i), s13, s14, s15] [])) t) := by
  induction i with
  | zero =>
    intro p l e R s m args below meth c T0 locs cells slots Z a0 h0 a1 A N I J cc M B nb nd tr sv lf k1 kh kl b1 s7 s13 s14 s15 mm X0 hx hZ hw hby hml hown e0 n0 N0 Z0 L0 hS hnd hnb hsv hlf hM hi hm hso
    obtain ⟨T', h', L', X', e', N', K', hh, st'⟩ := sgCz a1 A N I J cc M B nb nd tr sv lf k1 kh kl b1 s7 s13 s14 s15 X0 hx hZ hw hby hml hown e0 n0 N0 Z0 L0 hS hnd hnb hsv hlf hM
    subst hh
    exact ⟨T', h', L', I, B, 0, X', e', N', K', L0, Nat.le_refl _, fun _ _ => rfl, fun _ _ => rfl, fun j hj => absurd hj (by omega), fun j _ hj => absurd hj (by omega), fun j hj => absurd hj (by omega), fun j h1 h2 => absurd h1 (by omega), fun _ _ => rfl, st'⟩
  | succ i ih =>
    intro p l e R s m args below meth c T0 locs cells slots Z a0 h0 a1 A N I J cc M B nb nd tr sv lf k1 kh kl b1 s7 s13 s14 s15 mm X0 hx hZ hw hby hml hown e0 n0 N0 Z0 L0 hS hnd hnb hsv hlf hM hi hm hso
    obtain ⟨m1, m2, m3⟩ := hm i (Nat.lt_succ_self i)
    by_cases c : mm i < sv
    · obtain ⟨T', h', L', X', e', N', K', hh, st'⟩ := sgCe a1 A N I J cc M B nb nd tr sv lf k1 kh kl b1 s7 s13 s14 s15 i (mm i) X0 hx hZ hw hby hml hown e0 n0 N0 Z0 L0 hS hnd hnb hsv hlf hM hi m1 m2 c
      subst hh
      refine ⟨T', h', L', I, B, i + 1, X', e', N', K', L0, Nat.le_refl _, fun _ _ => rfl, fun _ _ => rfl, fun j hj => ?_, fun j h1 h2 => absurd h1 (by omega), fun j hj => (hm j hj).1, fun j h1 h2 => absurd h1 (by omega), fun _ _ => rfl, st'⟩
      by_cases d : j = i
      · rw [d]; exact c
      · exact Nat.lt_trans (hso j i (by omega) (Nat.lt_succ_self i)) c
    · obtain ⟨T1, h1, L1, X1, e1, N1, K1, Lq, st1⟩ := sgCt a1 A N I J cc M B nb nd tr sv lf k1 kh kl b1 s7 s13 s14 s15 i (mm i) X0 hx hZ hw hby hml hown e0 n0 N0 Z0 L0 hS hnd hnb hsv hlf hM hi m1 m2 (by omega)
      obtain ⟨T2, h2, L2, I', B', pp, X2, e2, N2, K2, Lr, r1, r2, r3, r4, r5, r6, r7, r8, st2⟩ := ih a1 A N _ J cc M _ nb nd tr sv lf k1 kh kl b1 s7 s13 s14 s15 mm X1 hx hZ hw hby hml hown e1 n0 N1 (Nat.le_trans Z0 K1.1) Lq hS hnd hnb hsv hlf hM (by omega) (fun j hj => ⟨(own_ui_j _ _ _ _ _ (by omega)).trans (hm j (by omega)).1, (hm j (by omega)).2⟩) (fun j j' a b => hso j j' a (by omega))
      refine ⟨T2, h2, L2, I', B', pp, X2, e2, N2, K1.trans K2, Lr, by omega, fun k hk => (r2 k hk).trans (own_ui_k _ _ _ _ _ hk), fun x hx => (r3 x hx).trans (own_ui_k _ _ _ _ _ hx), r4, fun j a b => ?_, r6, fun j a b => ?_, fun j a => (r8 j (by omega)).trans (own_ui_j _ _ _ _ _ (by omega)), fun t kt => st1 t (st2 t kt)⟩
      · by_cases d : j = i
        · rw [d]; omega
        · exact r5 j a (by omega)
      · by_cases d : j = i + 1
        · rw [d, r8 _ (Nat.lt_succ_self i)]; exact own_ui _ _ _ _
        · exact r7 j a (by omega)
theorem own_uic {X Y : Nat → Nat → Int32} (h : ∀ k, k ≠ 1 → X k = Y k) {a j : Nat} {v : Int32} (ha : a ≠ 1) : ∀ k, k ≠ 1 → ui X a j v k = ui Y a j v k := by
  intro k hk; unfold ui u1
  by_cases c : k = a
  · rw [if_pos c, if_pos c, h a ha]
  · rw [if_neg c, if_neg c, h k hk]
set_option maxHeartbeats 4000000 in
theorem sgC {p : Program} {l : Launch} {e : Env} {R : Room} {s : State} {m : MethodId} {args : Array Value} {below : List Frame} {meth : Method} {c : Code} {T0 : State} {locs : List Loc} {cells slots : Nat} {Z : State} {a0 : Array Value} {h0 : Heap} (a1 : Addr) (A : Nat → Addr) (N : Nat → Nat) (I : Nat → Nat → Int32) (J : Nat → Nat → Int64) (cc : Nat → Int32) (M : Nat → Option Addr) (B : Nat → Nat → Int32) (nb nd tr sv : Nat) (kh kl : Int64) (n : Nat) (ch : Nat → Nat) (kf lf_ : Nat → Int64) (sz : Nat → Nat) (mb : Nat → Nat → Nat) (q : Nat) (s7 s9 s10 s11 s12 s13 s14 s15 : Slot) (X0 : Stand p l e R s m args below meth c T0 locs cells slots) (hx : p.tables.exec = Jvm.exec) (hZ : Z.Warmed39 s.vm) (hw : ∀ d ∈ tables_1, d.before a0 Z = true) (hby : c.code = prog_74_method_2_code) (hml : c.maxLocals = 16) (hown : s.vm.findClass "com/example/ebbtide/ebbtide/cluster/LoadTrees" = some m.cls) (e0 : T0.heap = h0) (n0 : Nat) (N0 : Fr n0 locs) (Z0 : n0 ≤ h0.size) (L0 : LT Z h0 n0 a1 A N I J cc M B) (hS : SZ N nb) (hnd : nd < nb) (hnb : nb < 1000) (hsv : sv < 3) (HT : TS I J cc M B tr nd n ch kf lf_ sz mb) (hq : q < n) (hz : sz q + 1 ≤ 3) (hso : ∀ j j', j < j' → j' < sz q → mb q j < mb q j') (hno : ∀ j, j < sz q → mb q j ≠ sv) (o9 : One s9) (o10 : One s10) (o11 : One s11) (o12 : One s12) (o13 : One s13) (o14 : One s14) (o15 : One s15) :
    ∃ (T' : State) (h' : Heap) (L' : List Loc) (I' B' : Nat → Nat → Int32) (pp : Nat) (b1 : Addr), Stand p l e R s m args below meth c T' L' cells slots ∧ T'.heap = h' ∧ Fr n0 L' ∧ KN n0 h0 h' ∧ LT Z h' n0 a1 A N I' J cc M B' ∧ TS I' J cc M B' tr nd n ch kf lf_ (u1 sz q (sz q + 1)) (u1 mb q (sins (mb q) pp sv)) ∧ pp ≤ sz q ∧ (∀ j, j < pp → mb q j < sv) ∧ (∀ j, pp ≤ j → j < sz q → sv < mb q j) ∧
      (∀ t, Steps p.tables e below (T'.setTop (mkF m 738 #[vR a1, vN (tr), vN (sv), vJ kh, .second, vJ kl, .second, s7, vN (ch q), vR b1, vN (sz q), vN (ch q * 64), vN (pp), vN (nd), vN (nd * 64 + q), vI (-1)] [])) t → Steps p.tables e below (T0.setTop (mkF m 454 #[vR a1, vN (tr), vN (sv), vJ kh, .second, vJ kl, .second, s7, vN (ch q), s9, s10, s11, s12, s13, s14, s15] [])) t) := by
  have HT0 := HT
  obtain ⟨⟨a_1, a_2, a_3, a_4, a_5, a_6, a_7⟩, b_1, b_2, g, inj, z⟩ := HT
  obtain ⟨f1, f2, f3, f4, f5, f6, f7, f8, f9, f10, f11, f12, f13⟩ := g q hq
  obtain ⟨b1, hM⟩ := b_2 (ch q) f2
  have hlf : ch q < 4 := by omega
  obtain ⟨z1, z2⟩ := z sv hsv
  obtain ⟨T1, h1, L1, X1, e1, N1, K1, hh, st1⟩ := sgC1 a1 A N I J cc M B nb nd tr sv (ch q) (sz q) kh kl b1 s7 s9 s10 s11 s12 s13 s14 s15 X0 hx hZ hw hby hml hown e0 n0 N0 Z0 L0 hS hnd hnb hsv hlf hM f9 (by omega) o9 o10 o11 o12
  subst hh
  obtain ⟨T2, h2, L2, I1, B1, pp, X2, e2, N2, K2, Lq, r1, r2, r3, r4, r5, r6, r7, r8, st2⟩ := lpC (sz q) a1 A N I J cc M B nb nd tr sv (ch q) (sz q) kh kl b1 s7 s13 s14 s15 (mb q) X1 hx hZ hw hby hml hown e1 n0 N1 Z0 L0 hS hnd hnb hsv hlf hM (by omega) (fun j hj => ⟨(f13 j hj).1, (f13 j hj).2, hno j hj⟩) hso
  have Z2 := Nat.le_trans Z0 K2.1
  obtain ⟨T3, h3, L3, X3, e3, N3, K3, Lr, st3⟩ := sgC3 a1 A N I1 J cc M B1 nb nd tr sv (ch q) (sz q) kh kl b1 s7 s13 s14 s15 pp q X2 hx hZ hw hby hml hown e2 n0 N2 Z2 Lq hS hnd hnb hsv hlf hM (by omega) (by omega) (by omega) (by rw [r2 4 (by omega)]; exact f3) (by rw [r2 5 (by omega)]; exact f4) (by rw [r2 8 (by omega)]; exact f8) (by rw [r2 13 (by omega)]; exact a_3) (by rw [r2 0 (by omega)]; exact z1) (by rw [r2 9 (by omega)]; exact f11) z2 f12 o13 o14 o15
  refine ⟨T3, h3, L3, _, _, pp, b1, X3, e3, N3, K1.trans (K2.trans K3), Lr, ?_, r1, r4, r5, fun t kt => st1 t (st2 t (st3 t kt))⟩
  refine TS.put HT0 hq hz (sins (mb q) pp sv) ?_ (fun x hx => (own_ui_k _ _ _ _ _ hx).trans (r3 x hx)) (fun j hj => ?_)
  · exact own_uic (own_uic (fun k hk => (own_ui_k _ _ _ _ _ hk).trans (r2 k hk)) (by omega)) (by omega)
  · unfold sins
    by_cases c1 : j < pp
    · rw [if_pos c1]; exact ⟨(own_ui_j _ _ _ _ _ (by omega)).trans (r6 j c1), (f13 j (by omega)).2⟩
    · rw [if_neg c1]
      by_cases c2 : j = pp
      · rw [if_pos c2, c2]; exact ⟨own_ui _ _ _ _, hsv⟩
      · rw [if_neg c2]; exact ⟨(own_ui_j _ _ _ _ _ c2).trans (r7 j (by omega) (by omega)), (f13 (j - 1) (by omega)).2⟩
set_option maxHeartbeats 4000000 in
theorem sgI0 {p : Program} {l : Launch} {e : Env} {s : State} {m : MethodId} {args : Array Value} {below : List Frame} {meth : Method} {c : Code} {T0 : State} {locs : List Loc} {Z : State} {a0 : Array Value} {h0 : Heap} (a1 : Addr) (A : Nat → Addr) (N : Nat → Nat) (I : Nat → Nat → Int32) (J : Nat → Nat → Int64) (cc : Nat → Int32) (M : Nat → Option Addr) (B : Nat → Nat → Int32) (nb nd tr sv : Nat) (kh kl : Int64) (kv : Nat → Int) (Ain : Nat → Prop) (n : Nat) (sz : Nat → Nat) (hn0 : n = 0) (X0 : Stand p l e ({ frames := 7, cells := 1, slots := 4, locals := 150 } : Room) s m args below meth c T0 locs 0 0) (hx : p.tables.exec = Jvm.exec) (hZ : Z.Warmed39 s.vm) (hw : ∀ d ∈ tables_1, d.before a0 Z = true) (hby : c.code = prog_74_method_2_code) (hml : c.maxLocals = 16) (hown : s.vm.findClass "com/example/ebbtide/ebbtide/cluster/LoadTrees" = some m.cls) (e0 : T0.heap = h0) (n0 : Nat) (N0 : Fr n0 locs) (Z0 : n0 ≤ h0.size) (L0 : LT Z h0 n0 a1 A N I J cc M B) (hS : SZ N nb) (hnd : nd < nb) (hnb : nb < 1000) (hsv : sv < 3) (htr : tr < 2) (hkv : kv sv = own_kv kh kl) (h2 : I 2 tr = -1) (hfb : cc 3 = 0) (hbr : cc 2 = Int32.ofNat nd) (hc0 : cc 0 = 0) (hc1 : cc 1 = 0) (hMn : ∀ j, M j = none) (hz : ∀ s, s < 3 → I 0 s = 0 ∧ J 16 s = 0) :
    ∃ (T' : State) (h' : Heap) (L' : List Loc) (c1 c2 : Nat) (I' : Nat → Nat → Int32) (J' : Nat → Nat → Int64) (cc' : Nat → Int32) (M' : Nat → Option Addr) (B' : Nat → Nat → Int32) (n' : Nat) (ch' : Nat → Nat) (kf' lf' : Nat → Int64) (sz' : Nat → Nat) (mb' : Nat → Nat → Nat) (y1 y2 y3 y4 y5 : Nat) (b1 : Addr), Stand p l e ({ frames := 7, cells := 1, slots := 4, locals := 150 } : Room) s m args below meth c T' L' c1 c2 ∧ T'.heap = h' ∧ Fr n0 L' ∧ KN n0 h0 h' ∧ c1 ≤ 1 ∧ c2 ≤ 4 ∧ LT Z h' n0 a1 A N I' J' cc' M' B' ∧ TS I' J' cc' M' B' tr nd n' ch' kf' lf' sz' mb' ∧ INV n' kf' lf' sz' mb' kv (fun x => Ain x ∨ x = sv) ∧ tot sz' n' = tot sz n + 1 ∧ (∀ t, Steps p.tables e below (T'.setTop (mkF m 738 #[vR a1, vN (tr), vN (sv), vJ kh, .second, vJ kl, .second, vN (nd), vN (y1), vR b1, vN (y2), vN (y3), vN (y4), vN (nd), vN (y5), vI (-1)] [])) t → Steps p.tables e below (T0.setTop (mkF m 0 #[vR a1, vN (tr), vN (sv), vJ kh, .second, vJ kl, .second, uu, uu, uu, uu, uu, uu, uu, uu, uu] [])) t) := by
  subst hn0
  obtain ⟨T1, h1, L1, X1, e1, N1, K1, LA, st1⟩ := sgAn a1 A N I J cc M B nb nd tr sv kh kl X0 hx hZ hw hby hml hown e0 n0 N0 Z0 L0 hS hnb htr hnd h2 hfb hbr
  have HT : TS (ui (ui (ui (ui (ui I 11 nd 0) 12 nd 1) 13 nd (-1)) 14 nd (Int32.ofNat tr)) 2 tr (Int32.ofNat nd)) J (u1 cc 2 (Int32.ofNat (nd + 1))) M B tr nd 0 (fun _ => 0) (fun _ => 0) (fun _ => 0) (fun _ => 0) (fun _ _ => 0) := ⟨⟨if_pos rfl, if_pos rfl, if_pos rfl, if_pos rfl, by omega, hc0, hc1⟩, fun j _ _ => hMn j, fun j hj => absurd hj (by omega), fun i hi => absurd hi (by omega), fun i i' hi => absurd hi (by omega), hz⟩
  have HI : INV 0 (fun _ => 0) (fun _ => 0) (fun _ => 0) (fun _ _ => 0) kv Ain := ⟨fun i i' _ h => absurd h (by omega), fun i h => absurd h (by omega), fun i j h => absurd h (by omega), fun i j j' h => absurd h (by omega)⟩
  obtain ⟨T2, h2_, L2, bb, P, S, X2, e2, N2, K2, LB, q1, q2, st2⟩ := sgB0 a1 A N _ J _ M B nb nd tr sv 0 0 kh kl (fun _ => 0) X1 hx hZ hw hby hml hown e1 n0 N1 (Nat.le_trans Z0 K1.1) LA hS hnb hnd hsv (if_pos rfl) hc1 hc0 (by omega) (hMn 0) (if_pos rfl) (by omega) (fun i h => absurd h (by omega)) (fun i i' h => absurd h (by omega))
  have HT2 := HT.add (by omega) (Nat.le_refl 0) (fun _ => rfl) kh kl bb P S q1 q2
  obtain ⟨T3, h3, L3, I', B', pp, b1, X3, e3, N3, K3, LC, HT3, r1, r2, r3, st3⟩ := sgC a1 A N _ _ _ _ _ nb nd tr sv kh kl 1 _ _ _ _ _ 0 (.val (.int (Int32.ofNat nd))) .unset .unset .unset .unset .unset .unset .unset X2 hx hZ hw hby hml hown e2 n0 N2 (Nat.le_trans Z0 (K1.trans K2).1) LB hS hnd hnb hsv HT2 (by omega) (by decide) (fun j j' _ h => absurd h (by show ¬ j' < 0; omega)) (fun j h => absurd h (by show ¬ j < 0; omega)) one_u one_u one_u one_u one_u one_u one_u
  have HI3 := HI.new (sl := 0) (sv := sv) (Nat.le_refl 0) hsv hkv (fun i h => absurd h (by omega)) (fun i _ h => absurd h (by omega)) (m0 := sins (sins (fun _ _ => 0) 0 (fun _ => 0) 0) pp sv) (by
    have : pp = 0 := Nat.le_zero.mp r1
    rw [this]; rfl)
  exact ⟨T3, h3, L3, 1, 4, I', _, _, _, B', 1, _, _, _, _, _, _, _, _, _, _, b1, X3, e3, N3, K1.trans (K2.trans K3), by omega, by omega, LC, HT3, HI3, rfl, fun t kt => st1 t (st2 t (st3 t kt))⟩
theorem own_sz {n : Nat} {kf lf_ : Nat → Int64} {sz : Nat → Nat} {mb : Nat → Nat → Nat} {kv : Nat → Int} {A : Nat → Prop} (H : INV n kf lf_ sz mb kv A) (hT : tot sz n ≤ 2) : n ≤ 2 ∧ ∀ i, i < n → sz i ≤ 2 := by
  have b := H.2.1
  match n, hT, b with
  | 0, _, _ => exact ⟨by omega, fun i h => absurd h (by omega)⟩
  | 1, h, b => have h' : 0 + sz 0 ≤ 2 := h; exact ⟨by omega, fun i hi => by obtain rfl : i = 0 := (by omega); omega⟩
  | 2, h, b => have h' : 0 + sz 0 + sz 1 ≤ 2 := h; have b0 := b 0 (by omega); have b1 := b 1 (by omega); exact ⟨by omega, fun i hi => by have : i = 0 ∨ i = 1 := (by omega); rcases this with rfl | rfl <;> omega⟩
  | n + 3, h, b => have h' : tot sz n + sz n + sz (n + 1) + sz (n + 2) ≤ 2 := h; have b0 := b n (by omega); have b1 := b (n + 1) (by omega); have b2 := b (n + 2) (by omega); omega
theorem own_u1u {α : Type} (f : Nat → α) (k : Nat) (x y : α) : u1 (u1 f k x) k y = u1 f k y := by funext i; unfold u1; by_cases c : i = k <;> simp [c]
theorem own_sinq {α : Type} (f : Nat → α) (k : Nat) (x : α) : sins f k x k = x := by unfold sins; rw [if_neg (Nat.lt_irrefl _), if_pos rfl]
set_option maxHeartbeats 4000000 in
theorem tlE {p : Program} {l : Launch} {e : Env} {s : State} {m : MethodId} {args : Array Value} {below : List Frame} {meth : Method} {c : Code} {T0 : State} {locs : List Loc} {Z : State} {a0 : Array Value} {h0 : Heap} (a1 : Addr) (A : Nat → Addr) (N : Nat → Nat) (I : Nat → Nat → Int32) (J : Nat → Nat → Int64) (cc : Nat → Int32) (M : Nat → Option Addr) (B : Nat → Nat → Int32) (nb nd tr sv : Nat) (kh kl : Int64) (kv : Nat → Int) (Ain : Nat → Prop) (n : Nat) (ch : Nat → Nat) (kf lf_ : Nat → Int64) (sz : Nat → Nat) (mb : Nat → Nat → Nat) (q : Nat) (X0 : Stand p l e ({ frames := 7, cells := 1, slots := 4, locals := 150 } : Room) s m args below meth c T0 locs 0 0) (hx : p.tables.exec = Jvm.exec) (hZ : Z.Warmed39 s.vm) (hw : ∀ d ∈ tables_1, d.before a0 Z = true) (hby : c.code = prog_74_method_2_code) (hml : c.maxLocals = 16) (hown : s.vm.findClass "com/example/ebbtide/ebbtide/cluster/LoadTrees" = some m.cls) (e0 : T0.heap = h0) (n0 : Nat) (N0 : Fr n0 locs) (Z0 : n0 ≤ h0.size) (L0 : LT Z h0 n0 a1 A N I J cc M B) (hS : SZ N nb) (hnd : nd < nb) (hnb : nb < 1000) (hsv : sv < 3) (htr : tr < 2) (HI : INV n kf lf_ sz mb kv Ain) (hAs : ¬ Ain sv) (hkv : kv sv = own_kv kh kl) (hT : tot sz n ≤ 2) (HT : TS I J cc M B tr nd n ch kf lf_ sz mb) (hq : q < n) (hke : own_kv kh kl = own_kv (kf q) (lf_ q)) :
    ∃ (T' : State) (h' : Heap) (L' : List Loc) (c1 c2 : Nat) (I' : Nat → Nat → Int32) (J' : Nat → Nat → Int64) (cc' : Nat → Int32) (M' : Nat → Option Addr) (B' : Nat → Nat → Int32) (n' : Nat) (ch' : Nat → Nat) (kf' lf' : Nat → Int64) (sz' : Nat → Nat) (mb' : Nat → Nat → Nat) (y1 y2 y3 y4 y5 : Nat) (b1 : Addr), Stand p l e ({ frames := 7, cells := 1, slots := 4, locals := 150 } : Room) s m args below meth c T' L' c1 c2 ∧ T'.heap = h' ∧ Fr n0 L' ∧ KN n0 h0 h' ∧ c1 ≤ 1 ∧ c2 ≤ 4 ∧ LT Z h' n0 a1 A N I' J' cc' M' B' ∧ TS I' J' cc' M' B' tr nd n' ch' kf' lf' sz' mb' ∧ INV n' kf' lf' sz' mb' kv (fun x => Ain x ∨ x = sv) ∧ tot sz' n' = tot sz n + 1 ∧ (∀ t, Steps p.tables e below (T'.setTop (mkF m 738 #[vR a1, vN (tr), vN (sv), vJ kh, .second, vJ kl, .second, vN (nd), vN (y1), vR b1, vN (y2), vN (y3), vN (y4), vN (nd), vN (y5), vI (-1)] [])) t → Steps p.tables e below (T0.setTop (mkF m 150 #[vR a1, vN (tr), vN (sv), vJ kh, .second, vJ kl, .second, vN (nd), vN (ch q), uu, uu, uu, uu, uu, uu, uu] [])) t) := by
  have HT0 := HT
  obtain ⟨⟨a_1, a_2, a_3, a_4, a_5, a_6, a_7⟩, b_1, b_2, g, inj, z⟩ := HT
  obtain ⟨n2, s2⟩ := own_sz HI hT
  obtain ⟨f1, f2, f3, f4, f5, f6, f7, f8, f9, f10, f11, f12, f13⟩ := g q hq
  obtain ⟨T2, h2, L2, X2, e2, N2, K2, hh, st2⟩ := sgE a1 A N I J cc M B nb nd tr sv (ch q) kh kl (kf q) (lf_ q) X0 hx hZ hw hby hml hown e0 n0 N0 Z0 L0 hS hnb hnd hsv a_2 (by omega) f5 f6 (by rw [own_k_lt]; omega) (by rw [own_k_lt]; omega)
  subst hh
  obtain ⟨T3, h3, L3, I', B', pp, b1, X3, e3, N3, K3, LC, HT3, r1, r2, r3, st3⟩ := sgC a1 A N I J cc M B nb nd tr sv kh kl n ch kf lf_ sz mb q (.val (.int (Int32.ofNat nd))) .unset .unset .unset .unset .unset .unset .unset X2 hx hZ hw hby hml hown e2 n0 N2 Z0 L0 hS hnd hnb hsv HT0 hq (by have := s2 q hq; omega) (fun j j' => HI.2.2.2 q j j' hq) (fun j hj e => hAs (e ▸ (HI.2.2.1 q j hq hj).2.2)) one_u one_u one_u one_u one_u one_u one_u
  have HI3 := HI.eq (q := q) hsv (hkv.trans hke) r1 r2 r3
  have ht := tot_u (sz := sz) (q := q) (n := n) (x := sz q + 1) hq
  exact ⟨T3, h3, L3, 0, 0, I', _, _, _, B', n, _, _, _, _, _, _, _, _, _, _, b1, X3, e3, N3, K2.trans K3, by omega, by omega, LC, HT3, HI3, by omega, fun t kt => st2 t (st3 t kt)⟩
set_option maxHeartbeats 4000000 in
theorem tlGe {p : Program} {l : Launch} {e : Env} {s : State} {m : MethodId} {args : Array Value} {below : List Frame} {meth : Method} {c : Code} {T0 : State} {locs : List Loc} {Z : State} {a0 : Array Value} {h0 : Heap} (a1 : Addr) (A : Nat → Addr) (N : Nat → Nat) (I : Nat → Nat → Int32) (J : Nat → Nat → Int64) (cc : Nat → Int32) (M : Nat → Option Addr) (B : Nat → Nat → Int32) (nb nd tr sv : Nat) (kh kl : Int64) (kv : Nat → Int) (Ain : Nat → Prop) (n : Nat) (ch : Nat → Nat) (kf lf_ : Nat → Int64) (sz : Nat → Nat) (mb : Nat → Nat → Nat) (q : Nat) (X0 : Stand p l e ({ frames := 7, cells := 1, slots := 4, locals := 150 } : Room) s m args below meth c T0 locs 0 0) (hx : p.tables.exec = Jvm.exec) (hZ : Z.Warmed39 s.vm) (hw : ∀ d ∈ tables_1, d.before a0 Z = true) (hby : c.code = prog_74_method_2_code) (hml : c.maxLocals = 16) (hown : s.vm.findClass "com/example/ebbtide/ebbtide/cluster/LoadTrees" = some m.cls) (e0 : T0.heap = h0) (n0 : Nat) (N0 : Fr n0 locs) (Z0 : n0 ≤ h0.size) (L0 : LT Z h0 n0 a1 A N I J cc M B) (hS : SZ N nb) (hnd : nd < nb) (hnb : nb < 1000) (hsv : sv < 3) (htr : tr < 2) (HI : INV n kf lf_ sz mb kv Ain) (hAs : ¬ Ain sv) (hkv : kv sv = own_kv kh kl) (hT : tot sz n ≤ 2) (HT : TS I J cc M B tr nd n ch kf lf_ sz mb) (hq : q < n) (hk1 : own_kv (kf q) (lf_ q) < own_kv kh kl) (hs1 : q + 1 = n) :
    ∃ (T' : State) (h' : Heap) (L' : List Loc) (c1 c2 : Nat) (I' : Nat → Nat → Int32) (J' : Nat → Nat → Int64) (cc' : Nat → Int32) (M' : Nat → Option Addr) (B' : Nat → Nat → Int32) (n' : Nat) (ch' : Nat → Nat) (kf' lf' : Nat → Int64) (sz' : Nat → Nat) (mb' : Nat → Nat → Nat) (y1 y2 y3 y4 y5 : Nat) (b1 : Addr), Stand p l e ({ frames := 7, cells := 1, slots := 4, locals := 150 } : Room) s m args below meth c T' L' c1 c2 ∧ T'.heap = h' ∧ Fr n0 L' ∧ KN n0 h0 h' ∧ c1 ≤ 1 ∧ c2 ≤ 4 ∧ LT Z h' n0 a1 A N I' J' cc' M' B' ∧ TS I' J' cc' M' B' tr nd n' ch' kf' lf' sz' mb' ∧ INV n' kf' lf' sz' mb' kv (fun x => Ain x ∨ x = sv) ∧ tot sz' n' = tot sz n + 1 ∧ (∀ t, Steps p.tables e below (T'.setTop (mkF m 738 #[vR a1, vN (tr), vN (sv), vJ kh, .second, vJ kl, .second, vN (nd), vN (y1), vR b1, vN (y2), vN (y3), vN (y4), vN (nd), vN (y5), vI (-1)] [])) t → Steps p.tables e below (T0.setTop (mkF m 150 #[vR a1, vN (tr), vN (sv), vJ kh, .second, vJ kl, .second, vN (nd), vN (ch q), uu, uu, uu, uu, uu, uu, uu] [])) t) := by
  have HT0 := HT
  obtain ⟨⟨a_1, a_2, a_3, a_4, a_5, a_6, a_7⟩, b_1, b_2, g, inj, z⟩ := HT
  obtain ⟨n2, s2⟩ := own_sz HI hT
  obtain ⟨f1, f2, f3, f4, f5, f6, f7, f8, f9, f10, f11, f12, f13⟩ := g q hq
  obtain ⟨T2, h2, L2, bb, P, S, X2, e2, N2, K2, LB, q1, q2, st2⟩ := sgGe a1 A N I J cc M B nb nd tr sv n n (ch q) q kh kl (kf q) (lf_ q) ch X0 hx hZ hw hby hml hown e0 n0 N0 Z0 L0 hS hnb hnd hsv a_2 a_7 a_6 (by omega) (b_1 _ (Nat.le_refl _) (by omega)) a_4 (by omega) (fun i hi => ⟨(g i hi).1, by have := (g i hi).2.1; omega, by have := (g i hi).2.1; omega⟩) inj (by omega) f5 f6 f4 f3 a_3 (by omega) ((own_k_lt _ _ _ _).mpr hk1) hs1
  have HT2 := HT0.add (by omega) (sl := q + 1) (by omega) (fun h => absurd h (by omega)) kh kl bb P S q1 q2
  have eq1 : sins ch (q + 1) n (q + 1) = n := own_sinq _ _ _
  obtain ⟨T3, h3, L3, I', B', pp, b1, X3, e3, N3, K3, LC, HT3, r1, r2, r3, st3⟩ := sgC a1 A N _ _ _ _ _ nb nd tr sv kh kl (n + 1) _ _ _ _ _ (q + 1) (.val (.int (Int32.ofNat nd))) (vI (-1)) (.val (.int (Int32.ofNat n))) .unset .unset .unset .unset .unset X2 hx hZ hw hby hml hown e2 n0 N2 (Nat.le_trans Z0 K2.1) LB hS hnd hnb hsv HT2 (by omega) (by rw [own_sinq]; omega) (fun j j' _ h => absurd h (by rw [own_sinq]; omega)) (fun j h => absurd h (by rw [own_sinq]; omega)) (one_i _) (one_i _) one_u one_u one_u one_u one_u
  rw [own_sinq] at r1
  have HI3 := HI.new (sl := (q + 1)) (sv := sv) (x := kh) (y := kl) (by omega) hsv hkv (fun i hi => by
    by_cases d : i = q
    · rw [d]; exact hk1
    · exact Int.lt_trans (HI.1 i q (by omega) hq) hk1) (fun i h1 h2 => absurd h1 (by omega)) (m0 := sins (sins mb ((q + 1)) (fun _ => 0) ((q + 1))) pp sv) (by
    have : pp = 0 := Nat.le_zero.mp r1
    rw [this]; exact own_sinq _ _ _)
  have ht := tot_u (sz := sins sz ((q + 1)) 0) (q := (q + 1)) (n := n + 1) (x := 1) (by omega)
  rw [tot_s (by omega), own_sinq] at ht
  rw [own_sinq sz, Nat.zero_add] at HT3
  rw [own_sinq ch] at st3
  exact ⟨T3, h3, L3, 1, 4, I', _, _, _, B', n + 1, _, _, _, _, _, _, _, _, _, _, b1, X3, e3, N3, K2.trans K3, by omega, by omega, LC, HT3, HI3, by omega, fun t kt => st2 t (st3 t kt)⟩
set_option maxHeartbeats 4000000 in
theorem tlGn {p : Program} {l : Launch} {e : Env} {s : State} {m : MethodId} {args : Array Value} {below : List Frame} {meth : Method} {c : Code} {T0 : State} {locs : List Loc} {Z : State} {a0 : Array Value} {h0 : Heap} (a1 : Addr) (A : Nat → Addr) (N : Nat → Nat) (I : Nat → Nat → Int32) (J : Nat → Nat → Int64) (cc : Nat → Int32) (M : Nat → Option Addr) (B : Nat → Nat → Int32) (nb nd tr sv : Nat) (kh kl : Int64) (kv : Nat → Int) (Ain : Nat → Prop) (n : Nat) (ch : Nat → Nat) (kf lf_ : Nat → Int64) (sz : Nat → Nat) (mb : Nat → Nat → Nat) (q : Nat) (X0 : Stand p l e ({ frames := 7, cells := 1, slots := 4, locals := 150 } : Room) s m args below meth c T0 locs 0 0) (hx : p.tables.exec = Jvm.exec) (hZ : Z.Warmed39 s.vm) (hw : ∀ d ∈ tables_1, d.before a0 Z = true) (hby : c.code = prog_74_method_2_code) (hml : c.maxLocals = 16) (hown : s.vm.findClass "com/example/ebbtide/ebbtide/cluster/LoadTrees" = some m.cls) (e0 : T0.heap = h0) (n0 : Nat) (N0 : Fr n0 locs) (Z0 : n0 ≤ h0.size) (L0 : LT Z h0 n0 a1 A N I J cc M B) (hS : SZ N nb) (hnd : nd < nb) (hnb : nb < 1000) (hsv : sv < 3) (htr : tr < 2) (HI : INV n kf lf_ sz mb kv Ain) (hAs : ¬ Ain sv) (hkv : kv sv = own_kv kh kl) (hT : tot sz n ≤ 2) (HT : TS I J cc M B tr nd n ch kf lf_ sz mb) (hq : q < n) (hk1 : own_kv (kf q) (lf_ q) < own_kv kh kl) (hs1 : q + 1 < n) (hk2 : own_kv kh kl < own_kv (kf (q + 1)) (lf_ (q + 1))) :
    ∃ (T' : State) (h' : Heap) (L' : List Loc) (c1 c2 : Nat) (I' : Nat → Nat → Int32) (J' : Nat → Nat → Int64) (cc' : Nat → Int32) (M' : Nat → Option Addr) (B' : Nat → Nat → Int32) (n' : Nat) (ch' : Nat → Nat) (kf' lf' : Nat → Int64) (sz' : Nat → Nat) (mb' : Nat → Nat → Nat) (y1 y2 y3 y4 y5 : Nat) (b1 : Addr), Stand p l e ({ frames := 7, cells := 1, slots := 4, locals := 150 } : Room) s m args below meth c T' L' c1 c2 ∧ T'.heap = h' ∧ Fr n0 L' ∧ KN n0 h0 h' ∧ c1 ≤ 1 ∧ c2 ≤ 4 ∧ LT Z h' n0 a1 A N I' J' cc' M' B' ∧ TS I' J' cc' M' B' tr nd n' ch' kf' lf' sz' mb' ∧ INV n' kf' lf' sz' mb' kv (fun x => Ain x ∨ x = sv) ∧ tot sz' n' = tot sz n + 1 ∧ (∀ t, Steps p.tables e below (T'.setTop (mkF m 738 #[vR a1, vN (tr), vN (sv), vJ kh, .second, vJ kl, .second, vN (nd), vN (y1), vR b1, vN (y2), vN (y3), vN (y4), vN (nd), vN (y5), vI (-1)] [])) t → Steps p.tables e below (T0.setTop (mkF m 150 #[vR a1, vN (tr), vN (sv), vJ kh, .second, vJ kl, .second, vN (nd), vN (ch q), uu, uu, uu, uu, uu, uu, uu] [])) t) := by
  have HT0 := HT
  obtain ⟨⟨a_1, a_2, a_3, a_4, a_5, a_6, a_7⟩, b_1, b_2, g, inj, z⟩ := HT
  obtain ⟨n2, s2⟩ := own_sz HI hT
  obtain ⟨f1, f2, f3, f4, f5, f6, f7, f8, f9, f10, f11, f12, f13⟩ := g q hq
  obtain ⟨T2, h2, L2, bb, P, S, X2, e2, N2, K2, LB, q1, q2, st2⟩ := sgGn a1 A N I J cc M B nb nd tr sv n n (ch q) q kh kl (kf q) (lf_ q) (kf (q + 1)) (lf_ (q + 1)) (ch (q + 1)) ch X0 hx hZ hw hby hml hown e0 n0 N0 Z0 L0 hS hnb hnd hsv a_2 a_7 a_6 (by omega) (b_1 _ (Nat.le_refl _) (by omega)) a_4 (by omega) (fun i hi => ⟨(g i hi).1, by have := (g i hi).2.1; omega, by have := (g i hi).2.1; omega⟩) inj (by omega) f5 f6 f4 f3 a_3 (by omega) ((own_k_lt _ _ _ _).mpr hk1) hs1 (g (q + 1) hs1).1 (by have := (g (q + 1) hs1).2.1; omega) (g (q + 1) hs1).2.2.2.2.1 (g (q + 1) hs1).2.2.2.2.2.1 (fun h => by rw [← h.1, ← h.2] at hk2; omega)
  have HT2 := HT0.add (by omega) (sl := q + 1) (by omega) (fun h => absurd h (by omega)) kh kl bb P S q1 q2
  have eq1 : sins ch (q + 1) n (q + 1) = n := own_sinq _ _ _
  obtain ⟨T3, h3, L3, I', B', pp, b1, X3, e3, N3, K3, LC, HT3, r1, r2, r3, st3⟩ := sgC a1 A N _ _ _ _ _ nb nd tr sv kh kl (n + 1) _ _ _ _ _ (q + 1) (.val (.int (Int32.ofNat nd))) (vN (ch (q + 1))) (.val (.int (Int32.ofNat n))) .unset .unset .unset .unset .unset X2 hx hZ hw hby hml hown e2 n0 N2 (Nat.le_trans Z0 K2.1) LB hS hnd hnb hsv HT2 (by omega) (by rw [own_sinq]; omega) (fun j j' _ h => absurd h (by rw [own_sinq]; omega)) (fun j h => absurd h (by rw [own_sinq]; omega)) (one_i _) (one_i _) one_u one_u one_u one_u one_u
  rw [own_sinq] at r1
  have HI3 := HI.new (sl := (q + 1)) (sv := sv) (x := kh) (y := kl) (by omega) hsv hkv (fun i hi => by
    by_cases d : i = q
    · rw [d]; exact hk1
    · exact Int.lt_trans (HI.1 i q (by omega) hq) hk1) (fun i h1 h2 => by
    by_cases d : i = q + 1
    · rw [d]; exact hk2
    · exact Int.lt_trans hk2 (HI.1 (q + 1) i (by omega) h2)) (m0 := sins (sins mb ((q + 1)) (fun _ => 0) ((q + 1))) pp sv) (by
    have : pp = 0 := Nat.le_zero.mp r1
    rw [this]; exact own_sinq _ _ _)
  have ht := tot_u (sz := sins sz ((q + 1)) 0) (q := (q + 1)) (n := n + 1) (x := 1) (by omega)
  rw [tot_s (by omega), own_sinq] at ht
  rw [own_sinq sz, Nat.zero_add] at HT3
  rw [own_sinq ch] at st3
  exact ⟨T3, h3, L3, 1, 4, I', _, _, _, B', n + 1, _, _, _, _, _, _, _, _, _, _, b1, X3, e3, N3, K2.trans K3, by omega, by omega, LC, HT3, HI3, by omega, fun t kt => st2 t (st3 t kt)⟩
set_option maxHeartbeats 4000000 in
theorem tlL {p : Program} {l : Launch} {e : Env} {s : State} {m : MethodId} {args : Array Value} {below : List Frame} {meth : Method} {c : Code} {T0 : State} {locs : List Loc} {Z : State} {a0 : Array Value} {h0 : Heap} (a1 : Addr) (A : Nat → Addr) (N : Nat → Nat) (I : Nat → Nat → Int32) (J : Nat → Nat → Int64) (cc : Nat → Int32) (M : Nat → Option Addr) (B : Nat → Nat → Int32) (nb nd tr sv : Nat) (kh kl : Int64) (kv : Nat → Int) (Ain : Nat → Prop) (n : Nat) (ch : Nat → Nat) (kf lf_ : Nat → Int64) (sz : Nat → Nat) (mb : Nat → Nat → Nat) (q : Nat) (X0 : Stand p l e ({ frames := 7, cells := 1, slots := 4, locals := 150 } : Room) s m args below meth c T0 locs 0 0) (hx : p.tables.exec = Jvm.exec) (hZ : Z.Warmed39 s.vm) (hw : ∀ d ∈ tables_1, d.before a0 Z = true) (hby : c.code = prog_74_method_2_code) (hml : c.maxLocals = 16) (hown : s.vm.findClass "com/example/ebbtide/ebbtide/cluster/LoadTrees" = some m.cls) (e0 : T0.heap = h0) (n0 : Nat) (N0 : Fr n0 locs) (Z0 : n0 ≤ h0.size) (L0 : LT Z h0 n0 a1 A N I J cc M B) (hS : SZ N nb) (hnd : nd < nb) (hnb : nb < 1000) (hsv : sv < 3) (htr : tr < 2) (HI : INV n kf lf_ sz mb kv Ain) (hAs : ¬ Ain sv) (hkv : kv sv = own_kv kh kl) (hT : tot sz n ≤ 2) (HT : TS I J cc M B tr nd n ch kf lf_ sz mb) (hq : q < n) (hq0 : q = 0) (hk1 : own_kv kh kl < own_kv (kf q) (lf_ q)) :
    ∃ (T' : State) (h' : Heap) (L' : List Loc) (c1 c2 : Nat) (I' : Nat → Nat → Int32) (J' : Nat → Nat → Int64) (cc' : Nat → Int32) (M' : Nat → Option Addr) (B' : Nat → Nat → Int32) (n' : Nat) (ch' : Nat → Nat) (kf' lf' : Nat → Int64) (sz' : Nat → Nat) (mb' : Nat → Nat → Nat) (y1 y2 y3 y4 y5 : Nat) (b1 : Addr), Stand p l e ({ frames := 7, cells := 1, slots := 4, locals := 150 } : Room) s m args below meth c T' L' c1 c2 ∧ T'.heap = h' ∧ Fr n0 L' ∧ KN n0 h0 h' ∧ c1 ≤ 1 ∧ c2 ≤ 4 ∧ LT Z h' n0 a1 A N I' J' cc' M' B' ∧ TS I' J' cc' M' B' tr nd n' ch' kf' lf' sz' mb' ∧ INV n' kf' lf' sz' mb' kv (fun x => Ain x ∨ x = sv) ∧ tot sz' n' = tot sz n + 1 ∧ (∀ t, Steps p.tables e below (T'.setTop (mkF m 738 #[vR a1, vN (tr), vN (sv), vJ kh, .second, vJ kl, .second, vN (nd), vN (y1), vR b1, vN (y2), vN (y3), vN (y4), vN (nd), vN (y5), vI (-1)] [])) t → Steps p.tables e below (T0.setTop (mkF m 150 #[vR a1, vN (tr), vN (sv), vJ kh, .second, vJ kl, .second, vN (nd), vN (ch q), uu, uu, uu, uu, uu, uu, uu] [])) t) := by
  have HT0 := HT
  obtain ⟨⟨a_1, a_2, a_3, a_4, a_5, a_6, a_7⟩, b_1, b_2, g, inj, z⟩ := HT
  obtain ⟨n2, s2⟩ := own_sz HI hT
  obtain ⟨f1, f2, f3, f4, f5, f6, f7, f8, f9, f10, f11, f12, f13⟩ := g q hq
  subst hq0
  obtain ⟨T2, h2, L2, bb, P, S, X2, e2, N2, K2, LB, q1, q2, st2⟩ := sgL a1 A N I J cc M B nb nd tr sv n n (ch 0) kh kl (kf 0) (lf_ 0) (J 20 (nd * 64)) (J 21 (nd * 64)) (I 10 (nd * 64)) ch X0 hx hZ hw hby hml hown e0 n0 N0 Z0 L0 hS hnb hnd hsv a_2 a_7 a_6 (by omega) (b_1 _ (Nat.le_refl _) (by omega)) a_4 (by omega) (fun i hi => ⟨(g i hi).1, by have := (g i hi).2.1; omega, by have := (g i hi).2.1; omega⟩) inj (by omega) f5 f6 f4 f3 a_3 (by omega) (by rw [own_k_lt]; omega) ((own_k_lt _ _ _ _).mpr hk1) rfl rfl rfl rfl hq
  have HT2 := HT0.addL (by omega) kh kl (J 20 (nd * 64)) (J 21 (nd * 64)) (I 10 (nd * 64)) bb P S q1
  obtain ⟨T3, h3, L3, I', B', pp, b1, X3, e3, N3, K3, LC, HT3, r1, r2, r3, st3⟩ := sgC a1 A N _ _ _ _ _ nb nd tr sv kh kl (n + 1) _ _ _ _ _ 0 (.val (.int (Int32.ofNat nd))) (vI (-1)) (.val (.int (Int32.ofNat n))) (vN (nd * 64)) .unset .unset .unset .unset X2 hx hZ hw hby hml hown e2 n0 N2 (Nat.le_trans Z0 K2.1) LB hS hnd hnb hsv HT2 (by omega) (by rw [own_sinq]; omega) (fun j j' _ h => absurd h (by rw [own_sinq]; omega)) (fun j h => absurd h (by rw [own_sinq]; omega)) (one_i _) (one_i _) (one_i _) one_u one_u one_u one_u
  rw [own_sinq] at r1
  have HI3 := HI.new (sl := 0) (sv := sv) (x := kh) (y := kl) (by omega) hsv hkv (fun i hi => absurd hi (by omega)) (fun i h1 h2 => by
    by_cases d : i = 0
    · rw [d]; exact hk1
    · exact Int.lt_trans hk1 (HI.1 0 i (by omega) h2)) (m0 := sins (sins mb (0) (fun _ => 0) (0)) pp sv) (by
    have : pp = 0 := Nat.le_zero.mp r1
    rw [this]; exact own_sinq _ _ _)
  have ht := tot_u (sz := sins sz (0) 0) (q := 0) (n := n + 1) (x := 1) (by omega)
  rw [tot_s (by omega), own_sinq] at ht
  rw [own_sinq sz, Nat.zero_add] at HT3
  rw [own_sinq ch] at st3
  exact ⟨T3, h3, L3, 1, 4, I', _, _, _, B', n + 1, _, _, _, _, _, _, _, _, _, _, b1, X3, e3, N3, K2.trans K3, by omega, by omega, LC, HT3, HI3, by omega, fun t kt => st2 t (st3 t kt)⟩
set_option maxHeartbeats 4000000 in
theorem sgI {p : Program} {l : Launch} {e : Env} {s : State} {m : MethodId} {args : Array Value} {below : List Frame} {meth : Method} {c : Code} {T0 : State} {locs : List Loc} {Z : State} {a0 : Array Value} {h0 : Heap} (a1 : Addr) (A : Nat → Addr) (N : Nat → Nat) (I : Nat → Nat → Int32) (J : Nat → Nat → Int64) (cc : Nat → Int32) (M : Nat → Option Addr) (B : Nat → Nat → Int32) (nb nd tr sv : Nat) (kh kl : Int64) (kv : Nat → Int) (Ain : Nat → Prop) (n : Nat) (ch : Nat → Nat) (kf lf_ : Nat → Int64) (sz : Nat → Nat) (mb : Nat → Nat → Nat) (X0 : Stand p l e ({ frames := 7, cells := 1, slots := 4, locals := 150 } : Room) s m args below meth c T0 locs 0 0) (hx : p.tables.exec = Jvm.exec) (hZ : Z.Warmed39 s.vm) (hw : ∀ d ∈ tables_1, d.before a0 Z = true) (hby : c.code = prog_74_method_2_code) (hml : c.maxLocals = 16) (hown : s.vm.findClass "com/example/ebbtide/ebbtide/cluster/LoadTrees" = some m.cls) (e0 : T0.heap = h0) (n0 : Nat) (N0 : Fr n0 locs) (Z0 : n0 ≤ h0.size) (L0 : LT Z h0 n0 a1 A N I J cc M B) (hS : SZ N nb) (hnd : nd < nb) (hnb : nb < 1000) (hsv : sv < 3) (htr : tr < 2) (HI : INV n kf lf_ sz mb kv Ain) (hAs : ¬ Ain sv) (hkv : kv sv = own_kv kh kl) (hT : tot sz n ≤ 2) (HT : TS I J cc M B tr nd n ch kf lf_ sz mb) (hn1 : 1 ≤ n) :
    ∃ (T' : State) (h' : Heap) (L' : List Loc) (c1 c2 : Nat) (I' : Nat → Nat → Int32) (J' : Nat → Nat → Int64) (cc' : Nat → Int32) (M' : Nat → Option Addr) (B' : Nat → Nat → Int32) (n' : Nat) (ch' : Nat → Nat) (kf' lf' : Nat → Int64) (sz' : Nat → Nat) (mb' : Nat → Nat → Nat) (y1 y2 y3 y4 y5 : Nat) (b1 : Addr), Stand p l e ({ frames := 7, cells := 1, slots := 4, locals := 150 } : Room) s m args below meth c T' L' c1 c2 ∧ T'.heap = h' ∧ Fr n0 L' ∧ KN n0 h0 h' ∧ c1 ≤ 1 ∧ c2 ≤ 4 ∧ LT Z h' n0 a1 A N I' J' cc' M' B' ∧ TS I' J' cc' M' B' tr nd n' ch' kf' lf' sz' mb' ∧ INV n' kf' lf' sz' mb' kv (fun x => Ain x ∨ x = sv) ∧ tot sz' n' = tot sz n + 1 ∧ (∀ t, Steps p.tables e below (T'.setTop (mkF m 738 #[vR a1, vN (tr), vN (sv), vJ kh, .second, vJ kl, .second, vN (nd), vN (y1), vR b1, vN (y2), vN (y3), vN (y4), vN (nd), vN (y5), vI (-1)] [])) t → Steps p.tables e below (T0.setTop (mkF m 0 #[vR a1, vN (tr), vN (sv), vJ kh, .second, vJ kl, .second, uu, uu, uu, uu, uu, uu, uu, uu, uu] [])) t) := by
  have HT0 := HT
  obtain ⟨⟨a_1, a_2, a_3, a_4, a_5, a_6, a_7⟩, b_1, b_2, g, inj, z⟩ := HT
  obtain ⟨n2, s2⟩ := own_sz HI hT
  obtain ⟨T1, h1, L1, X1, e1, N1, K1, hh, st1⟩ := sgAo a1 A N I J cc M B nb nd tr sv kh kl X0 hx hZ hw hby hml hown e0 n0 N0 Z0 L0 hS hnb htr hnd a_1 a_2
  replace e1 := e1.trans hh
  have g0 := g 0 hn1
  have wrap : ∀ (q : Nat) {T2 : State} {L2 : List Loc}, Stand p l e ({ frames := 7, cells := 1, slots := 4, locals := 150 } : Room) s m args below meth c T2 L2 0 0 → T2.heap = h0 → Fr n0 L2 → q < n → (∀ t, Steps p.tables e below (T2.setTop (mkF m 150 #[vR a1, vN (tr), vN (sv), vJ kh, .second, vJ kl, .second, vN (nd), vN (ch q), uu, uu, uu, uu, uu, uu, uu] [])) t → Steps p.tables e below (T0.setTop (mkF m 0 #[vR a1, vN (tr), vN (sv), vJ kh, .second, vJ kl, .second, uu, uu, uu, uu, uu, uu, uu, uu, uu] [])) t) → (q = 0 ∨ own_kv (kf q) (lf_ q) ≤ own_kv kh kl) → (q + 1 < n → own_kv kh kl < own_kv (kf (q + 1)) (lf_ (q + 1))) →
      ∃ (T' : State) (h' : Heap) (L' : List Loc) (c1 c2 : Nat) (I' : Nat → Nat → Int32) (J' : Nat → Nat → Int64) (cc' : Nat → Int32) (M' : Nat → Option Addr) (B' : Nat → Nat → Int32) (n' : Nat) (ch' : Nat → Nat) (kf' lf' : Nat → Int64) (sz' : Nat → Nat) (mb' : Nat → Nat → Nat) (y1 y2 y3 y4 y5 : Nat) (b1 : Addr), Stand p l e ({ frames := 7, cells := 1, slots := 4, locals := 150 } : Room) s m args below meth c T' L' c1 c2 ∧ T'.heap = h' ∧ Fr n0 L' ∧ KN n0 h0 h' ∧ c1 ≤ 1 ∧ c2 ≤ 4 ∧ LT Z h' n0 a1 A N I' J' cc' M' B' ∧ TS I' J' cc' M' B' tr nd n' ch' kf' lf' sz' mb' ∧ INV n' kf' lf' sz' mb' kv (fun x => Ain x ∨ x = sv) ∧ tot sz' n' = tot sz n + 1 ∧ (∀ t, Steps p.tables e below (T'.setTop (mkF m 738 #[vR a1, vN (tr), vN (sv), vJ kh, .second, vJ kl, .second, vN (nd), vN (y1), vR b1, vN (y2), vN (y3), vN (y4), vN (nd), vN (y5), vI (-1)] [])) t → Steps p.tables e below (T0.setTop (mkF m 0 #[vR a1, vN (tr), vN (sv), vJ kh, .second, vJ kl, .second, uu, uu, uu, uu, uu, uu, uu, uu, uu] [])) t) := by
    intro q T2 L2 X2 e2 N2 hq st2 hlo hhi
    have fin : (∃ (T' : State) (h' : Heap) (L' : List Loc) (c1 c2 : Nat) (I' : Nat → Nat → Int32) (J' : Nat → Nat → Int64) (cc' : Nat → Int32) (M' : Nat → Option Addr) (B' : Nat → Nat → Int32) (n' : Nat) (ch' : Nat → Nat) (kf' lf' : Nat → Int64) (sz' : Nat → Nat) (mb' : Nat → Nat → Nat) (y1 y2 y3 y4 y5 : Nat) (b1 : Addr), Stand p l e ({ frames := 7, cells := 1, slots := 4, locals := 150 } : Room) s m args below meth c T' L' c1 c2 ∧ T'.heap = h' ∧ Fr n0 L' ∧ KN n0 h0 h' ∧ c1 ≤ 1 ∧ c2 ≤ 4 ∧ LT Z h' n0 a1 A N I' J' cc' M' B' ∧ TS I' J' cc' M' B' tr nd n' ch' kf' lf' sz' mb' ∧ INV n' kf' lf' sz' mb' kv (fun x => Ain x ∨ x = sv) ∧ tot sz' n' = tot sz n + 1 ∧ (∀ t, Steps p.tables e below (T'.setTop (mkF m 738 #[vR a1, vN (tr), vN (sv), vJ kh, .second, vJ kl, .second, vN (nd), vN (y1), vR b1, vN (y2), vN (y3), vN (y4), vN (nd), vN (y5), vI (-1)] [])) t → Steps p.tables e below (T2.setTop (mkF m 150 #[vR a1, vN (tr), vN (sv), vJ kh, .second, vJ kl, .second, vN (nd), vN (ch q), uu, uu, uu, uu, uu, uu, uu] [])) t)) → ∃ (T' : State) (h' : Heap) (L' : List Loc) (c1 c2 : Nat) (I' : Nat → Nat → Int32) (J' : Nat → Nat → Int64) (cc' : Nat → Int32) (M' : Nat → Option Addr) (B' : Nat → Nat → Int32) (n' : Nat) (ch' : Nat → Nat) (kf' lf' : Nat → Int64) (sz' : Nat → Nat) (mb' : Nat → Nat → Nat) (y1 y2 y3 y4 y5 : Nat) (b1 : Addr), Stand p l e ({ frames := 7, cells := 1, slots := 4, locals := 150 } : Room) s m args below meth c T' L' c1 c2 ∧ T'.heap = h' ∧ Fr n0 L' ∧ KN n0 h0 h' ∧ c1 ≤ 1 ∧ c2 ≤ 4 ∧ LT Z h' n0 a1 A N I' J' cc' M' B' ∧ TS I' J' cc' M' B' tr nd n' ch' kf' lf' sz' mb' ∧ INV n' kf' lf' sz' mb' kv (fun x => Ain x ∨ x = sv) ∧ tot sz' n' = tot sz n + 1 ∧ (∀ t, Steps p.tables e below (T'.setTop (mkF m 738 #[vR a1, vN (tr), vN (sv), vJ kh, .second, vJ kl, .second, vN (nd), vN (y1), vR b1, vN (y2), vN (y3), vN (y4), vN (nd), vN (y5), vI (-1)] [])) t → Steps p.tables e below (T0.setTop (mkF m 0 #[vR a1, vN (tr), vN (sv), vJ kh, .second, vJ kl, .second, uu, uu, uu, uu, uu, uu, uu, uu, uu] [])) t) := by
      rintro ⟨T', h', L', c1, c2, I', J', cc', M', B', n', ch', kf', lf', sz', mb', y1, y2, y3, y4, y5, b1, X', e', N', K', w1, w2, w3, w4, w5, w6, st'⟩
      exact ⟨T', h', L', c1, c2, I', J', cc', M', B', n', ch', kf', lf', sz', mb', y1, y2, y3, y4, y5, b1, X', e', N', K', w1, w2, w3, w4, w5, w6, fun t kt => st2 t (st' t kt)⟩
    rcases Int.lt_trichotomy (own_kv (kf q) (lf_ q)) (own_kv kh kl) with c | c | c
    · by_cases d : q + 1 = n
      · exact fin (tlGe a1 A N I J cc M B nb nd tr sv kh kl kv Ain n ch kf lf_ sz mb q X2 hx hZ hw hby hml hown e2 n0 N2 Z0 L0 hS hnd hnb hsv htr HI hAs hkv hT HT0 hq c d)
      · exact fin (tlGn a1 A N I J cc M B nb nd tr sv kh kl kv Ain n ch kf lf_ sz mb q X2 hx hZ hw hby hml hown e2 n0 N2 Z0 L0 hS hnd hnb hsv htr HI hAs hkv hT HT0 hq c (by omega) (hhi (by omega)))
    · exact fin (tlE a1 A N I J cc M B nb nd tr sv kh kl kv Ain n ch kf lf_ sz mb q X2 hx hZ hw hby hml hown e2 n0 N2 Z0 L0 hS hnd hnb hsv htr HI hAs hkv hT HT0 hq c.symm)
    · exact fin (tlL a1 A N I J cc M B nb nd tr sv kh kl kv Ain n ch kf lf_ sz mb q X2 hx hZ hw hby hml hown e2 n0 N2 Z0 L0 hS hnd hnb hsv htr HI hAs hkv hT HT0 hq (by rcases hlo with h | h; exact h; omega) c)
  by_cases d : n = 1
  · subst d
    obtain ⟨T2, h2, L2, X2, e2, N2, K2, hh, st2⟩ := sgP1 a1 A N I J cc M B nb nd tr sv (ch 0) kh kl 0 0 X1 hx hZ hw hby hml hown e1 n0 N1 Z0 L0 hS hnb hnd hsv a_2 a_4 g0.1 (by have := g0.2.1; omega)
    replace e2 := e2.trans hh
    exact wrap 0 X2 e2 N2 (by omega) (fun t kt => st1 t (st2 t kt)) (Or.inl rfl) (fun h => absurd h (by omega))
  · obtain rfl : n = 2 := by omega
    obtain ⟨f1, f2, f3, f4, f5, f6, f7, -⟩ := g 1 (by omega)
    obtain ⟨k1, k2, k3⟩ := f7 (by omega)
    by_cases c : own_kv kh kl < own_kv (kf 1) (lf_ 1)
    · obtain ⟨T2, h2, L2, X2, e2, N2, K2, hh, st2⟩ := sgP2a a1 A N I J cc M B nb nd tr sv (ch 0) kh kl (kf 1) (lf_ 1) X1 hx hZ hw hby hml hown e1 n0 N1 Z0 L0 hS hnb hnd hsv a_2 a_4 g0.1 (by have := g0.2.1; omega) k1 k2 k3 ((own_k_lt _ _ _ _).mpr c)
      replace e2 := e2.trans hh
      exact wrap 0 X2 e2 N2 (by omega) (fun t kt => st1 t (st2 t kt)) (Or.inl rfl) (fun _ => c)
    · obtain ⟨T2, h2, L2, X2, e2, N2, K2, hh, st2⟩ := sgP2b a1 A N I J cc M B nb nd tr sv (ch 1) kh kl (kf 1) (lf_ 1) X1 hx hZ hw hby hml hown e1 n0 N1 Z0 L0 hS hnb hnd hsv a_2 a_4 f1 (by omega) k1 k2 k3 (by rw [own_k_lt]; exact c)
      replace e2 := e2.trans hh
      exact wrap 1 X2 e2 N2 (by omega) (fun t kt => st1 t (st2 t kt)) (Or.inr (by omega)) (fun h => absurd h (by omega))
theorem d7_738 : decode q13 738 = .ok (.return_, 1) := by decide +kernel
theorem ef_rmIns0 (m : MethodId) (x0 : Addr) (x1 : Int32) (x2 : Int32) (x3 : Int64) (x4 : Int64) : entryFrame m #[(.ref x0), (.int x1), (.int x2), (.long x3), (.long x4)] 16 = mkF m 0 #[vR x0, .val (.int x1), .val (.int x2), vJ x3, .second, vJ x4, .second, uu, uu, uu, uu, uu, uu, uu, uu, uu] [] := by first | (simp [entryFrame, mkF, argsToLocals, Value.category]; done) | rfl
def QrmIns0 (Z : State) (a1 : Addr) (A : Nat → Addr) (N : Nat → Nat) (I : Nat → Nat → Int32) (J : Nat → Nat → Int64) (cc : Nat → Int32) (M : Nat → Option Addr) (B : Nat → Nat → Int32) (nb nd tr sv : Nat) (kh kl : Int64) (n : Nat) (ch : Nat → Nat) (kf lf_ : Nat → Int64) (sz : Nat → Nat) (mb : Nat → Nat → Nat) (kv : Nat → Int) (Ain : Nat → Prop) (h0 : Heap) (n0 : Nat) (v : Option Value) (h : Heap) (L : List Loc) : Prop := v = none ∧ Fr n0 L ∧ KN n0 h0 h ∧ ∃ I' J' cc' M' B' n' ch' kf' lf' sz' mb', LT Z h n0 a1 A N I' J' cc' M' B' ∧ TS I' J' cc' M' B' tr nd n' ch' kf' lf' sz' mb' ∧ INV n' kf' lf' sz' mb' kv (fun x => Ain x ∨ x = sv) ∧ tot sz' n' = tot sz n + 1
set_option maxRecDepth 65536 in
set_option maxHeartbeats 40000000 in
theorem rmIns0 (l : Launch) (Z : State) (a0 : Array Value) (hw : ∀ d ∈ tables_1, d.before a0 Z = true) (ws : List Jvm.Cond) (a1 : Addr) (A : Nat → Addr) (N : Nat → Nat) (I : Nat → Nat → Int32) (J : Nat → Nat → Int64) (cc : Nat → Int32) (M : Nat → Option Addr) (B : Nat → Nat → Int32) (nb nd tr sv : Nat) (kh kl : Int64) (n : Nat) (ch : Nat → Nat) (kf lf_ : Nat → Int64) (sz : Nat → Nat) (mb : Nat → Nat → Nat) (kv : Nat → Int) (Ain : Nat → Prop) (h0 : Heap) (n0 : Nat) (Z0 : n0 ≤ h0.size) (L0 : LT Z h0 n0 a1 A N I J cc M B) (hS : SZ N nb) (hnd : nd < nb) (hnb : nb < 1000) (hsv : sv < 3) (htr : tr < 2) (hkv : kv sv = own_kv kh kl) (hn0 : n = 0) (Y2 : I 2 tr = -1) (hfb : cc 3 = 0) (hbr : cc 2 = Int32.ofNat nd) (hc0 : cc 0 = 0) (hc1 : cc 1 = 0) (hMn : ∀ j, M j = none) (hz : ∀ s, s < 3 → I 0 s = 0 ∧ J 16 s = 0) :
    MetFree l (⟨"com/example/ebbtide/ebbtide/cluster/LoadTrees", "insert", "(IIJJ)V"⟩ : MethodName) (head1 (Jvm.Cond.code (⟨"com/example/ebbtide/ebbtide/cluster/LoadTrees", "insert", "(IIJJ)V"⟩ : MethodName) prog_74_method_2_code 16 none :: ws) ({ frames := 7, cells := 1, slots := 4, locals := 150 } : Room)) (fun a U => a = #[(.ref a1), (.int (Int32.ofNat (tr))), (.int (Int32.ofNat (sv))), (.long kh), (.long kl)] ∧ Z.Warmed39 U.vm ∧ U.heap = h0) (fun _ _ _ _ _ => True) (fun _ U o U' => ∃ v L, o = .returned v ∧ QrmIns0 Z a1 A N I J cc M B nb nd tr sv kh kl n ch kf lf_ sz mb kv Ain h0 n0 v U'.heap L ∧ FrameEnd U o U' L ({ frames := 7, cells := 1, slots := 4, locals := 150 } : Room).cells ({ frames := 7, cells := 1, slots := 4, locals := 150 } : Room).slots) := by
  refine MetFree.of_bodySF (plainFor_of_name pn_com_example_ebbtide_ebbtide_cluster_LoadTrees) hisR ?_
  intro p e s m args below meth c s₁ Bd hml0 hP hK
  obtain ⟨rfl, hZ, hh⟩ := hP
  have hx := Bd.exec
  have hby := Bd.bytes
  have hml : c.maxLocals = 16 := hml0
  have hown : s.vm.findClass "com/example/ebbtide/ebbtide/cluster/LoadTrees" = some m.cls := findClass_of_methodNamed Bd.named
  have hnm := (name_of_methodNamed Bd.named Bd.method).1
  have X0 : Stand p l e ({ frames := 7, cells := 1, slots := 4, locals := 150 } : Room) s m #[(.ref a1), (.int (Int32.ofNat (tr))), (.int (Int32.ofNat (sv))), (.long kh), (.long kl)] below meth c s₁ [] 0 0 := Stand.of_body Bd
  have e0 : s₁.heap = h0 := by rw [← hh, Bd.state]; rfl
  have N0 := Fr.nil n0
  have pre0 : ∀ t, Steps p.tables e below (s₁.setTop (mkF m 0 #[vR a1, vN (tr), vN (sv), vJ kh, .second, vJ kl, .second, uu, uu, uu, uu, uu, uu, uu, uu, uu] [])) t → Steps p.tables e below (s₁.setTop (entryFrame m #[(.ref a1), (.int (Int32.ofNat (tr))), (.int (Int32.ofNat (sv))), (.long kh), (.long kl)] 16)) t := fun t k => castTop (ef_rmIns0 m a1 (Int32.ofNat (tr)) (Int32.ofNat (sv)) kh kl) k
  obtain ⟨T1, h1, L1, c1_1, c2_1, I_1, J_1, cc_1, M_1, B_1, n_1, ch_1, kf_1, lf_1, sz_1, mb_1, y1_1, y2_1, y3_1, y4_1, y5_1, b_1, X1, e1, N1, K1q, w1_1, w2_1, Lq_1, HT_1, HI_1, tt_1, st1⟩ := sgI0 a1 A N I J cc M B nb nd tr sv kh kl kv Ain n sz hn0 X0 hx hZ hw hby hml hown e0 n0 N0 Z0 L0 hS hnd hnb hsv htr hkv Y2 hfb hbr hc0 hc1 hMn hz
  have K1 : KN n0 h0 h1 := (KN.refl n0 h0).trans K1q
  have Z1 : n0 ≤ h1.size := Nat.le_trans Z0 K1q.1
  obtain ⟨fs, hr, hrun, hended, hW, hsame⟩ := X1.leave (v := none) (fun _ => rfl)
  refine ⟨_, _, pre0 _ (?_), hrun, hended, _, _, rfl, ?_, ⟨_, rfl⟩, hW, hsame.mono (by exact w1_1) (by exact w2_1)⟩
  · show Steps p.tables e below (s₁.setTop (mkF m 0 #[vR a1, vN (tr), vN (sv), vJ kh, .second, vJ kl, .second, uu, uu, uu, uu, uu, uu, uu, uu, uu] [])) _
    refine st1 _ ?_
    show Steps p.tables e below (T1.setTop (mkF m 738 #[vR a1, vN (tr), vN (sv), vJ kh, .second, vJ kl, .second, vN (nd), vN (y1_1), vR b_1, vN (y2_1), vN (y3_1), vN (y4_1), vN (nd), vN (y5_1), vI (-1)] [])) _
    exact X1.returnOut hx Bd.returns (hb hby d7_738) hr
  · show QrmIns0 Z a1 A N I J cc M B nb nd tr sv kh kl n ch kf lf_ sz mb kv Ain h0 n0 _ T1.heap _
    rw [e1]
    exact ⟨rfl, N1, K1, _, _, _, _, _, _, _, _, _, _, _, Lq_1, HT_1, HI_1, tt_1⟩
theorem ef_rmIns (m : MethodId) (x0 : Addr) (x1 : Int32) (x2 : Int32) (x3 : Int64) (x4 : Int64) : entryFrame m #[(.ref x0), (.int x1), (.int x2), (.long x3), (.long x4)] 16 = mkF m 0 #[vR x0, .val (.int x1), .val (.int x2), vJ x3, .second, vJ x4, .second, uu, uu, uu, uu, uu, uu, uu, uu, uu] [] := by first | (simp [entryFrame, mkF, argsToLocals, Value.category]; done) | rfl
def QrmIns (Z : State) (a1 : Addr) (A : Nat → Addr) (N : Nat → Nat) (I : Nat → Nat → Int32) (J : Nat → Nat → Int64) (cc : Nat → Int32) (M : Nat → Option Addr) (B : Nat → Nat → Int32) (nb nd tr sv : Nat) (kh kl : Int64) (n : Nat) (ch : Nat → Nat) (kf lf_ : Nat → Int64) (sz : Nat → Nat) (mb : Nat → Nat → Nat) (kv : Nat → Int) (Ain : Nat → Prop) (h0 : Heap) (n0 : Nat) (v : Option Value) (h : Heap) (L : List Loc) : Prop := v = none ∧ Fr n0 L ∧ KN n0 h0 h ∧ ∃ I' J' cc' M' B' n' ch' kf' lf' sz' mb', LT Z h n0 a1 A N I' J' cc' M' B' ∧ TS I' J' cc' M' B' tr nd n' ch' kf' lf' sz' mb' ∧ INV n' kf' lf' sz' mb' kv (fun x => Ain x ∨ x = sv) ∧ tot sz' n' = tot sz n + 1
set_option maxRecDepth 65536 in
set_option maxHeartbeats 40000000 in
theorem rmIns (l : Launch) (Z : State) (a0 : Array Value) (hw : ∀ d ∈ tables_1, d.before a0 Z = true) (ws : List Jvm.Cond) (a1 : Addr) (A : Nat → Addr) (N : Nat → Nat) (I : Nat → Nat → Int32) (J : Nat → Nat → Int64) (cc : Nat → Int32) (M : Nat → Option Addr) (B : Nat → Nat → Int32) (nb nd tr sv : Nat) (kh kl : Int64) (n : Nat) (ch : Nat → Nat) (kf lf_ : Nat → Int64) (sz : Nat → Nat) (mb : Nat → Nat → Nat) (kv : Nat → Int) (Ain : Nat → Prop) (h0 : Heap) (n0 : Nat) (Z0 : n0 ≤ h0.size) (L0 : LT Z h0 n0 a1 A N I J cc M B) (hS : SZ N nb) (hnd : nd < nb) (hnb : nb < 1000) (hsv : sv < 3) (htr : tr < 2) (hkv : kv sv = own_kv kh kl) (HI : INV n kf lf_ sz mb kv Ain) (hAs : ¬ Ain sv) (hT : tot sz n ≤ 2) (HT : TS I J cc M B tr nd n ch kf lf_ sz mb) (hn1 : 1 ≤ n) :
    MetFree l (⟨"com/example/ebbtide/ebbtide/cluster/LoadTrees", "insert", "(IIJJ)V"⟩ : MethodName) (head1 (Jvm.Cond.code (⟨"com/example/ebbtide/ebbtide/cluster/LoadTrees", "insert", "(IIJJ)V"⟩ : MethodName) prog_74_method_2_code 16 none :: ws) ({ frames := 7, cells := 1, slots := 4, locals := 150 } : Room)) (fun a U => a = #[(.ref a1), (.int (Int32.ofNat (tr))), (.int (Int32.ofNat (sv))), (.long kh), (.long kl)] ∧ Z.Warmed39 U.vm ∧ U.heap = h0) (fun _ _ _ _ _ => True) (fun _ U o U' => ∃ v L, o = .returned v ∧ QrmIns Z a1 A N I J cc M B nb nd tr sv kh kl n ch kf lf_ sz mb kv Ain h0 n0 v U'.heap L ∧ FrameEnd U o U' L ({ frames := 7, cells := 1, slots := 4, locals := 150 } : Room).cells ({ frames := 7, cells := 1, slots := 4, locals := 150 } : Room).slots) := by
  refine MetFree.of_bodySF (plainFor_of_name pn_com_example_ebbtide_ebbtide_cluster_LoadTrees) hisR ?_
  intro p e s m args below meth c s₁ Bd hml0 hP hK
  obtain ⟨rfl, hZ, hh⟩ := hP
  have hx := Bd.exec
  have hby := Bd.bytes
  have hml : c.maxLocals = 16 := hml0
  have hown : s.vm.findClass "com/example/ebbtide/ebbtide/cluster/LoadTrees" = some m.cls := findClass_of_methodNamed Bd.named
  have hnm := (name_of_methodNamed Bd.named Bd.method).1
  have X0 : Stand p l e ({ frames := 7, cells := 1, slots := 4, locals := 150 } : Room) s m #[(.ref a1), (.int (Int32.ofNat (tr))), (.int (Int32.ofNat (sv))), (.long kh), (.long kl)] below meth c s₁ [] 0 0 := Stand.of_body Bd
  have e0 : s₁.heap = h0 := by rw [← hh, Bd.state]; rfl
  have N0 := Fr.nil n0
  have pre0 : ∀ t, Steps p.tables e below (s₁.setTop (mkF m 0 #[vR a1, vN (tr), vN (sv), vJ kh, .second, vJ kl, .second, uu, uu, uu, uu, uu, uu, uu, uu, uu] [])) t → Steps p.tables e below (s₁.setTop (entryFrame m #[(.ref a1), (.int (Int32.ofNat (tr))), (.int (Int32.ofNat (sv))), (.long kh), (.long kl)] 16)) t := fun t k => castTop (ef_rmIns m a1 (Int32.ofNat (tr)) (Int32.ofNat (sv)) kh kl) k
  obtain ⟨T1, h1, L1, c1_1, c2_1, I_1, J_1, cc_1, M_1, B_1, n_1, ch_1, kf_1, lf_1, sz_1, mb_1, y1_1, y2_1, y3_1, y4_1, y5_1, b_1, X1, e1, N1, K1q, w1_1, w2_1, Lq_1, HT_1, HI_1, tt_1, st1⟩ := sgI a1 A N I J cc M B nb nd tr sv kh kl kv Ain n ch kf lf_ sz mb X0 hx hZ hw hby hml hown e0 n0 N0 Z0 L0 hS hnd hnb hsv htr HI hAs hkv hT HT hn1
  have K1 : KN n0 h0 h1 := (KN.refl n0 h0).trans K1q
  have Z1 : n0 ≤ h1.size := Nat.le_trans Z0 K1q.1
  obtain ⟨fs, hr, hrun, hended, hW, hsame⟩ := X1.leave (v := none) (fun _ => rfl)
  refine ⟨_, _, pre0 _ (?_), hrun, hended, _, _, rfl, ?_, ⟨_, rfl⟩, hW, hsame.mono (by exact w1_1) (by exact w2_1)⟩
  · show Steps p.tables e below (s₁.setTop (mkF m 0 #[vR a1, vN (tr), vN (sv), vJ kh, .second, vJ kl, .second, uu, uu, uu, uu, uu, uu, uu, uu, uu] [])) _
    refine st1 _ ?_
    show Steps p.tables e below (T1.setTop (mkF m 738 #[vR a1, vN (tr), vN (sv), vJ kh, .second, vJ kl, .second, vN (nd), vN (y1_1), vR b_1, vN (y2_1), vN (y3_1), vN (y4_1), vN (nd), vN (y5_1), vI (-1)] [])) _
    exact X1.returnOut hx Bd.returns (hb hby d7_738) hr
  · show QrmIns Z a1 A N I J cc M B nb nd tr sv kh kl n ch kf lf_ sz mb kv Ain h0 n0 _ T1.heap _
    rw [e1]
    exact ⟨rfl, N1, K1, _, _, _, _, _, _, _, _, _, _, _, Lq_1, HT_1, HI_1, tt_1⟩
def QrmAT (Z : State) (sz : Nat → Nat) (mb : Nat → Nat → Nat) (r1 : Nat) (h0 : Heap) (n0 : Nat) (v : Option Value) (h : Heap) (L : List Loc) : Prop := v = some (.int (Int32.ofNat (fltn sz mb r1))) ∧ Fr n0 L ∧ h = h0
theorem rmAT (l : Launch) (Z : State) (a0 : Array Value) (hw : ∀ d ∈ tables_1, d.before a0 Z = true) (ws : List Jvm.Cond) (a1 : Addr) (A : Nat → Addr) (N : Nat → Nat) (I : Nat → Nat → Int32) (J : Nat → Nat → Int64) (cc : Nat → Int32) (M : Nat → Option Addr) (B : Nat → Nat → Int32) (nb nd tr r1 : Nat) (n : Nat) (ch : Nat → Nat) (kf lf_ : Nat → Int64) (sz : Nat → Nat) (mb : Nat → Nat → Nat) (kv : Nat → Int) (Ain : Nat → Prop) (h0 : Heap) (n0 : Nat) (Z0 : n0 ≤ h0.size) (L0 : LT Z h0 n0 a1 A N I J cc M B) (hS : SZ N nb) (hnd : nd < nb) (hnb : nb < 1000) (htr : tr < 2) (HT : TS I J cc M B tr nd n ch kf lf_ sz mb) (HI : INV n kf lf_ sz mb kv Ain) (hT : tot sz n = 3) (hr : r1 < 3) :
    MetFree l (⟨"com/example/ebbtide/ebbtide/cluster/LoadTrees", "at", "(II)I"⟩ : MethodName) (head1 (Jvm.Cond.code (⟨"com/example/ebbtide/ebbtide/cluster/LoadTrees", "at", "(II)I"⟩ : MethodName) prog_74_method_4_code 6 (some .int) :: ws) ({ frames := 0, cells := 0, slots := 0, locals := 0 } : Room)) (fun a U => a = #[(.ref a1), (.int (Int32.ofNat (tr))), (.int (Int32.ofNat (r1)))] ∧ Z.Warmed39 U.vm ∧ U.heap = h0) (fun _ _ _ _ _ => True) (fun _ U o U' => ∃ v L, o = .returned v ∧ QrmAT Z sz mb r1 h0 n0 v U'.heap L ∧ FrameEnd U o U' L ({ frames := 0, cells := 0, slots := 0, locals := 0 } : Room).cells ({ frames := 0, cells := 0, slots := 0, locals := 0 } : Room).slots) := by
  have h3 := own_n3 HI hT
  obtain ⟨⟨a_1, a_2, a_3, a_4, a_5, a_6, a_7⟩, b_1, b_2, g, inj, z⟩ := HT
  by_cases c0 : r1 < sz 0
  · obtain ⟨f1, f2, f3, f4, f5, f6, f7, f8, f9, f10, f11, f12, f13⟩ := g 0 (by omega)
    obtain ⟨b1, hM⟩ := b_2 _ f2
    have e : fltn sz mb r1 = mb 0 r1 := by unfold fltn; rw [if_pos c0]
    exact rmAt0 l Z a0 hw ws a1 A N I J cc M B nb nd tr r1 (ch 0) (fltn sz mb r1) b1 (sz 0) h0 n0 Z0 L0 hS hnd hnb htr a_1 a_2 f8 (by omega) f1 (by omega) hM (by omega) c0 (by omega) (by rw [e]; exact (f13 r1 c0).1)
  · by_cases c1 : r1 - sz 0 < sz 1
    · obtain ⟨f1, f2, f3, f4, f5, f6, f7, f8, f9, f10, f11, f12, f13⟩ := g 1 (by omega)
      have g0 := g 0 (by omega)
      obtain ⟨b1, hM⟩ := b_2 _ f2
      have e : fltn sz mb r1 = mb 1 (r1 - sz 0) := by unfold fltn; rw [if_neg c0, if_pos c1]
      exact rmAt1 l Z a0 hw ws a1 A N I J cc M B nb nd tr r1 (ch 1) (fltn sz mb r1) b1 (sz 0) (sz 1) h0 n0 Z0 L0 hS hnd hnb htr a_1 a_2 g0.2.2.2.2.2.2.2.1 f8 (by omega) (by omega) f1 (by omega) hM (by omega) (by omega) (by omega) (by rw [e]; exact (f13 _ c1).1)
    · obtain ⟨f1, f2, f3, f4, f5, f6, f7, f8, f9, f10, f11, f12, f13⟩ := g 2 (by omega)
      have g0 := g 0 (by omega)
      have g1 := g 1 (by omega)
      obtain ⟨b1, hM⟩ := b_2 _ f2
      have e : fltn sz mb r1 = mb 2 (r1 - sz 0 - sz 1) := by unfold fltn; rw [if_neg c0, if_neg c1]
      exact rmAt2 l Z a0 hw ws a1 A N I J cc M B nb nd tr r1 (ch 2) (fltn sz mb r1) b1 (sz 0) (sz 1) (sz 2) h0 n0 Z0 L0 hS hnd hnb htr a_1 a_2 g0.2.2.2.2.2.2.2.1 g1.2.2.2.2.2.2.2.1 f8 (by omega) (by omega) (by omega) f1 (by omega) hM (by omega) (by omega) (by omega) (by rw [e]; exact (f13 _ (by omega)).1)
theorem own_frd {n n' : Nat} {L : List Loc} (N : Fr n L) (q : n' ≤ n) : Fr n' L := fun y hy => Nat.le_trans q (N y hy)
def own_nth (x : Int32) (k : Nat) : Int32 := if k = 0 then x / 2 else if k = 1 then (if x &&& 1 = 0 then (if x / 2 = 0 then 1 else 0) else (if x / 2 = 2 then 1 else 2)) else (if x &&& 1 = 0 then (if x / 2 = 2 then 1 else 2) else (if x / 2 = 0 then 1 else 0))
theorem own_nth3 : ∀ q, q < 6 → ∃ p0 p1 p2 : Nat, (p0 < 3 ∧ p1 < 3 ∧ p2 < 3 ∧ p0 ≠ p1 ∧ p1 ≠ p2 ∧ p0 ≠ p2) ∧ own_nth (Int32.ofNat q) 0 = Int32.ofNat p0 ∧ own_nth (Int32.ofNat q) 1 = Int32.ofNat p1 ∧ own_nth (Int32.ofNat q) 2 = Int32.ofNat p2
  | 0, _ => ⟨0, 1, 2, by decide⟩
  | 1, _ => ⟨0, 2, 1, by decide⟩
  | 2, _ => ⟨1, 0, 2, by decide⟩
  | 3, _ => ⟨1, 2, 0, by decide⟩
  | 4, _ => ⟨2, 0, 1, by decide⟩
  | 5, _ => ⟨2, 1, 0, by decide⟩
theorem own_bit (x : Int32) : ∃ q, q < 2 ∧ x &&& 1 = Int32.ofNat q := by
  have h : (x &&& 1).toBitVec = 0#32 ∨ (x &&& 1).toBitVec = 1#32 := by
    rw [Int32.toBitVec_and, show (1 : Int32).toBitVec = 1#32 from rfl]
    have : (x.toBitVec &&& 1#32).toNat < 2 := by rw [BitVec.toNat_and]; exact Nat.lt_succ_of_le (Nat.and_le_right)
    have e : (x.toBitVec &&& 1#32).toNat = 0 ∨ (x.toBitVec &&& 1#32).toNat = 1 := by omega
    rcases e with e | e
    · left; exact BitVec.eq_of_toNat_eq (by rw [e]; rfl)
    · right; exact BitVec.eq_of_toNat_eq (by rw [e]; rfl)
  rcases h with h | h
  · exact ⟨0, by omega, Int32.toBitVec_inj.mp h⟩
  · exact ⟨1, by omega, Int32.toBitVec_inj.mp h⟩
theorem own_six (x : Int32) : ∃ q, q < 6 ∧ (x &&& 2147483647) % 6 = Int32.ofNat q := by
  have h0 : 0 ≤ (x &&& 2147483647).toInt := by
    have hm : (x &&& 2147483647).toBitVec.msb = false := by
      rw [Int32.toBitVec_and, BitVec.msb_and, show (2147483647 : Int32).toBitVec.msb = false from by decide, Bool.and_false]
    have := BitVec.toInt_nonneg_of_msb_false hm
    exact this
  have h6 : (6 : Int32).toInt = 6 := rfl
  have e : ((x &&& 2147483647) % 6).toInt = (x &&& 2147483647).toInt.tmod 6 := by rw [Int32.toInt_mod, h6]
  have l0 : 0 ≤ (x &&& 2147483647).toInt.tmod 6 := Int.tmod_nonneg _ h0
  have l1 : (x &&& 2147483647).toInt.tmod 6 < 6 := Int.tmod_lt_of_pos _ (by omega)
  refine ⟨((x &&& 2147483647).toInt.tmod 6).toNat, by omega, Int32.toInt_inj.mp ?_⟩
  rw [e, own_toI (by omega)]; omega
theorem d1_0 : decode method_3_code 0 = .ok (.iload_n 0, 1) := by decide +kernel
theorem d1_1 : decode method_3_code 1 = .ok (.iconst 2, 1) := by decide +kernel
theorem d1_2 : decode method_3_code 2 = .ok (.idiv, 1) := by decide +kernel
theorem d1_3 : decode method_3_code 3 = .ok (.istore_n 2, 1) := by decide +kernel
theorem d1_4 : decode method_3_code 4 = .ok (.iload_n 2, 1) := by decide +kernel
theorem d1_5 : decode method_3_code 5 = .ok (.ifCond .ne 7, 3) := by decide +kernel
theorem d1_8 : decode method_3_code 8 = .ok (.iconst 1, 1) := by decide +kernel
theorem d1_9 : decode method_3_code 9 = .ok (.goto 4, 3) := by decide +kernel
theorem d1_12 : decode method_3_code 12 = .ok (.iconst 0, 1) := by decide +kernel
theorem d1_13 : decode method_3_code 13 = .ok (.istore_n 3, 1) := by decide +kernel
theorem d1_14 : decode method_3_code 14 = .ok (.iload_n 2, 1) := by decide +kernel
theorem d1_15 : decode method_3_code 15 = .ok (.iconst 2, 1) := by decide +kernel
theorem d1_16 : decode method_3_code 16 = .ok (.if_icmp .ne 7, 3) := by decide +kernel
theorem d1_19 : decode method_3_code 19 = .ok (.iconst 1, 1) := by decide +kernel
theorem d1_20 : decode method_3_code 20 = .ok (.goto 4, 3) := by decide +kernel
theorem d1_23 : decode method_3_code 23 = .ok (.iconst 2, 1) := by decide +kernel
theorem d1_24 : decode method_3_code 24 = .ok (.istore 4, 2) := by decide +kernel
theorem d1_26 : decode method_3_code 26 = .ok (.iload_n 0, 1) := by decide +kernel
theorem d1_27 : decode method_3_code 27 = .ok (.iconst 1, 1) := by decide +kernel
theorem d1_28 : decode method_3_code 28 = .ok (.iand, 1) := by decide +kernel
theorem d1_29 : decode method_3_code 29 = .ok (.ifCond .eq 13, 3) := by decide +kernel
theorem d1_32 : decode method_3_code 32 = .ok (.iload_n 3, 1) := by decide +kernel
theorem d1_33 : decode method_3_code 33 = .ok (.istore 5, 2) := by decide +kernel
theorem d1_35 : decode method_3_code 35 = .ok (.iload 4, 2) := by decide +kernel
theorem d1_37 : decode method_3_code 37 = .ok (.istore_n 3, 1) := by decide +kernel
theorem d1_38 : decode method_3_code 38 = .ok (.iload 5, 2) := by decide +kernel
theorem d1_40 : decode method_3_code 40 = .ok (.istore 4, 2) := by decide +kernel
theorem d1_42 : decode method_3_code 42 = .ok (.iload_n 1, 1) := by decide +kernel
theorem d1_43 : decode method_3_code 43 = .ok (.ifCond .ne 5, 3) := by decide +kernel
theorem d1_46 : decode method_3_code 46 = .ok (.iload_n 2, 1) := by decide +kernel
theorem d1_47 : decode method_3_code 47 = .ok (.ireturn, 1) := by decide +kernel
theorem pn_com_example_ebbtide_ebbtide_cluster_LoadTreesAtPinLaw : plainName "com/example/ebbtide/ebbtide/cluster/LoadTreesAtPinLaw" = true := by first | (simp [plainName, overriddenIn]; done) | decide +kernel
theorem ef_rmNth0 (m : MethodId) (x0 : Int32) (x1 : Int32) : entryFrame m #[(.int x0), (.int x1)] 6 = mkF m 0 #[.val (.int x0), .val (.int x1), uu, uu, uu, uu] [] := by first | (simp [entryFrame, mkF, argsToLocals, Value.category]; done) | rfl
def QrmNth0 (Z : State) (x1 : Int32) (h0 : Heap) (n0 : Nat) (v : Option Value) (h : Heap) (L : List Loc) : Prop := v = some (.int (own_nth x1 0)) ∧ Fr n0 L ∧ h = h0
set_option maxRecDepth 65536 in
set_option maxHeartbeats 40000000 in
theorem rmNth0 (l : Launch) (Z : State) (a0 : Array Value) (hw : ∀ d ∈ tables_1, d.before a0 Z = true) (ws : List Jvm.Cond) (x1 : Int32) (h0 : Heap) (n0 : Nat) (Z0 : n0 ≤ h0.size) :
    MetFree l (⟨"com/example/ebbtide/ebbtide/cluster/LoadTreesAtPinLaw", "nth", "(II)I"⟩ : MethodName) (head1 (Jvm.Cond.code (⟨"com/example/ebbtide/ebbtide/cluster/LoadTreesAtPinLaw", "nth", "(II)I"⟩ : MethodName) method_3_code 6 (some .int) :: ws) ({ frames := 0, cells := 0, slots := 0, locals := 0 } : Room)) (fun a U => a = #[(.int x1), (.int (0 : Int32))] ∧ Z.Warmed39 U.vm ∧ U.heap = h0) (fun _ _ _ _ _ => True) (fun _ U o U' => ∃ v L, o = .returned v ∧ QrmNth0 Z x1 h0 n0 v U'.heap L ∧ FrameEnd U o U' L ({ frames := 0, cells := 0, slots := 0, locals := 0 } : Room).cells ({ frames := 0, cells := 0, slots := 0, locals := 0 } : Room).slots) := by
  refine MetFree.of_bodySF (plainFor_of_name pn_com_example_ebbtide_ebbtide_cluster_LoadTreesAtPinLaw) hisR ?_
  intro p e s m args below meth c s₁ Bd hml0 hP hK
  obtain ⟨rfl, hZ, hh⟩ := hP
  have hx := Bd.exec
  have hby := Bd.bytes
  have hml : c.maxLocals = 6 := hml0
  have hown : s.vm.findClass "com/example/ebbtide/ebbtide/cluster/LoadTreesAtPinLaw" = some m.cls := findClass_of_methodNamed Bd.named
  have hnm := (name_of_methodNamed Bd.named Bd.method).1
  have X0 : Stand p l e ({ frames := 0, cells := 0, slots := 0, locals := 0 } : Room) s m #[(.int x1), (.int (0 : Int32))] below meth c s₁ [] 0 0 := Stand.of_body Bd
  have e0 : s₁.heap = h0 := by rw [← hh, Bd.state]; rfl
  have N0 := Fr.nil n0
  have pre0 : ∀ t, Steps p.tables e below (s₁.setTop (mkF m 0 #[.val (.int x1), vI 0, uu, uu, uu, uu] [])) t → Steps p.tables e below (s₁.setTop (entryFrame m #[(.int x1), (.int (0 : Int32))] 6)) t := fun t k => castTop (ef_rmNth0 m x1 (0 : Int32)) k
  have c1 : ∀ t, Steps p.tables e below (s₁.setTop (mkF m 5 #[.val (.int x1), vI 0, .val (.int (x1 / (2 : Int32))), uu, uu, uu] [(.int (x1 / (2 : Int32)))])) t → Steps p.tables e below (s₁.setTop (mkF m 0 #[.val (.int x1), vI 0, uu, uu, uu, uu] [])) t := by
    intro t kt
    show Steps p.tables e below (s₁.setTop (mkF m 0 #[.val (.int x1), vI 0, uu, uu, uu, uu] [])) _
    refine XS.iloadN X0.here hx rfl (hb hby d1_0) rfl ?_
    refine XS.iconst X0.here hx rfl (hb hby d1_1) ?_
    refine XS.idiv X0.here hx rfl (hb hby d1_2) rfl (by decide) ?_
    refine XS.istoreN X0.here hx rfl (hb hby d1_3) rfl (l' := #[.val (.int x1), vI 0, .val (.int (x1 / (2 : Int32))), uu, uu, uu]) rfl ?_
    refine XS.iloadN X0.here hx rfl (hb hby d1_4) rfl ?_
    exact kt
  obtain ⟨v3, hv3⟩ : ∃ z, z = (if (x1 / (2 : Int32)) = (0 : Int32) then (1 : Int32) else (0 : Int32)) := ⟨_, rfl⟩
  have c4 : ∀ t, Steps p.tables e below (s₁.setTop (mkF m 13 #[.val (.int x1), vI 0, .val (.int (x1 / (2 : Int32))), uu, uu, uu] [(.int v3)])) t → Steps p.tables e below (s₁.setTop (mkF m 5 #[.val (.int x1), vI 0, .val (.int (x1 / (2 : Int32))), uu, uu, uu] [(.int (x1 / (2 : Int32)))])) t := by
    intro t kt
    by_cases j5_2 : (x1 / (2 : Int32)) = (0 : Int32)
    · show Steps p.tables e below (s₁.setTop (mkF m 5 #[.val (.int x1), vI 0, .val (.int (x1 / (2 : Int32))), uu, uu, uu] [(.int (x1 / (2 : Int32)))])) _
      refine XS.ifNo X0.here hx rfl (hb hby d1_5) rfl ((if0 _ _).trans (teq j5_2).2) ?_
      refine XS.iconst X0.here hx rfl (hb hby d1_8) ?_
      refine XS.goto X0.here hx rfl (pc0 := 9) (pc' := 13) rfl (hb hby d1_9) (by decide) (by decide) ?_
      obtain rfl : v3 = (1 : Int32) := by rw [hv3, if_pos j5_2]
      exact kt
    · show Steps p.tables e below (s₁.setTop (mkF m 5 #[.val (.int x1), vI 0, .val (.int (x1 / (2 : Int32))), uu, uu, uu] [(.int (x1 / (2 : Int32)))])) _
      refine XS.ifYes X0.here hx rfl (pc0 := 5) (pc' := 12) rfl (hb hby d1_5) rfl ((if0 _ _).trans (feq j5_2).2) (by decide) (by decide) ?_
      refine XS.iconst X0.here hx rfl (hb hby d1_12) ?_
      obtain rfl : v3 = (0 : Int32) := by rw [hv3, if_neg j5_2]
      exact kt
  have c5 : ∀ t, Steps p.tables e below (s₁.setTop (mkF m 16 #[.val (.int x1), vI 0, .val (.int (x1 / (2 : Int32))), .val (.int v3), uu, uu] [(.int (2 : Int32)), (.int (x1 / (2 : Int32)))])) t → Steps p.tables e below (s₁.setTop (mkF m 13 #[.val (.int x1), vI 0, .val (.int (x1 / (2 : Int32))), uu, uu, uu] [(.int v3)])) t := by
    intro t kt
    show Steps p.tables e below (s₁.setTop (mkF m 13 #[.val (.int x1), vI 0, .val (.int (x1 / (2 : Int32))), uu, uu, uu] [(.int v3)])) _
    refine XS.istoreN X0.here hx rfl (hb hby d1_13) rfl (l' := #[.val (.int x1), vI 0, .val (.int (x1 / (2 : Int32))), .val (.int v3), uu, uu]) rfl ?_
    refine XS.iloadN X0.here hx rfl (hb hby d1_14) rfl ?_
    refine XS.iconst X0.here hx rfl (hb hby d1_15) ?_
    exact kt
  obtain ⟨v7, hv7⟩ : ∃ z, z = (if (x1 / (2 : Int32)) = (2 : Int32) then (1 : Int32) else (2 : Int32)) := ⟨_, rfl⟩
  have c8 : ∀ t, Steps p.tables e below (s₁.setTop (mkF m 24 #[.val (.int x1), vI 0, .val (.int (x1 / (2 : Int32))), .val (.int v3), uu, uu] [(.int v7)])) t → Steps p.tables e below (s₁.setTop (mkF m 16 #[.val (.int x1), vI 0, .val (.int (x1 / (2 : Int32))), .val (.int v3), uu, uu] [(.int (2 : Int32)), (.int (x1 / (2 : Int32)))])) t := by
    intro t kt
    by_cases j16_6 : (x1 / (2 : Int32)) = (2 : Int32)
    · show Steps p.tables e below (s₁.setTop (mkF m 16 #[.val (.int x1), vI 0, .val (.int (x1 / (2 : Int32))), .val (.int v3), uu, uu] [(.int (2 : Int32)), (.int (x1 / (2 : Int32)))])) _
      refine XS.icmpNo X0.here hx rfl (hb hby d1_16) rfl (teq j16_6).2 ?_
      refine XS.iconst X0.here hx rfl (hb hby d1_19) ?_
      refine XS.goto X0.here hx rfl (pc0 := 20) (pc' := 24) rfl (hb hby d1_20) (by decide) (by decide) ?_
      obtain rfl : v7 = (1 : Int32) := by rw [hv7, if_pos j16_6]
      exact kt
    · show Steps p.tables e below (s₁.setTop (mkF m 16 #[.val (.int x1), vI 0, .val (.int (x1 / (2 : Int32))), .val (.int v3), uu, uu] [(.int (2 : Int32)), (.int (x1 / (2 : Int32)))])) _
      refine XS.icmpYes X0.here hx rfl (pc0 := 16) (pc' := 23) rfl (hb hby d1_16) rfl (feq j16_6).2 (by decide) (by decide) ?_
      refine XS.iconst X0.here hx rfl (hb hby d1_23) ?_
      obtain rfl : v7 = (2 : Int32) := by rw [hv7, if_neg j16_6]
      exact kt
  have c9 : ∀ t, Steps p.tables e below (s₁.setTop (mkF m 29 #[.val (.int x1), vI 0, .val (.int (x1 / (2 : Int32))), .val (.int v3), .val (.int v7), uu] [(.int (x1 &&& (1 : Int32)))])) t → Steps p.tables e below (s₁.setTop (mkF m 24 #[.val (.int x1), vI 0, .val (.int (x1 / (2 : Int32))), .val (.int v3), uu, uu] [(.int v7)])) t := by
    intro t kt
    show Steps p.tables e below (s₁.setTop (mkF m 24 #[.val (.int x1), vI 0, .val (.int (x1 / (2 : Int32))), .val (.int v3), uu, uu] [(.int v7)])) _
    refine XS.istore X0.here hx rfl (hb hby d1_24) rfl (l' := #[.val (.int x1), vI 0, .val (.int (x1 / (2 : Int32))), .val (.int v3), .val (.int v7), uu]) rfl ?_
    refine XS.iloadN X0.here hx rfl (hb hby d1_26) rfl ?_
    refine XS.iconst X0.here hx rfl (hb hby d1_27) ?_
    refine XS.iand X0.here hx rfl (hb hby d1_28) rfl ?_
    exact kt
  by_cases hc29 : (x1 &&& (1 : Int32)) = (0 : Int32)
  · obtain ⟨fs, hr, hrun, hended, hW, hsame⟩ := X0.leave (v := some (.int (x1 / (2 : Int32)))) (fun h => by rw [Bd.returns] at h; cases h)
    refine ⟨_, _, pre0 _ (c1 _ (c4 _ (c5 _ (c8 _ (c9 _ (?_)))))), hrun, hended, _, _, rfl, ?_, ⟨_, rfl⟩, hW, hsame.mono (by decide) (by decide)⟩
    · show Steps p.tables e below (s₁.setTop (mkF m 29 #[.val (.int x1), vI 0, .val (.int (x1 / (2 : Int32))), .val (.int v3), .val (.int v7), uu] [(.int (x1 &&& (1 : Int32)))])) _
      refine XS.ifYes X0.here hx rfl (pc0 := 29) (pc' := 42) rfl (hb hby d1_29) rfl ((if0 _ _).trans (teq hc29).1) (by decide) (by decide) ?_
      refine XS.iloadN X0.here hx rfl (hb hby d1_42) rfl ?_
      refine XS.ifNo X0.here hx rfl (hb hby d1_43) rfl ((if0 _ _).trans (teq (by decide : (0 : Int32) = (0 : Int32))).2) ?_
      refine XS.iloadN X0.here hx rfl (hb hby d1_46) rfl ?_
      show Steps p.tables e below (s₁.setTop (mkF m 47 #[.val (.int x1), vI 0, .val (.int (x1 / (2 : Int32))), .val (.int v3), .val (.int v7), uu] [(.int (x1 / (2 : Int32)))])) _
      exact retI X0 hx Bd.returns (hb hby d1_47) hr
    · show QrmNth0 Z x1 h0 n0 _ s₁.heap _
      rw [e0]
      exact ⟨by simp [own_nth, hc29], N0, rfl⟩
  · obtain ⟨fs, hr, hrun, hended, hW, hsame⟩ := X0.leave (v := some (.int (x1 / (2 : Int32)))) (fun h => by rw [Bd.returns] at h; cases h)
    refine ⟨_, _, pre0 _ (c1 _ (c4 _ (c5 _ (c8 _ (c9 _ (?_)))))), hrun, hended, _, _, rfl, ?_, ⟨_, rfl⟩, hW, hsame.mono (by decide) (by decide)⟩
    · show Steps p.tables e below (s₁.setTop (mkF m 29 #[.val (.int x1), vI 0, .val (.int (x1 / (2 : Int32))), .val (.int v3), .val (.int v7), uu] [(.int (x1 &&& (1 : Int32)))])) _
      refine XS.ifNo X0.here hx rfl (hb hby d1_29) rfl ((if0 _ _).trans (feq hc29).1) ?_
      refine XS.iloadN X0.here hx rfl (hb hby d1_32) rfl ?_
      refine XS.istore X0.here hx rfl (hb hby d1_33) rfl (l' := #[.val (.int x1), vI 0, .val (.int (x1 / (2 : Int32))), .val (.int v3), .val (.int v7), .val (.int v3)]) rfl ?_
      refine XS.iload X0.here hx rfl (hb hby d1_35) rfl ?_
      refine XS.istoreN X0.here hx rfl (hb hby d1_37) rfl (l' := #[.val (.int x1), vI 0, .val (.int (x1 / (2 : Int32))), .val (.int v7), .val (.int v7), .val (.int v3)]) rfl ?_
      refine XS.iload X0.here hx rfl (hb hby d1_38) rfl ?_
      refine XS.istore X0.here hx rfl (hb hby d1_40) rfl (l' := #[.val (.int x1), vI 0, .val (.int (x1 / (2 : Int32))), .val (.int v7), .val (.int v3), .val (.int v3)]) rfl ?_
      refine XS.iloadN X0.here hx rfl (hb hby d1_42) rfl ?_
      refine XS.ifNo X0.here hx rfl (hb hby d1_43) rfl ((if0 _ _).trans (teq (by decide : (0 : Int32) = (0 : Int32))).2) ?_
      refine XS.iloadN X0.here hx rfl (hb hby d1_46) rfl ?_
      show Steps p.tables e below (s₁.setTop (mkF m 47 #[.val (.int x1), vI 0, .val (.int (x1 / (2 : Int32))), .val (.int v7), .val (.int v3), .val (.int v3)] [(.int (x1 / (2 : Int32)))])) _
      exact retI X0 hx Bd.returns (hb hby d1_47) hr
    · show QrmNth0 Z x1 h0 n0 _ s₁.heap _
      rw [e0]
      exact ⟨by simp [own_nth, hc29], N0, rfl⟩
theorem d1_48 : decode method_3_code 48 = .ok (.iload_n 1, 1) := by decide +kernel
theorem d1_49 : decode method_3_code 49 = .ok (.iconst 1, 1) := by decide +kernel
theorem d1_50 : decode method_3_code 50 = .ok (.if_icmp .ne 5, 3) := by decide +kernel
theorem d1_53 : decode method_3_code 53 = .ok (.iload_n 3, 1) := by decide +kernel
theorem d1_54 : decode method_3_code 54 = .ok (.ireturn, 1) := by decide +kernel
theorem ef_rmNth1 (m : MethodId) (x0 : Int32) (x1 : Int32) : entryFrame m #[(.int x0), (.int x1)] 6 = mkF m 0 #[.val (.int x0), .val (.int x1), uu, uu, uu, uu] [] := by first | (simp [entryFrame, mkF, argsToLocals, Value.category]; done) | rfl
def QrmNth1 (Z : State) (x1 : Int32) (h0 : Heap) (n0 : Nat) (v : Option Value) (h : Heap) (L : List Loc) : Prop := v = some (.int (own_nth x1 1)) ∧ Fr n0 L ∧ h = h0
set_option maxRecDepth 65536 in
set_option maxHeartbeats 40000000 in
theorem rmNth1 (l : Launch) (Z : State) (a0 : Array Value) (hw : ∀ d ∈ tables_1, d.before a0 Z = true) (ws : List Jvm.Cond) (x1 : Int32) (h0 : Heap) (n0 : Nat) (Z0 : n0 ≤ h0.size) :
    MetFree l (⟨"com/example/ebbtide/ebbtide/cluster/LoadTreesAtPinLaw", "nth", "(II)I"⟩ : MethodName) (head1 (Jvm.Cond.code (⟨"com/example/ebbtide/ebbtide/cluster/LoadTreesAtPinLaw", "nth", "(II)I"⟩ : MethodName) method_3_code 6 (some .int) :: ws) ({ frames := 0, cells := 0, slots := 0, locals := 0 } : Room)) (fun a U => a = #[(.int x1), (.int (1 : Int32))] ∧ Z.Warmed39 U.vm ∧ U.heap = h0) (fun _ _ _ _ _ => True) (fun _ U o U' => ∃ v L, o = .returned v ∧ QrmNth1 Z x1 h0 n0 v U'.heap L ∧ FrameEnd U o U' L ({ frames := 0, cells := 0, slots := 0, locals := 0 } : Room).cells ({ frames := 0, cells := 0, slots := 0, locals := 0 } : Room).slots) := by
  refine MetFree.of_bodySF (plainFor_of_name pn_com_example_ebbtide_ebbtide_cluster_LoadTreesAtPinLaw) hisR ?_
  intro p e s m args below meth c s₁ Bd hml0 hP hK
  obtain ⟨rfl, hZ, hh⟩ := hP
  have hx := Bd.exec
  have hby := Bd.bytes
  have hml : c.maxLocals = 6 := hml0
  have hown : s.vm.findClass "com/example/ebbtide/ebbtide/cluster/LoadTreesAtPinLaw" = some m.cls := findClass_of_methodNamed Bd.named
  have hnm := (name_of_methodNamed Bd.named Bd.method).1
  have X0 : Stand p l e ({ frames := 0, cells := 0, slots := 0, locals := 0 } : Room) s m #[(.int x1), (.int (1 : Int32))] below meth c s₁ [] 0 0 := Stand.of_body Bd
  have e0 : s₁.heap = h0 := by rw [← hh, Bd.state]; rfl
  have N0 := Fr.nil n0
  have pre0 : ∀ t, Steps p.tables e below (s₁.setTop (mkF m 0 #[.val (.int x1), vI 1, uu, uu, uu, uu] [])) t → Steps p.tables e below (s₁.setTop (entryFrame m #[(.int x1), (.int (1 : Int32))] 6)) t := fun t k => castTop (ef_rmNth1 m x1 (1 : Int32)) k
  have c1 : ∀ t, Steps p.tables e below (s₁.setTop (mkF m 5 #[.val (.int x1), vI 1, .val (.int (x1 / (2 : Int32))), uu, uu, uu] [(.int (x1 / (2 : Int32)))])) t → Steps p.tables e below (s₁.setTop (mkF m 0 #[.val (.int x1), vI 1, uu, uu, uu, uu] [])) t := by
    intro t kt
    show Steps p.tables e below (s₁.setTop (mkF m 0 #[.val (.int x1), vI 1, uu, uu, uu, uu] [])) _
    refine XS.iloadN X0.here hx rfl (hb hby d1_0) rfl ?_
    refine XS.iconst X0.here hx rfl (hb hby d1_1) ?_
    refine XS.idiv X0.here hx rfl (hb hby d1_2) rfl (by decide) ?_
    refine XS.istoreN X0.here hx rfl (hb hby d1_3) rfl (l' := #[.val (.int x1), vI 1, .val (.int (x1 / (2 : Int32))), uu, uu, uu]) rfl ?_
    refine XS.iloadN X0.here hx rfl (hb hby d1_4) rfl ?_
    exact kt
  obtain ⟨v3, hv3⟩ : ∃ z, z = (if (x1 / (2 : Int32)) = (0 : Int32) then (1 : Int32) else (0 : Int32)) := ⟨_, rfl⟩
  have c4 : ∀ t, Steps p.tables e below (s₁.setTop (mkF m 13 #[.val (.int x1), vI 1, .val (.int (x1 / (2 : Int32))), uu, uu, uu] [(.int v3)])) t → Steps p.tables e below (s₁.setTop (mkF m 5 #[.val (.int x1), vI 1, .val (.int (x1 / (2 : Int32))), uu, uu, uu] [(.int (x1 / (2 : Int32)))])) t := by
    intro t kt
    by_cases j5_2 : (x1 / (2 : Int32)) = (0 : Int32)
    · show Steps p.tables e below (s₁.setTop (mkF m 5 #[.val (.int x1), vI 1, .val (.int (x1 / (2 : Int32))), uu, uu, uu] [(.int (x1 / (2 : Int32)))])) _
      refine XS.ifNo X0.here hx rfl (hb hby d1_5) rfl ((if0 _ _).trans (teq j5_2).2) ?_
      refine XS.iconst X0.here hx rfl (hb hby d1_8) ?_
      refine XS.goto X0.here hx rfl (pc0 := 9) (pc' := 13) rfl (hb hby d1_9) (by decide) (by decide) ?_
      obtain rfl : v3 = (1 : Int32) := by rw [hv3, if_pos j5_2]
      exact kt
    · show Steps p.tables e below (s₁.setTop (mkF m 5 #[.val (.int x1), vI 1, .val (.int (x1 / (2 : Int32))), uu, uu, uu] [(.int (x1 / (2 : Int32)))])) _
      refine XS.ifYes X0.here hx rfl (pc0 := 5) (pc' := 12) rfl (hb hby d1_5) rfl ((if0 _ _).trans (feq j5_2).2) (by decide) (by decide) ?_
      refine XS.iconst X0.here hx rfl (hb hby d1_12) ?_
      obtain rfl : v3 = (0 : Int32) := by rw [hv3, if_neg j5_2]
      exact kt
  have c5 : ∀ t, Steps p.tables e below (s₁.setTop (mkF m 16 #[.val (.int x1), vI 1, .val (.int (x1 / (2 : Int32))), .val (.int v3), uu, uu] [(.int (2 : Int32)), (.int (x1 / (2 : Int32)))])) t → Steps p.tables e below (s₁.setTop (mkF m 13 #[.val (.int x1), vI 1, .val (.int (x1 / (2 : Int32))), uu, uu, uu] [(.int v3)])) t := by
    intro t kt
    show Steps p.tables e below (s₁.setTop (mkF m 13 #[.val (.int x1), vI 1, .val (.int (x1 / (2 : Int32))), uu, uu, uu] [(.int v3)])) _
    refine XS.istoreN X0.here hx rfl (hb hby d1_13) rfl (l' := #[.val (.int x1), vI 1, .val (.int (x1 / (2 : Int32))), .val (.int v3), uu, uu]) rfl ?_
    refine XS.iloadN X0.here hx rfl (hb hby d1_14) rfl ?_
    refine XS.iconst X0.here hx rfl (hb hby d1_15) ?_
    exact kt
  obtain ⟨v7, hv7⟩ : ∃ z, z = (if (x1 / (2 : Int32)) = (2 : Int32) then (1 : Int32) else (2 : Int32)) := ⟨_, rfl⟩
  have c8 : ∀ t, Steps p.tables e below (s₁.setTop (mkF m 24 #[.val (.int x1), vI 1, .val (.int (x1 / (2 : Int32))), .val (.int v3), uu, uu] [(.int v7)])) t → Steps p.tables e below (s₁.setTop (mkF m 16 #[.val (.int x1), vI 1, .val (.int (x1 / (2 : Int32))), .val (.int v3), uu, uu] [(.int (2 : Int32)), (.int (x1 / (2 : Int32)))])) t := by
    intro t kt
    by_cases j16_6 : (x1 / (2 : Int32)) = (2 : Int32)
    · show Steps p.tables e below (s₁.setTop (mkF m 16 #[.val (.int x1), vI 1, .val (.int (x1 / (2 : Int32))), .val (.int v3), uu, uu] [(.int (2 : Int32)), (.int (x1 / (2 : Int32)))])) _
      refine XS.icmpNo X0.here hx rfl (hb hby d1_16) rfl (teq j16_6).2 ?_
      refine XS.iconst X0.here hx rfl (hb hby d1_19) ?_
      refine XS.goto X0.here hx rfl (pc0 := 20) (pc' := 24) rfl (hb hby d1_20) (by decide) (by decide) ?_
      obtain rfl : v7 = (1 : Int32) := by rw [hv7, if_pos j16_6]
      exact kt
    · show Steps p.tables e below (s₁.setTop (mkF m 16 #[.val (.int x1), vI 1, .val (.int (x1 / (2 : Int32))), .val (.int v3), uu, uu] [(.int (2 : Int32)), (.int (x1 / (2 : Int32)))])) _
      refine XS.icmpYes X0.here hx rfl (pc0 := 16) (pc' := 23) rfl (hb hby d1_16) rfl (feq j16_6).2 (by decide) (by decide) ?_
      refine XS.iconst X0.here hx rfl (hb hby d1_23) ?_
      obtain rfl : v7 = (2 : Int32) := by rw [hv7, if_neg j16_6]
      exact kt
  have c9 : ∀ t, Steps p.tables e below (s₁.setTop (mkF m 29 #[.val (.int x1), vI 1, .val (.int (x1 / (2 : Int32))), .val (.int v3), .val (.int v7), uu] [(.int (x1 &&& (1 : Int32)))])) t → Steps p.tables e below (s₁.setTop (mkF m 24 #[.val (.int x1), vI 1, .val (.int (x1 / (2 : Int32))), .val (.int v3), uu, uu] [(.int v7)])) t := by
    intro t kt
    show Steps p.tables e below (s₁.setTop (mkF m 24 #[.val (.int x1), vI 1, .val (.int (x1 / (2 : Int32))), .val (.int v3), uu, uu] [(.int v7)])) _
    refine XS.istore X0.here hx rfl (hb hby d1_24) rfl (l' := #[.val (.int x1), vI 1, .val (.int (x1 / (2 : Int32))), .val (.int v3), .val (.int v7), uu]) rfl ?_
    refine XS.iloadN X0.here hx rfl (hb hby d1_26) rfl ?_
    refine XS.iconst X0.here hx rfl (hb hby d1_27) ?_
    refine XS.iand X0.here hx rfl (hb hby d1_28) rfl ?_
    exact kt
  by_cases hc29 : (x1 &&& (1 : Int32)) = (0 : Int32)
  · obtain ⟨fs, hr, hrun, hended, hW, hsame⟩ := X0.leave (v := some (.int v3)) (fun h => by rw [Bd.returns] at h; cases h)
    refine ⟨_, _, pre0 _ (c1 _ (c4 _ (c5 _ (c8 _ (c9 _ (?_)))))), hrun, hended, _, _, rfl, ?_, ⟨_, rfl⟩, hW, hsame.mono (by decide) (by decide)⟩
    · show Steps p.tables e below (s₁.setTop (mkF m 29 #[.val (.int x1), vI 1, .val (.int (x1 / (2 : Int32))), .val (.int v3), .val (.int v7), uu] [(.int (x1 &&& (1 : Int32)))])) _
      refine XS.ifYes X0.here hx rfl (pc0 := 29) (pc' := 42) rfl (hb hby d1_29) rfl ((if0 _ _).trans (teq hc29).1) (by decide) (by decide) ?_
      refine XS.iloadN X0.here hx rfl (hb hby d1_42) rfl ?_
      refine XS.ifYes X0.here hx rfl (pc0 := 43) (pc' := 48) rfl (hb hby d1_43) rfl ((if0 _ _).trans (feq (by decide : ¬ ((1 : Int32) = (0 : Int32)))).2) (by decide) (by decide) ?_
      refine XS.iloadN X0.here hx rfl (hb hby d1_48) rfl ?_
      refine XS.iconst X0.here hx rfl (hb hby d1_49) ?_
      refine XS.icmpNo X0.here hx rfl (hb hby d1_50) rfl (teq (by decide : (1 : Int32) = (1 : Int32))).2 ?_
      refine XS.iloadN X0.here hx rfl (hb hby d1_53) rfl ?_
      show Steps p.tables e below (s₁.setTop (mkF m 54 #[.val (.int x1), vI 1, .val (.int (x1 / (2 : Int32))), .val (.int v3), .val (.int v7), uu] [(.int v3)])) _
      exact retI X0 hx Bd.returns (hb hby d1_54) hr
    · show QrmNth1 Z x1 h0 n0 _ s₁.heap _
      rw [e0]
      exact ⟨by simp [own_nth, hc29, hv3], N0, rfl⟩
  · obtain ⟨fs, hr, hrun, hended, hW, hsame⟩ := X0.leave (v := some (.int v7)) (fun h => by rw [Bd.returns] at h; cases h)
    refine ⟨_, _, pre0 _ (c1 _ (c4 _ (c5 _ (c8 _ (c9 _ (?_)))))), hrun, hended, _, _, rfl, ?_, ⟨_, rfl⟩, hW, hsame.mono (by decide) (by decide)⟩
    · show Steps p.tables e below (s₁.setTop (mkF m 29 #[.val (.int x1), vI 1, .val (.int (x1 / (2 : Int32))), .val (.int v3), .val (.int v7), uu] [(.int (x1 &&& (1 : Int32)))])) _
      refine XS.ifNo X0.here hx rfl (hb hby d1_29) rfl ((if0 _ _).trans (feq hc29).1) ?_
      refine XS.iloadN X0.here hx rfl (hb hby d1_32) rfl ?_
      refine XS.istore X0.here hx rfl (hb hby d1_33) rfl (l' := #[.val (.int x1), vI 1, .val (.int (x1 / (2 : Int32))), .val (.int v3), .val (.int v7), .val (.int v3)]) rfl ?_
      refine XS.iload X0.here hx rfl (hb hby d1_35) rfl ?_
      refine XS.istoreN X0.here hx rfl (hb hby d1_37) rfl (l' := #[.val (.int x1), vI 1, .val (.int (x1 / (2 : Int32))), .val (.int v7), .val (.int v7), .val (.int v3)]) rfl ?_
      refine XS.iload X0.here hx rfl (hb hby d1_38) rfl ?_
      refine XS.istore X0.here hx rfl (hb hby d1_40) rfl (l' := #[.val (.int x1), vI 1, .val (.int (x1 / (2 : Int32))), .val (.int v7), .val (.int v3), .val (.int v3)]) rfl ?_
      refine XS.iloadN X0.here hx rfl (hb hby d1_42) rfl ?_
      refine XS.ifYes X0.here hx rfl (pc0 := 43) (pc' := 48) rfl (hb hby d1_43) rfl ((if0 _ _).trans (feq (by decide : ¬ ((1 : Int32) = (0 : Int32)))).2) (by decide) (by decide) ?_
      refine XS.iloadN X0.here hx rfl (hb hby d1_48) rfl ?_
      refine XS.iconst X0.here hx rfl (hb hby d1_49) ?_
      refine XS.icmpNo X0.here hx rfl (hb hby d1_50) rfl (teq (by decide : (1 : Int32) = (1 : Int32))).2 ?_
      show Steps p.tables e below (s₁.setTop (mkF m 53 #[.val (.int x1), vI 1, .val (.int (x1 / (2 : Int32))), .val (.int v7), .val (.int v3), .val (.int v3)] [])) _
      refine XS.iloadN X0.here hx rfl (hb hby d1_53) rfl ?_
      show Steps p.tables e below (s₁.setTop (mkF m 54 #[.val (.int x1), vI 1, .val (.int (x1 / (2 : Int32))), .val (.int v7), .val (.int v3), .val (.int v3)] [(.int v7)])) _
      exact retI X0 hx Bd.returns (hb hby d1_54) hr
    · show QrmNth1 Z x1 h0 n0 _ s₁.heap _
      rw [e0]
      exact ⟨by simp [own_nth, hc29, hv7], N0, rfl⟩
theorem d1_55 : decode method_3_code 55 = .ok (.iload 4, 2) := by decide +kernel
theorem d1_57 : decode method_3_code 57 = .ok (.ireturn, 1) := by decide +kernel
theorem ef_rmNth2 (m : MethodId) (x0 : Int32) (x1 : Int32) : entryFrame m #[(.int x0), (.int x1)] 6 = mkF m 0 #[.val (.int x0), .val (.int x1), uu, uu, uu, uu] [] := by first | (simp [entryFrame, mkF, argsToLocals, Value.category]; done) | rfl
def QrmNth2 (Z : State) (x1 : Int32) (h0 : Heap) (n0 : Nat) (v : Option Value) (h : Heap) (L : List Loc) : Prop := v = some (.int (own_nth x1 2)) ∧ Fr n0 L ∧ h = h0
set_option maxRecDepth 65536 in
set_option maxHeartbeats 40000000 in
theorem rmNth2 (l : Launch) (Z : State) (a0 : Array Value) (hw : ∀ d ∈ tables_1, d.before a0 Z = true) (ws : List Jvm.Cond) (x1 : Int32) (h0 : Heap) (n0 : Nat) (Z0 : n0 ≤ h0.size) :
    MetFree l (⟨"com/example/ebbtide/ebbtide/cluster/LoadTreesAtPinLaw", "nth", "(II)I"⟩ : MethodName) (head1 (Jvm.Cond.code (⟨"com/example/ebbtide/ebbtide/cluster/LoadTreesAtPinLaw", "nth", "(II)I"⟩ : MethodName) method_3_code 6 (some .int) :: ws) ({ frames := 0, cells := 0, slots := 0, locals := 0 } : Room)) (fun a U => a = #[(.int x1), (.int (2 : Int32))] ∧ Z.Warmed39 U.vm ∧ U.heap = h0) (fun _ _ _ _ _ => True) (fun _ U o U' => ∃ v L, o = .returned v ∧ QrmNth2 Z x1 h0 n0 v U'.heap L ∧ FrameEnd U o U' L ({ frames := 0, cells := 0, slots := 0, locals := 0 } : Room).cells ({ frames := 0, cells := 0, slots := 0, locals := 0 } : Room).slots) := by
  refine MetFree.of_bodySF (plainFor_of_name pn_com_example_ebbtide_ebbtide_cluster_LoadTreesAtPinLaw) hisR ?_
  intro p e s m args below meth c s₁ Bd hml0 hP hK
  obtain ⟨rfl, hZ, hh⟩ := hP
  have hx := Bd.exec
  have hby := Bd.bytes
  have hml : c.maxLocals = 6 := hml0
  have hown : s.vm.findClass "com/example/ebbtide/ebbtide/cluster/LoadTreesAtPinLaw" = some m.cls := findClass_of_methodNamed Bd.named
  have hnm := (name_of_methodNamed Bd.named Bd.method).1
  have X0 : Stand p l e ({ frames := 0, cells := 0, slots := 0, locals := 0 } : Room) s m #[(.int x1), (.int (2 : Int32))] below meth c s₁ [] 0 0 := Stand.of_body Bd
  have e0 : s₁.heap = h0 := by rw [← hh, Bd.state]; rfl
  have N0 := Fr.nil n0
  have pre0 : ∀ t, Steps p.tables e below (s₁.setTop (mkF m 0 #[.val (.int x1), vI 2, uu, uu, uu, uu] [])) t → Steps p.tables e below (s₁.setTop (entryFrame m #[(.int x1), (.int (2 : Int32))] 6)) t := fun t k => castTop (ef_rmNth2 m x1 (2 : Int32)) k
  have c1 : ∀ t, Steps p.tables e below (s₁.setTop (mkF m 5 #[.val (.int x1), vI 2, .val (.int (x1 / (2 : Int32))), uu, uu, uu] [(.int (x1 / (2 : Int32)))])) t → Steps p.tables e below (s₁.setTop (mkF m 0 #[.val (.int x1), vI 2, uu, uu, uu, uu] [])) t := by
    intro t kt
    show Steps p.tables e below (s₁.setTop (mkF m 0 #[.val (.int x1), vI 2, uu, uu, uu, uu] [])) _
    refine XS.iloadN X0.here hx rfl (hb hby d1_0) rfl ?_
    refine XS.iconst X0.here hx rfl (hb hby d1_1) ?_
    refine XS.idiv X0.here hx rfl (hb hby d1_2) rfl (by decide) ?_
    refine XS.istoreN X0.here hx rfl (hb hby d1_3) rfl (l' := #[.val (.int x1), vI 2, .val (.int (x1 / (2 : Int32))), uu, uu, uu]) rfl ?_
    refine XS.iloadN X0.here hx rfl (hb hby d1_4) rfl ?_
    exact kt
  obtain ⟨v3, hv3⟩ : ∃ z, z = (if (x1 / (2 : Int32)) = (0 : Int32) then (1 : Int32) else (0 : Int32)) := ⟨_, rfl⟩
  have c4 : ∀ t, Steps p.tables e below (s₁.setTop (mkF m 13 #[.val (.int x1), vI 2, .val (.int (x1 / (2 : Int32))), uu, uu, uu] [(.int v3)])) t → Steps p.tables e below (s₁.setTop (mkF m 5 #[.val (.int x1), vI 2, .val (.int (x1 / (2 : Int32))), uu, uu, uu] [(.int (x1 / (2 : Int32)))])) t := by
    intro t kt
    by_cases j5_2 : (x1 / (2 : Int32)) = (0 : Int32)
    · show Steps p.tables e below (s₁.setTop (mkF m 5 #[.val (.int x1), vI 2, .val (.int (x1 / (2 : Int32))), uu, uu, uu] [(.int (x1 / (2 : Int32)))])) _
      refine XS.ifNo X0.here hx rfl (hb hby d1_5) rfl ((if0 _ _).trans (teq j5_2).2) ?_
      refine XS.iconst X0.here hx rfl (hb hby d1_8) ?_
      refine XS.goto X0.here hx rfl (pc0 := 9) (pc' := 13) rfl (hb hby d1_9) (by decide) (by decide) ?_
      obtain rfl : v3 = (1 : Int32) := by rw [hv3, if_pos j5_2]
      exact kt
    · show Steps p.tables e below (s₁.setTop (mkF m 5 #[.val (.int x1), vI 2, .val (.int (x1 / (2 : Int32))), uu, uu, uu] [(.int (x1 / (2 : Int32)))])) _
      refine XS.ifYes X0.here hx rfl (pc0 := 5) (pc' := 12) rfl (hb hby d1_5) rfl ((if0 _ _).trans (feq j5_2).2) (by decide) (by decide) ?_
      refine XS.iconst X0.here hx rfl (hb hby d1_12) ?_
      obtain rfl : v3 = (0 : Int32) := by rw [hv3, if_neg j5_2]
      exact kt
  have c5 : ∀ t, Steps p.tables e below (s₁.setTop (mkF m 16 #[.val (.int x1), vI 2, .val (.int (x1 / (2 : Int32))), .val (.int v3), uu, uu] [(.int (2 : Int32)), (.int (x1 / (2 : Int32)))])) t → Steps p.tables e below (s₁.setTop (mkF m 13 #[.val (.int x1), vI 2, .val (.int (x1 / (2 : Int32))), uu, uu, uu] [(.int v3)])) t := by
    intro t kt
    show Steps p.tables e below (s₁.setTop (mkF m 13 #[.val (.int x1), vI 2, .val (.int (x1 / (2 : Int32))), uu, uu, uu] [(.int v3)])) _
    refine XS.istoreN X0.here hx rfl (hb hby d1_13) rfl (l' := #[.val (.int x1), vI 2, .val (.int (x1 / (2 : Int32))), .val (.int v3), uu, uu]) rfl ?_
    refine XS.iloadN X0.here hx rfl (hb hby d1_14) rfl ?_
    refine XS.iconst X0.here hx rfl (hb hby d1_15) ?_
    exact kt
  obtain ⟨v7, hv7⟩ : ∃ z, z = (if (x1 / (2 : Int32)) = (2 : Int32) then (1 : Int32) else (2 : Int32)) := ⟨_, rfl⟩
  have c8 : ∀ t, Steps p.tables e below (s₁.setTop (mkF m 24 #[.val (.int x1), vI 2, .val (.int (x1 / (2 : Int32))), .val (.int v3), uu, uu] [(.int v7)])) t → Steps p.tables e below (s₁.setTop (mkF m 16 #[.val (.int x1), vI 2, .val (.int (x1 / (2 : Int32))), .val (.int v3), uu, uu] [(.int (2 : Int32)), (.int (x1 / (2 : Int32)))])) t := by
    intro t kt
    by_cases j16_6 : (x1 / (2 : Int32)) = (2 : Int32)
    · show Steps p.tables e below (s₁.setTop (mkF m 16 #[.val (.int x1), vI 2, .val (.int (x1 / (2 : Int32))), .val (.int v3), uu, uu] [(.int (2 : Int32)), (.int (x1 / (2 : Int32)))])) _
      refine XS.icmpNo X0.here hx rfl (hb hby d1_16) rfl (teq j16_6).2 ?_
      refine XS.iconst X0.here hx rfl (hb hby d1_19) ?_
      refine XS.goto X0.here hx rfl (pc0 := 20) (pc' := 24) rfl (hb hby d1_20) (by decide) (by decide) ?_
      obtain rfl : v7 = (1 : Int32) := by rw [hv7, if_pos j16_6]
      exact kt
    · show Steps p.tables e below (s₁.setTop (mkF m 16 #[.val (.int x1), vI 2, .val (.int (x1 / (2 : Int32))), .val (.int v3), uu, uu] [(.int (2 : Int32)), (.int (x1 / (2 : Int32)))])) _
      refine XS.icmpYes X0.here hx rfl (pc0 := 16) (pc' := 23) rfl (hb hby d1_16) rfl (feq j16_6).2 (by decide) (by decide) ?_
      refine XS.iconst X0.here hx rfl (hb hby d1_23) ?_
      obtain rfl : v7 = (2 : Int32) := by rw [hv7, if_neg j16_6]
      exact kt
  have c9 : ∀ t, Steps p.tables e below (s₁.setTop (mkF m 29 #[.val (.int x1), vI 2, .val (.int (x1 / (2 : Int32))), .val (.int v3), .val (.int v7), uu] [(.int (x1 &&& (1 : Int32)))])) t → Steps p.tables e below (s₁.setTop (mkF m 24 #[.val (.int x1), vI 2, .val (.int (x1 / (2 : Int32))), .val (.int v3), uu, uu] [(.int v7)])) t := by
    intro t kt
    show Steps p.tables e below (s₁.setTop (mkF m 24 #[.val (.int x1), vI 2, .val (.int (x1 / (2 : Int32))), .val (.int v3), uu, uu] [(.int v7)])) _
    refine XS.istore X0.here hx rfl (hb hby d1_24) rfl (l' := #[.val (.int x1), vI 2, .val (.int (x1 / (2 : Int32))), .val (.int v3), .val (.int v7), uu]) rfl ?_
    refine XS.iloadN X0.here hx rfl (hb hby d1_26) rfl ?_
    refine XS.iconst X0.here hx rfl (hb hby d1_27) ?_
    refine XS.iand X0.here hx rfl (hb hby d1_28) rfl ?_
    exact kt
  by_cases hc29 : (x1 &&& (1 : Int32)) = (0 : Int32)
  · obtain ⟨fs, hr, hrun, hended, hW, hsame⟩ := X0.leave (v := some (.int v7)) (fun h => by rw [Bd.returns] at h; cases h)
    refine ⟨_, _, pre0 _ (c1 _ (c4 _ (c5 _ (c8 _ (c9 _ (?_)))))), hrun, hended, _, _, rfl, ?_, ⟨_, rfl⟩, hW, hsame.mono (by decide) (by decide)⟩
    · show Steps p.tables e below (s₁.setTop (mkF m 29 #[.val (.int x1), vI 2, .val (.int (x1 / (2 : Int32))), .val (.int v3), .val (.int v7), uu] [(.int (x1 &&& (1 : Int32)))])) _
      refine XS.ifYes X0.here hx rfl (pc0 := 29) (pc' := 42) rfl (hb hby d1_29) rfl ((if0 _ _).trans (teq hc29).1) (by decide) (by decide) ?_
      refine XS.iloadN X0.here hx rfl (hb hby d1_42) rfl ?_
      refine XS.ifYes X0.here hx rfl (pc0 := 43) (pc' := 48) rfl (hb hby d1_43) rfl ((if0 _ _).trans (feq (by decide : ¬ ((2 : Int32) = (0 : Int32)))).2) (by decide) (by decide) ?_
      refine XS.iloadN X0.here hx rfl (hb hby d1_48) rfl ?_
      refine XS.iconst X0.here hx rfl (hb hby d1_49) ?_
      refine XS.icmpYes X0.here hx rfl (pc0 := 50) (pc' := 55) rfl (hb hby d1_50) rfl (feq (by decide : ¬ ((2 : Int32) = (1 : Int32)))).2 (by decide) (by decide) ?_
      refine XS.iload X0.here hx rfl (hb hby d1_55) rfl ?_
      show Steps p.tables e below (s₁.setTop (mkF m 57 #[.val (.int x1), vI 2, .val (.int (x1 / (2 : Int32))), .val (.int v3), .val (.int v7), uu] [(.int v7)])) _
      exact retI X0 hx Bd.returns (hb hby d1_57) hr
    · show QrmNth2 Z x1 h0 n0 _ s₁.heap _
      rw [e0]
      exact ⟨by simp [own_nth, hc29, hv7], N0, rfl⟩
  · obtain ⟨fs, hr, hrun, hended, hW, hsame⟩ := X0.leave (v := some (.int v3)) (fun h => by rw [Bd.returns] at h; cases h)
    refine ⟨_, _, pre0 _ (c1 _ (c4 _ (c5 _ (c8 _ (c9 _ (?_)))))), hrun, hended, _, _, rfl, ?_, ⟨_, rfl⟩, hW, hsame.mono (by decide) (by decide)⟩
    · show Steps p.tables e below (s₁.setTop (mkF m 29 #[.val (.int x1), vI 2, .val (.int (x1 / (2 : Int32))), .val (.int v3), .val (.int v7), uu] [(.int (x1 &&& (1 : Int32)))])) _
      refine XS.ifNo X0.here hx rfl (hb hby d1_29) rfl ((if0 _ _).trans (feq hc29).1) ?_
      refine XS.iloadN X0.here hx rfl (hb hby d1_32) rfl ?_
      refine XS.istore X0.here hx rfl (hb hby d1_33) rfl (l' := #[.val (.int x1), vI 2, .val (.int (x1 / (2 : Int32))), .val (.int v3), .val (.int v7), .val (.int v3)]) rfl ?_
      refine XS.iload X0.here hx rfl (hb hby d1_35) rfl ?_
      refine XS.istoreN X0.here hx rfl (hb hby d1_37) rfl (l' := #[.val (.int x1), vI 2, .val (.int (x1 / (2 : Int32))), .val (.int v7), .val (.int v7), .val (.int v3)]) rfl ?_
      refine XS.iload X0.here hx rfl (hb hby d1_38) rfl ?_
      refine XS.istore X0.here hx rfl (hb hby d1_40) rfl (l' := #[.val (.int x1), vI 2, .val (.int (x1 / (2 : Int32))), .val (.int v7), .val (.int v3), .val (.int v3)]) rfl ?_
      refine XS.iloadN X0.here hx rfl (hb hby d1_42) rfl ?_
      refine XS.ifYes X0.here hx rfl (pc0 := 43) (pc' := 48) rfl (hb hby d1_43) rfl ((if0 _ _).trans (feq (by decide : ¬ ((2 : Int32) = (0 : Int32)))).2) (by decide) (by decide) ?_
      refine XS.iloadN X0.here hx rfl (hb hby d1_48) rfl ?_
      refine XS.iconst X0.here hx rfl (hb hby d1_49) ?_
      refine XS.icmpYes X0.here hx rfl (pc0 := 50) (pc' := 55) rfl (hb hby d1_50) rfl (feq (by decide : ¬ ((2 : Int32) = (1 : Int32)))).2 (by decide) (by decide) ?_
      show Steps p.tables e below (s₁.setTop (mkF m 55 #[.val (.int x1), vI 2, .val (.int (x1 / (2 : Int32))), .val (.int v7), .val (.int v3), .val (.int v3)] [])) _
      refine XS.iload X0.here hx rfl (hb hby d1_55) rfl ?_
      show Steps p.tables e below (s₁.setTop (mkF m 57 #[.val (.int x1), vI 2, .val (.int (x1 / (2 : Int32))), .val (.int v7), .val (.int v3), .val (.int v3)] [(.int v3)])) _
      exact retI X0 hx Bd.returns (hb hby d1_57) hr
    · show QrmNth2 Z x1 h0 n0 _ s₁.heap _
      rw [e0]
      exact ⟨by simp [own_nth, hc29, hv3], N0, rfl⟩
def own_bf (H K : Nat → Int64) (i j : Nat) : Bool := if H i = H j then (if K i = K j then decide (i < j) else decide (K i ^^^ (-9223372036854775808 : Int64) < K j ^^^ (-9223372036854775808 : Int64))) else decide (H i < H j)
theorem own_lcz (x y : Int64) : (lcmpW x y = 0 ↔ x = y) ∧ (lcmpW x y < 0 ↔ x < y) := by
  rcases own_lc3 x y with ⟨a, b⟩ | ⟨a, b⟩ | ⟨a, b⟩
  · rw [a]; exact ⟨⟨fun h => absurd h (by decide), fun h => absurd (congrArg Int64.toInt h) (by omega)⟩, ⟨fun _ => Int64.lt_iff_toInt_lt.mpr b, fun _ => by decide⟩⟩
  · rw [a]; subst b; exact ⟨⟨fun _ => rfl, fun _ => rfl⟩, ⟨fun h => absurd h (by decide), fun h => absurd (Int64.lt_iff_toInt_lt.mp h) (by omega)⟩⟩
  · rw [a]; exact ⟨⟨fun h => absurd h (by decide), fun h => absurd (congrArg Int64.toInt h) (by omega)⟩, ⟨fun h => absurd h (by decide), fun h => absurd (Int64.lt_iff_toInt_lt.mp h) (by omega)⟩⟩
theorem d3_0 : decode method_4_code 0 = .ok (.aload_n 0, 1) := by decide +kernel
theorem d3_1 : decode method_4_code 1 = .ok (.iload_n 2, 1) := by decide +kernel
theorem d3_2 : decode method_4_code 2 = .ok (.laload, 1) := by decide +kernel
theorem d3_3 : decode method_4_code 3 = .ok (.aload_n 0, 1) := by decide +kernel
theorem d3_4 : decode method_4_code 4 = .ok (.iload_n 3, 1) := by decide +kernel
theorem d3_5 : decode method_4_code 5 = .ok (.laload, 1) := by decide +kernel
theorem d3_6 : decode method_4_code 6 = .ok (.lcmp, 1) := by decide +kernel
theorem d3_7 : decode method_4_code 7 = .ok (.ifCond .eq 19, 3) := by decide +kernel
theorem d3_10 : decode method_4_code 10 = .ok (.aload_n 0, 1) := by decide +kernel
theorem d3_11 : decode method_4_code 11 = .ok (.iload_n 2, 1) := by decide +kernel
theorem d3_12 : decode method_4_code 12 = .ok (.laload, 1) := by decide +kernel
theorem d3_13 : decode method_4_code 13 = .ok (.aload_n 0, 1) := by decide +kernel
theorem d3_14 : decode method_4_code 14 = .ok (.iload_n 3, 1) := by decide +kernel
theorem d3_15 : decode method_4_code 15 = .ok (.laload, 1) := by decide +kernel
theorem d3_16 : decode method_4_code 16 = .ok (.lcmp, 1) := by decide +kernel
theorem d3_17 : decode method_4_code 17 = .ok (.ifCond .ge 7, 3) := by decide +kernel
theorem d3_20 : decode method_4_code 20 = .ok (.iconst 1, 1) := by decide +kernel
theorem d3_21 : decode method_4_code 21 = .ok (.goto 4, 3) := by decide +kernel
theorem d3_24 : decode method_4_code 24 = .ok (.iconst 0, 1) := by decide +kernel
theorem d3_25 : decode method_4_code 25 = .ok (.ireturn, 1) := by decide +kernel
theorem d3_26 : decode method_4_code 26 = .ok (.aload_n 1, 1) := by decide +kernel
theorem d3_27 : decode method_4_code 27 = .ok (.iload_n 2, 1) := by decide +kernel
theorem d3_28 : decode method_4_code 28 = .ok (.laload, 1) := by decide +kernel
theorem d3_29 : decode method_4_code 29 = .ok (.aload_n 1, 1) := by decide +kernel
theorem d3_30 : decode method_4_code 30 = .ok (.iload_n 3, 1) := by decide +kernel
theorem d3_31 : decode method_4_code 31 = .ok (.laload, 1) := by decide +kernel
theorem d3_32 : decode method_4_code 32 = .ok (.lcmp, 1) := by decide +kernel
theorem d3_33 : decode method_4_code 33 = .ok (.ifCond .eq 27, 3) := by decide +kernel
theorem d3_36 : decode method_4_code 36 = .ok (.aload_n 1, 1) := by decide +kernel
theorem d3_37 : decode method_4_code 37 = .ok (.iload_n 2, 1) := by decide +kernel
theorem d3_38 : decode method_4_code 38 = .ok (.laload, 1) := by decide +kernel
theorem d3_39 : decode method_4_code 39 = .ok (.ldc2_w 30, 3) := by decide +kernel
theorem d3_42 : decode method_4_code 42 = .ok (.lxor, 1) := by decide +kernel
theorem d3_43 : decode method_4_code 43 = .ok (.aload_n 1, 1) := by decide +kernel
theorem d3_44 : decode method_4_code 44 = .ok (.iload_n 3, 1) := by decide +kernel
theorem d3_45 : decode method_4_code 45 = .ok (.laload, 1) := by decide +kernel
theorem d3_46 : decode method_4_code 46 = .ok (.ldc2_w 30, 3) := by decide +kernel
theorem d3_49 : decode method_4_code 49 = .ok (.lxor, 1) := by decide +kernel
theorem d3_50 : decode method_4_code 50 = .ok (.lcmp, 1) := by decide +kernel
theorem d3_51 : decode method_4_code 51 = .ok (.ifCond .ge 7, 3) := by decide +kernel
theorem d3_54 : decode method_4_code 54 = .ok (.iconst 1, 1) := by decide +kernel
theorem d3_55 : decode method_4_code 55 = .ok (.goto 4, 3) := by decide +kernel
theorem d3_58 : decode method_4_code 58 = .ok (.iconst 0, 1) := by decide +kernel
theorem d3_59 : decode method_4_code 59 = .ok (.ireturn, 1) := by decide +kernel
theorem d3_60 : decode method_4_code 60 = .ok (.iload_n 2, 1) := by decide +kernel
theorem d3_61 : decode method_4_code 61 = .ok (.iload_n 3, 1) := by decide +kernel
theorem d3_62 : decode method_4_code 62 = .ok (.if_icmp .ge 7, 3) := by decide +kernel
theorem d3_65 : decode method_4_code 65 = .ok (.iconst 1, 1) := by decide +kernel
theorem d3_66 : decode method_4_code 66 = .ok (.goto 4, 3) := by decide +kernel
theorem d3_69 : decode method_4_code 69 = .ok (.iconst 0, 1) := by decide +kernel
theorem d3_70 : decode method_4_code 70 = .ok (.ireturn, 1) := by decide +kernel
theorem ef_rmBf (m : MethodId) (x0 : Addr) (x1 : Addr) (x2 : Int32) (x3 : Int32) : entryFrame m #[(.ref x0), (.ref x1), (.int x2), (.int x3)] 4 = mkF m 0 #[vR x0, vR x1, .val (.int x2), .val (.int x3)] [] := by first | (simp [entryFrame, mkF, argsToLocals, Value.category]; done) | rfl
def QrmBf (Z : State) (a1 a2 : Addr) (H K : Nat → Int64) (i j : Nat) (h0 : Heap) (n0 : Nat) (v : Option Value) (h : Heap) (L : List Loc) : Prop := v = some (.int (if own_bf H K i j = true then 1 else 0)) ∧ Fr n0 L ∧ h = h0
set_option maxRecDepth 65536 in
set_option maxHeartbeats 40000000 in
theorem rmBf (l : Launch) (Z : State) (a0 : Array Value) (hw : ∀ d ∈ tables_1, d.before a0 Z = true) (ws : List Jvm.Cond) (a1 a2 : Addr) (H K : Nat → Int64) (i j : Nat) (h0 : Heap) (n0 : Nat) (Z0 : n0 ≤ h0.size) (VH : AR Z h0 a1 .long 3 (fun i => .long (H i))) (VL : AR Z h0 a2 .long 3 (fun i => .long (K i))) (hi : i < 3) (hj : j < 3) (hij : (Int32.ofNat i < Int32.ofNat j) = (i < j)) :
    MetFree l (⟨"com/example/ebbtide/ebbtide/cluster/LoadTreesAtPinLaw", "before", "([J[JII)Z"⟩ : MethodName) (head1 (Jvm.Cond.code (⟨"com/example/ebbtide/ebbtide/cluster/LoadTreesAtPinLaw", "before", "([J[JII)Z"⟩ : MethodName) method_4_code 4 (some .boolean) :: ws) ({ frames := 0, cells := 0, slots := 0, locals := 0 } : Room)) (fun a U => a = #[(.ref a1), (.ref a2), (.int (Int32.ofNat (i))), (.int (Int32.ofNat (j)))] ∧ Z.Warmed39 U.vm ∧ U.heap = h0) (fun _ _ _ _ _ => True) (fun _ U o U' => ∃ v L, o = .returned v ∧ QrmBf Z a1 a2 H K i j h0 n0 v U'.heap L ∧ FrameEnd U o U' L ({ frames := 0, cells := 0, slots := 0, locals := 0 } : Room).cells ({ frames := 0, cells := 0, slots := 0, locals := 0 } : Room).slots) := by
  refine MetFree.of_bodySF (plainFor_of_name pn_com_example_ebbtide_ebbtide_cluster_LoadTreesAtPinLaw) hisR ?_
  intro p e s m args below meth c s₁ Bd hml0 hP hK
  obtain ⟨rfl, hZ, hh⟩ := hP
  have hx := Bd.exec
  have hby := Bd.bytes
  have hml : c.maxLocals = 4 := hml0
  have hown : s.vm.findClass "com/example/ebbtide/ebbtide/cluster/LoadTreesAtPinLaw" = some m.cls := findClass_of_methodNamed Bd.named
  have hnm := (name_of_methodNamed Bd.named Bd.method).1
  have X0 : Stand p l e ({ frames := 0, cells := 0, slots := 0, locals := 0 } : Room) s m #[(.ref a1), (.ref a2), (.int (Int32.ofNat (i))), (.int (Int32.ofNat (j)))] below meth c s₁ [] 0 0 := Stand.of_body Bd
  have e0 : s₁.heap = h0 := by rw [← hh, Bd.state]; rfl
  have N0 := Fr.nil n0
  have pre0 : ∀ t, Steps p.tables e below (s₁.setTop (mkF m 0 #[vR a1, vR a2, vN (i), vN (j)] [])) t → Steps p.tables e below (s₁.setTop (entryFrame m #[(.ref a1), (.ref a2), (.int (Int32.ofNat (i))), (.int (Int32.ofNat (j)))] 4)) t := fun t k => castTop (ef_rmBf m a1 a2 (Int32.ofNat (i)) (Int32.ofNat (j))) k
  have c1 : ∀ t, Steps p.tables e below (s₁.setTop (mkF m 7 #[vR a1, vR a2, vN (i), vN (j)] [(.int (lcmpW (H (i)) (H (j))))])) t → Steps p.tables e below (s₁.setTop (mkF m 0 #[vR a1, vR a2, vN (i), vN (j)] [])) t := by
    intro t kt
    show Steps p.tables e below (s₁.setTop (mkF m 0 #[vR a1, vR a2, vN (i), vN (j)] [])) _
    refine XS.aloadN X0.here hx rfl (hb hby d3_0) rfl rfl ?_
    refine XS.iloadN X0.here hx rfl (hb hby d3_1) rfl ?_
    refine own_ldJN X0 hx hZ e0 VH (i := i) (x := (H (i))) (by omega) rfl (g := (mkF m 2 #[vR a1, vR a2, vN (i), vN (j)] [(.int (Int32.ofNat (i))), (.ref a1)])) rfl rfl (hb hby d3_2) _ ?_
    refine XS.aloadN X0.here hx rfl (hb hby d3_3) rfl rfl ?_
    refine XS.iloadN X0.here hx rfl (hb hby d3_4) rfl ?_
    refine own_ldJN X0 hx hZ e0 VH (i := j) (x := (H (j))) (by omega) rfl (g := (mkF m 5 #[vR a1, vR a2, vN (i), vN (j)] [(.int (Int32.ofNat (j))), (.ref a1), (.long (H (i)))])) rfl rfl (hb hby d3_5) _ ?_
    refine XS.lcmp X0.here hx rfl (hb hby d3_6) rfl ?_
    exact kt
  by_cases hc7 : (lcmpW (H (i)) (H (j))) = (0 : Int32)
  · have c2 : ∀ t, Steps p.tables e below (s₁.setTop (mkF m 33 #[vR a1, vR a2, vN (i), vN (j)] [(.int (lcmpW (K (i)) (K (j))))])) t → Steps p.tables e below (s₁.setTop (mkF m 7 #[vR a1, vR a2, vN (i), vN (j)] [(.int (lcmpW (H (i)) (H (j))))])) t := by
      intro t kt
      show Steps p.tables e below (s₁.setTop (mkF m 7 #[vR a1, vR a2, vN (i), vN (j)] [(.int (lcmpW (H (i)) (H (j))))])) _
      refine XS.ifYes X0.here hx rfl (pc0 := 7) (pc' := 26) rfl (hb hby d3_7) rfl ((if0 _ _).trans (teq hc7).1) (by decide) (by decide) ?_
      refine XS.aloadN X0.here hx rfl (hb hby d3_26) rfl rfl ?_
      refine XS.iloadN X0.here hx rfl (hb hby d3_27) rfl ?_
      refine own_ldJN X0 hx hZ e0 VL (i := i) (x := (K (i))) (by omega) rfl (g := (mkF m 28 #[vR a1, vR a2, vN (i), vN (j)] [(.int (Int32.ofNat (i))), (.ref a2)])) rfl rfl (hb hby d3_28) _ ?_
      refine XS.aloadN X0.here hx rfl (hb hby d3_29) rfl rfl ?_
      refine XS.iloadN X0.here hx rfl (hb hby d3_30) rfl ?_
      refine own_ldJN X0 hx hZ e0 VL (i := j) (x := (K (j))) (by omega) rfl (g := (mkF m 31 #[vR a1, vR a2, vN (i), vN (j)] [(.int (Int32.ofNat (j))), (.ref a2), (.long (K (i)))])) rfl rfl (hb hby d3_31) _ ?_
      refine XS.lcmp X0.here hx rfl (hb hby d3_32) rfl ?_
      exact kt
    by_cases hc33 : (lcmpW (K (i)) (K (j))) = (0 : Int32)
    · have c3 : ∀ t, Steps p.tables e below (s₁.setTop (mkF m 62 #[vR a1, vR a2, vN (i), vN (j)] [(.int (Int32.ofNat (j))), (.int (Int32.ofNat (i)))])) t → Steps p.tables e below (s₁.setTop (mkF m 33 #[vR a1, vR a2, vN (i), vN (j)] [(.int (lcmpW (K (i)) (K (j))))])) t := by
        intro t kt
        show Steps p.tables e below (s₁.setTop (mkF m 33 #[vR a1, vR a2, vN (i), vN (j)] [(.int (lcmpW (K (i)) (K (j))))])) _
        refine XS.ifYes X0.here hx rfl (pc0 := 33) (pc' := 60) rfl (hb hby d3_33) rfl ((if0 _ _).trans (teq hc33).1) (by decide) (by decide) ?_
        refine XS.iloadN X0.here hx rfl (hb hby d3_60) rfl ?_
        refine XS.iloadN X0.here hx rfl (hb hby d3_61) rfl ?_
        exact kt
      by_cases hc62 : (Int32.ofNat (i)) < (Int32.ofNat (j))
      · obtain ⟨fs, hr, hrun, hended, hW, hsame⟩ := X0.leave (v := some (.int (1 : Int32))) (fun h => by rw [Bd.returns] at h; cases h)
        refine ⟨_, _, pre0 _ (c1 _ (c2 _ (c3 _ (?_)))), hrun, hended, _, _, rfl, ?_, ⟨_, rfl⟩, hW, hsame.mono (by decide) (by decide)⟩
        · show Steps p.tables e below (s₁.setTop (mkF m 62 #[vR a1, vR a2, vN (i), vN (j)] [(.int (Int32.ofNat (j))), (.int (Int32.ofNat (i)))])) _
          refine XS.icmpNo X0.here hx rfl (hb hby d3_62) rfl (tlt hc62).2.1 ?_
          refine XS.iconst X0.here hx rfl (hb hby d3_65) ?_
          refine XS.goto X0.here hx rfl (pc0 := 66) (pc' := 70) rfl (hb hby d3_66) (by decide) (by decide) ?_
          show Steps p.tables e below (s₁.setTop (mkF m 70 #[vR a1, vR a2, vN (i), vN (j)] [(.int (1 : Int32))])) _
          exact retN X0 hx (t := .boolean) Bd.returns (by simp) (hb hby d3_70) hr
        · show QrmBf Z a1 a2 H K i j h0 n0 _ s₁.heap _
          rw [e0]
          try rw [(own_lcz _ _).1] at hc7
          try rw [(own_lcz _ _).1] at hc33
          rw [hij] at hc62
          exact ⟨by unfold own_bf; simp [hc7, hc33, hc62], N0, rfl⟩
      · obtain ⟨fs, hr, hrun, hended, hW, hsame⟩ := X0.leave (v := some (.int (0 : Int32))) (fun h => by rw [Bd.returns] at h; cases h)
        refine ⟨_, _, pre0 _ (c1 _ (c2 _ (c3 _ (?_)))), hrun, hended, _, _, rfl, ?_, ⟨_, rfl⟩, hW, hsame.mono (by decide) (by decide)⟩
        · show Steps p.tables e below (s₁.setTop (mkF m 62 #[vR a1, vR a2, vN (i), vN (j)] [(.int (Int32.ofNat (j))), (.int (Int32.ofNat (i)))])) _
          refine XS.icmpYes X0.here hx rfl (pc0 := 62) (pc' := 69) rfl (hb hby d3_62) rfl (flt hc62).2.1 (by decide) (by decide) ?_
          refine XS.iconst X0.here hx rfl (hb hby d3_69) ?_
          show Steps p.tables e below (s₁.setTop (mkF m 70 #[vR a1, vR a2, vN (i), vN (j)] [(.int (0 : Int32))])) _
          exact retN X0 hx (t := .boolean) Bd.returns (by simp) (hb hby d3_70) hr
        · show QrmBf Z a1 a2 H K i j h0 n0 _ s₁.heap _
          rw [e0]
          try rw [(own_lcz _ _).1] at hc7
          try rw [(own_lcz _ _).1] at hc33
          rw [hij] at hc62
          exact ⟨by unfold own_bf; simp [hc7, hc33, hc62], N0, rfl⟩
    · have c4 : ∀ t, Steps p.tables e below (s₁.setTop (mkF m 51 #[vR a1, vR a2, vN (i), vN (j)] [(.int (lcmpW ((K (i)) ^^^ (-9223372036854775808 : Int64)) ((K (j)) ^^^ (-9223372036854775808 : Int64))))])) t → Steps p.tables e below (s₁.setTop (mkF m 33 #[vR a1, vR a2, vN (i), vN (j)] [(.int (lcmpW (K (i)) (K (j))))])) t := by
        intro t kt
        show Steps p.tables e below (s₁.setTop (mkF m 33 #[vR a1, vR a2, vN (i), vN (j)] [(.int (lcmpW (K (i)) (K (j))))])) _
        refine XS.ifNo X0.here hx rfl (hb hby d3_33) rfl ((if0 _ _).trans (feq hc33).1) ?_
        refine XS.aloadN X0.here hx rfl (hb hby d3_36) rfl rfl ?_
        refine XS.iloadN X0.here hx rfl (hb hby d3_37) rfl ?_
        refine own_ldJN X0 hx hZ e0 VL (i := i) (x := (K (i))) (by omega) rfl (g := (mkF m 38 #[vR a1, vR a2, vN (i), vN (j)] [(.int (Int32.ofNat (i))), (.ref a2)])) rfl rfl (hb hby d3_38) _ ?_
        refine X0.ldc2Long hx hown (mvT hZ (tw hw 155 rfl)) (g := (mkF m 39 #[vR a1, vR a2, vN (i), vN (j)] [(.long (K (i)))])) rfl (hb hby d3_39) _ ?_
        refine XS.lxor X0.here hx rfl (hb hby d3_42) rfl ?_
        refine XS.aloadN X0.here hx rfl (hb hby d3_43) rfl rfl ?_
        refine XS.iloadN X0.here hx rfl (hb hby d3_44) rfl ?_
        refine own_ldJN X0 hx hZ e0 VL (i := j) (x := (K (j))) (by omega) rfl (g := (mkF m 45 #[vR a1, vR a2, vN (i), vN (j)] [(.int (Int32.ofNat (j))), (.ref a2), (.long ((K (i)) ^^^ (-9223372036854775808 : Int64)))])) rfl rfl (hb hby d3_45) _ ?_
        refine X0.ldc2Long hx hown (mvT hZ (tw hw 155 rfl)) (g := (mkF m 46 #[vR a1, vR a2, vN (i), vN (j)] [(.long (K (j))), (.long ((K (i)) ^^^ (-9223372036854775808 : Int64)))])) rfl (hb hby d3_46) _ ?_
        refine XS.lxor X0.here hx rfl (hb hby d3_49) rfl ?_
        refine XS.lcmp X0.here hx rfl (hb hby d3_50) rfl ?_
        exact kt
      by_cases hc51 : (lcmpW ((K (i)) ^^^ (-9223372036854775808 : Int64)) ((K (j)) ^^^ (-9223372036854775808 : Int64))) < (0 : Int32)
      · obtain ⟨fs, hr, hrun, hended, hW, hsame⟩ := X0.leave (v := some (.int (1 : Int32))) (fun h => by rw [Bd.returns] at h; cases h)
        refine ⟨_, _, pre0 _ (c1 _ (c2 _ (c4 _ (?_)))), hrun, hended, _, _, rfl, ?_, ⟨_, rfl⟩, hW, hsame.mono (by decide) (by decide)⟩
        · show Steps p.tables e below (s₁.setTop (mkF m 51 #[vR a1, vR a2, vN (i), vN (j)] [(.int (lcmpW ((K (i)) ^^^ (-9223372036854775808 : Int64)) ((K (j)) ^^^ (-9223372036854775808 : Int64))))])) _
          refine XS.ifNo X0.here hx rfl (hb hby d3_51) rfl ((if0 _ _).trans (tlt hc51).2.1) ?_
          refine XS.iconst X0.here hx rfl (hb hby d3_54) ?_
          refine XS.goto X0.here hx rfl (pc0 := 55) (pc' := 59) rfl (hb hby d3_55) (by decide) (by decide) ?_
          show Steps p.tables e below (s₁.setTop (mkF m 59 #[vR a1, vR a2, vN (i), vN (j)] [(.int (1 : Int32))])) _
          exact retN X0 hx (t := .boolean) Bd.returns (by simp) (hb hby d3_59) hr
        · show QrmBf Z a1 a2 H K i j h0 n0 _ s₁.heap _
          rw [e0]
          try rw [(own_lcz _ _).1] at hc7
          try rw [(own_lcz _ _).1] at hc33
          try rw [(own_lcz _ _).2] at hc51
          exact ⟨by unfold own_bf; simp [hc7, hc33, hc51], N0, rfl⟩
      · obtain ⟨fs, hr, hrun, hended, hW, hsame⟩ := X0.leave (v := some (.int (0 : Int32))) (fun h => by rw [Bd.returns] at h; cases h)
        refine ⟨_, _, pre0 _ (c1 _ (c2 _ (c4 _ (?_)))), hrun, hended, _, _, rfl, ?_, ⟨_, rfl⟩, hW, hsame.mono (by decide) (by decide)⟩
        · show Steps p.tables e below (s₁.setTop (mkF m 51 #[vR a1, vR a2, vN (i), vN (j)] [(.int (lcmpW ((K (i)) ^^^ (-9223372036854775808 : Int64)) ((K (j)) ^^^ (-9223372036854775808 : Int64))))])) _
          refine XS.ifYes X0.here hx rfl (pc0 := 51) (pc' := 58) rfl (hb hby d3_51) rfl ((if0 _ _).trans (flt hc51).2.1) (by decide) (by decide) ?_
          refine XS.iconst X0.here hx rfl (hb hby d3_58) ?_
          show Steps p.tables e below (s₁.setTop (mkF m 59 #[vR a1, vR a2, vN (i), vN (j)] [(.int (0 : Int32))])) _
          exact retN X0 hx (t := .boolean) Bd.returns (by simp) (hb hby d3_59) hr
        · show QrmBf Z a1 a2 H K i j h0 n0 _ s₁.heap _
          rw [e0]
          try rw [(own_lcz _ _).1] at hc7
          try rw [(own_lcz _ _).1] at hc33
          try rw [(own_lcz _ _).2] at hc51
          exact ⟨by unfold own_bf; simp [hc7, hc33, hc51], N0, rfl⟩
  · have c5 : ∀ t, Steps p.tables e below (s₁.setTop (mkF m 17 #[vR a1, vR a2, vN (i), vN (j)] [(.int (lcmpW (H (i)) (H (j))))])) t → Steps p.tables e below (s₁.setTop (mkF m 7 #[vR a1, vR a2, vN (i), vN (j)] [(.int (lcmpW (H (i)) (H (j))))])) t := by
      intro t kt
      show Steps p.tables e below (s₁.setTop (mkF m 7 #[vR a1, vR a2, vN (i), vN (j)] [(.int (lcmpW (H (i)) (H (j))))])) _
      refine XS.ifNo X0.here hx rfl (hb hby d3_7) rfl ((if0 _ _).trans (feq hc7).1) ?_
      refine XS.aloadN X0.here hx rfl (hb hby d3_10) rfl rfl ?_
      refine XS.iloadN X0.here hx rfl (hb hby d3_11) rfl ?_
      refine own_ldJN X0 hx hZ e0 VH (i := i) (x := (H (i))) (by omega) rfl (g := (mkF m 12 #[vR a1, vR a2, vN (i), vN (j)] [(.int (Int32.ofNat (i))), (.ref a1)])) rfl rfl (hb hby d3_12) _ ?_
      refine XS.aloadN X0.here hx rfl (hb hby d3_13) rfl rfl ?_
      refine XS.iloadN X0.here hx rfl (hb hby d3_14) rfl ?_
      refine own_ldJN X0 hx hZ e0 VH (i := j) (x := (H (j))) (by omega) rfl (g := (mkF m 15 #[vR a1, vR a2, vN (i), vN (j)] [(.int (Int32.ofNat (j))), (.ref a1), (.long (H (i)))])) rfl rfl (hb hby d3_15) _ ?_
      refine XS.lcmp X0.here hx rfl (hb hby d3_16) rfl ?_
      exact kt
    by_cases hc17 : (lcmpW (H (i)) (H (j))) < (0 : Int32)
    · obtain ⟨fs, hr, hrun, hended, hW, hsame⟩ := X0.leave (v := some (.int (1 : Int32))) (fun h => by rw [Bd.returns] at h; cases h)
      refine ⟨_, _, pre0 _ (c1 _ (c5 _ (?_))), hrun, hended, _, _, rfl, ?_, ⟨_, rfl⟩, hW, hsame.mono (by decide) (by decide)⟩
      · show Steps p.tables e below (s₁.setTop (mkF m 17 #[vR a1, vR a2, vN (i), vN (j)] [(.int (lcmpW (H (i)) (H (j))))])) _
        refine XS.ifNo X0.here hx rfl (hb hby d3_17) rfl ((if0 _ _).trans (tlt hc17).2.1) ?_
        refine XS.iconst X0.here hx rfl (hb hby d3_20) ?_
        refine XS.goto X0.here hx rfl (pc0 := 21) (pc' := 25) rfl (hb hby d3_21) (by decide) (by decide) ?_
        show Steps p.tables e below (s₁.setTop (mkF m 25 #[vR a1, vR a2, vN (i), vN (j)] [(.int (1 : Int32))])) _
        exact retN X0 hx (t := .boolean) Bd.returns (by simp) (hb hby d3_25) hr
      · show QrmBf Z a1 a2 H K i j h0 n0 _ s₁.heap _
        rw [e0]
        try rw [(own_lcz _ _).1] at hc7
        try rw [(own_lcz _ _).2] at hc17
        exact ⟨by unfold own_bf; simp [hc7, hc17], N0, rfl⟩
    · obtain ⟨fs, hr, hrun, hended, hW, hsame⟩ := X0.leave (v := some (.int (0 : Int32))) (fun h => by rw [Bd.returns] at h; cases h)
      refine ⟨_, _, pre0 _ (c1 _ (c5 _ (?_))), hrun, hended, _, _, rfl, ?_, ⟨_, rfl⟩, hW, hsame.mono (by decide) (by decide)⟩
      · show Steps p.tables e below (s₁.setTop (mkF m 17 #[vR a1, vR a2, vN (i), vN (j)] [(.int (lcmpW (H (i)) (H (j))))])) _
        refine XS.ifYes X0.here hx rfl (pc0 := 17) (pc' := 24) rfl (hb hby d3_17) rfl ((if0 _ _).trans (flt hc17).2.1) (by decide) (by decide) ?_
        refine XS.iconst X0.here hx rfl (hb hby d3_24) ?_
        show Steps p.tables e below (s₁.setTop (mkF m 25 #[vR a1, vR a2, vN (i), vN (j)] [(.int (0 : Int32))])) _
        exact retN X0 hx (t := .boolean) Bd.returns (by simp) (hb hby d3_25) hr
      · show QrmBf Z a1 a2 H K i j h0 n0 _ s₁.heap _
        rw [e0]
        try rw [(own_lcz _ _).1] at hc7
        try rw [(own_lcz _ _).2] at hc17
        exact ⟨by unfold own_bf; simp [hc7, hc17], N0, rfl⟩
theorem own_ltij {i j : Nat} (hi : i < 3) (hj : j < 3) : (Int32.ofNat i < Int32.ofNat j) = (i < j) := by rw [Int32.lt_iff_toInt_lt, own_toI (by omega), own_toI (by omega)]; simp
theorem own_i1 {b : Bool} (h : (if b = true then 1 else 0 : Int32) = 0) : b = false := by cases b <;> simp_all
theorem own_i1n {b : Bool} (h : ¬ (if b = true then 1 else 0 : Int32) = 0) : b = true := by cases b <;> simp_all
theorem d2_0 : decode method_5_code 0 = .ok (.iconst 0, 1) := by decide +kernel
theorem d2_1 : decode method_5_code 1 = .ok (.istore_n 3, 1) := by decide +kernel
theorem d2_2 : decode method_5_code 2 = .ok (.iload_n 2, 1) := by decide +kernel
theorem d2_3 : decode method_5_code 3 = .ok (.ifCond .eq 16, 3) := by decide +kernel
theorem d2_19 : decode method_5_code 19 = .ok (.iload_n 2, 1) := by decide +kernel
theorem d2_20 : decode method_5_code 20 = .ok (.iconst 1, 1) := by decide +kernel
theorem d2_21 : decode method_5_code 21 = .ok (.if_icmp .eq 16, 3) := by decide +kernel
theorem d2_24 : decode method_5_code 24 = .ok (.aload_n 0, 1) := by decide +kernel
theorem d2_25 : decode method_5_code 25 = .ok (.aload_n 1, 1) := by decide +kernel
theorem d2_26 : decode method_5_code 26 = .ok (.iconst 1, 1) := by decide +kernel
theorem d2_27 : decode method_5_code 27 = .ok (.iload_n 2, 1) := by decide +kernel
theorem d2_28 : decode method_5_code 28 = .ok (.invokestatic 32, 3) := by decide +kernel
theorem d2_31 : decode method_5_code 31 = .ok (.ifCond .eq 6, 3) := by decide +kernel
theorem d2_34 : decode method_5_code 34 = .ok (.iinc 3 1, 3) := by decide +kernel
theorem d2_37 : decode method_5_code 37 = .ok (.iload_n 2, 1) := by decide +kernel
theorem d2_38 : decode method_5_code 38 = .ok (.iconst 2, 1) := by decide +kernel
theorem d2_39 : decode method_5_code 39 = .ok (.if_icmp .eq 16, 3) := by decide +kernel
theorem d2_42 : decode method_5_code 42 = .ok (.aload_n 0, 1) := by decide +kernel
theorem d2_43 : decode method_5_code 43 = .ok (.aload_n 1, 1) := by decide +kernel
theorem d2_44 : decode method_5_code 44 = .ok (.iconst 2, 1) := by decide +kernel
theorem d2_45 : decode method_5_code 45 = .ok (.iload_n 2, 1) := by decide +kernel
theorem d2_46 : decode method_5_code 46 = .ok (.invokestatic 32, 3) := by decide +kernel
theorem d2_49 : decode method_5_code 49 = .ok (.ifCond .eq 6, 3) := by decide +kernel
theorem d2_52 : decode method_5_code 52 = .ok (.iinc 3 1, 3) := by decide +kernel
theorem d2_55 : decode method_5_code 55 = .ok (.iload_n 3, 1) := by decide +kernel
theorem d2_56 : decode method_5_code 56 = .ok (.ireturn, 1) := by decide +kernel
theorem pd__28_5bJ_5bJII_29Z : parseMethodDescriptor "([J[JII)Z" = some ⟨[(.array .long), (.array .long), .int, .int], some .boolean⟩ := by decide +kernel
theorem ef_rmRk0 (m : MethodId) (x0 : Addr) (x1 : Addr) (x2 : Int32) : entryFrame m #[(.ref x0), (.ref x1), (.int x2)] 4 = mkF m 0 #[vR x0, vR x1, .val (.int x2), uu] [] := by first | (simp [entryFrame, mkF, argsToLocals, Value.category]; done) | rfl
def QrmRk0 (Z : State) (a1 a2 : Addr) (H K : Nat → Int64) (h0 : Heap) (n0 : Nat) (v : Option Value) (h : Heap) (L : List Loc) : Prop := v = some (.int (Int32.ofNat (rkn (own_bf H K) 0))) ∧ Fr n0 L ∧ h = h0
set_option maxRecDepth 65536 in
set_option maxHeartbeats 40000000 in
theorem rmRk0 (l : Launch) (Z : State) (a0 : Array Value) (hw : ∀ d ∈ tables_1, d.before a0 Z = true) (ws : List Jvm.Cond) (a1 a2 : Addr) (H K : Nat → Int64) (h0 : Heap) (n0 : Nat) (Z0 : n0 ≤ h0.size) (VH : AR Z h0 a1 .long 3 (fun i => .long (H i))) (VL : AR Z h0 a2 .long 3 (fun i => .long (K i))) :
    MetFree l (⟨"com/example/ebbtide/ebbtide/cluster/LoadTreesAtPinLaw", "rank", "([J[JI)I"⟩ : MethodName) (head1 (Jvm.Cond.code (⟨"com/example/ebbtide/ebbtide/cluster/LoadTreesAtPinLaw", "rank", "([J[JI)I"⟩ : MethodName) method_5_code 4 (some .int) :: ws) ({ frames := 1, cells := 0, slots := 0, locals := 15 } : Room)) (fun a U => a = #[(.ref a1), (.ref a2), (.int (0 : Int32))] ∧ Z.Warmed39 U.vm ∧ U.heap = h0) (fun _ _ _ _ _ => True) (fun _ U o U' => ∃ v L, o = .returned v ∧ QrmRk0 Z a1 a2 H K h0 n0 v U'.heap L ∧ FrameEnd U o U' L ({ frames := 1, cells := 0, slots := 0, locals := 15 } : Room).cells ({ frames := 1, cells := 0, slots := 0, locals := 15 } : Room).slots) := by
  refine MetFree.of_bodySF (plainFor_of_name pn_com_example_ebbtide_ebbtide_cluster_LoadTreesAtPinLaw) hisR ?_
  intro p e s m args below meth c s₁ Bd hml0 hP hK
  obtain ⟨rfl, hZ, hh⟩ := hP
  have hx := Bd.exec
  have hby := Bd.bytes
  have hml : c.maxLocals = 4 := hml0
  have hown : s.vm.findClass "com/example/ebbtide/ebbtide/cluster/LoadTreesAtPinLaw" = some m.cls := findClass_of_methodNamed Bd.named
  have hnm := (name_of_methodNamed Bd.named Bd.method).1
  have X0 : Stand p l e ({ frames := 1, cells := 0, slots := 0, locals := 15 } : Room) s m #[(.ref a1), (.ref a2), (.int (0 : Int32))] below meth c s₁ [] 0 0 := Stand.of_body Bd
  have e0 : s₁.heap = h0 := by rw [← hh, Bd.state]; rfl
  have N0 := Fr.nil n0
  have pre0 : ∀ t, Steps p.tables e below (s₁.setTop (mkF m 0 #[vR a1, vR a2, vI 0, uu] [])) t → Steps p.tables e below (s₁.setTop (entryFrame m #[(.ref a1), (.ref a2), (.int (0 : Int32))] 4)) t := fun t k => castTop (ef_rmRk0 m a1 a2 (0 : Int32)) k
  obtain ⟨_, _, ⟨T1, L1, k1, n1⟩, -, X1, ⟨Lc1, hQ1, l1, y1, z1⟩, st1⟩ := Jvm.LawKit.callS X0 hx (y := (⟨"com/example/ebbtide/ebbtide/cluster/LoadTreesAtPinLaw", "before", "([J[JII)Z"⟩ : MethodName)) hown (mvT hZ (tw hw 9 rfl)) (mvT hZ (tw hw 10 rfl)) (mvT hZ (tw hw 4 rfl)) (mvT hZ (tw hw 11 rfl)) (by decide) (backOf (W := 0) (rmBf l Z a0 hw [] a1 a2 H K 1 0 h0 n0 Z0 VH VL (by decide) (by decide) (own_ltij (by decide) (by decide))) hZ (tw hw 11 rfl) (tw hw 4 rfl) (by decide) (by decide)) (g := (mkF m 28 #[vR a1, vR a2, vI 0, vI 0] [(.int (0 : Int32)), (.int (1 : Int32)), (.ref a2), (.ref a1)])) rfl (by rw [hml]; rfl) (argsL := [(.ref a1), (.ref a2), (.int (1 : Int32)), (.int (0 : Int32))]) (rest := []) (lenOf pd__28_5bJ_5bJII_29Z rfl) rfl (by show 2 * 0 + _ ≤ _; exact Nat.le_of_eq rfl) (hb hby d2_28) (fun _ _ => ⟨rfl, e0, (by decide : 0 + 0 ≤ _), (by decide : 0 + 0 ≤ _)⟩)
  dsimp only [Pt.U, Pt.locs, Pt.cells, Pt.slots] at X1 l1 y1 z1 st1 hQ1
  subst l1 y1 z1
  obtain ⟨rfl, N1q, e1⟩ := hQ1
  have N1 := Fr.app N0 N1q
  have c2 : ∀ t, Steps p.tables e below (T1.setTop (mkF m 31 #[vR a1, vR a2, vI 0, vI 0] [(.int (if own_bf H K 1 0 = true then 1 else 0))])) t → Steps p.tables e below (s₁.setTop (mkF m 0 #[vR a1, vR a2, vI 0, uu] [])) t := by
    intro t kt
    show Steps p.tables e below (s₁.setTop (mkF m 0 #[vR a1, vR a2, vI 0, uu] [])) _
    refine XS.iconst X0.here hx rfl (hb hby d2_0) ?_
    refine XS.istoreN X0.here hx rfl (hb hby d2_1) rfl (l' := #[vR a1, vR a2, vI 0, vI 0]) rfl ?_
    refine XS.iloadN X0.here hx rfl (hb hby d2_2) rfl ?_
    refine XS.ifYes X0.here hx rfl (pc0 := 3) (pc' := 19) rfl (hb hby d2_3) rfl ((if0 _ _).trans (teq (by decide : (0 : Int32) = (0 : Int32))).1) (by decide) (by decide) ?_
    refine XS.iloadN X0.here hx rfl (hb hby d2_19) rfl ?_
    refine XS.iconst X0.here hx rfl (hb hby d2_20) ?_
    refine XS.icmpNo X0.here hx rfl (hb hby d2_21) rfl (feq (by decide : ¬ ((0 : Int32) = (1 : Int32)))).1 ?_
    refine XS.aloadN X0.here hx rfl (hb hby d2_24) rfl rfl ?_
    refine XS.aloadN X0.here hx rfl (hb hby d2_25) rfl rfl ?_
    refine XS.iconst X0.here hx rfl (hb hby d2_26) ?_
    refine XS.iloadN X0.here hx rfl (hb hby d2_27) rfl ?_
    show Steps p.tables e below (s₁.setTop (mkF m 28 #[vR a1, vR a2, vI 0, vI 0] [(.int (0 : Int32)), (.int (1 : Int32)), (.ref a2), (.ref a1)])) _
    refine st1 _ ?_
    exact kt
  by_cases hc31 : (if own_bf H K 1 0 = true then 1 else 0) = (0 : Int32)
  · obtain ⟨_, _, ⟨T3, L3, k3, n3⟩, -, X3, ⟨Lc3, hQ3, l3, y3, z3⟩, st3⟩ := Jvm.LawKit.callS X1 hx (y := (⟨"com/example/ebbtide/ebbtide/cluster/LoadTreesAtPinLaw", "before", "([J[JII)Z"⟩ : MethodName)) hown (mvT hZ (tw hw 9 rfl)) (mvT hZ (tw hw 10 rfl)) (mvT hZ (tw hw 4 rfl)) (mvT hZ (tw hw 11 rfl)) (by decide) (backOf (W := 0) (rmBf l Z a0 hw [] a1 a2 H K 2 0 h0 n0 Z0 VH VL (by decide) (by decide) (own_ltij (by decide) (by decide))) hZ (tw hw 11 rfl) (tw hw 4 rfl) (by decide) (by decide)) (g := (mkF m 46 #[vR a1, vR a2, vI 0, vI 0] [(.int (0 : Int32)), (.int (2 : Int32)), (.ref a2), (.ref a1)])) rfl (by rw [hml]; rfl) (argsL := [(.ref a1), (.ref a2), (.int (2 : Int32)), (.int (0 : Int32))]) (rest := []) (lenOf pd__28_5bJ_5bJII_29Z rfl) rfl (by show 2 * 0 + _ ≤ _; exact Nat.le_of_eq rfl) (hb hby d2_46) (fun _ _ => ⟨rfl, e1, (by decide : 0 + 0 ≤ _), (by decide : 0 + 0 ≤ _)⟩)
    dsimp only [Pt.U, Pt.locs, Pt.cells, Pt.slots] at X3 l3 y3 z3 st3 hQ3
    subst l3 y3 z3
    obtain ⟨rfl, N3q, e3⟩ := hQ3
    have N3 := Fr.app N1 N3q
    have c4 : ∀ t, Steps p.tables e below (T3.setTop (mkF m 49 #[vR a1, vR a2, vI 0, vI 0] [(.int (if own_bf H K 2 0 = true then 1 else 0))])) t → Steps p.tables e below (T1.setTop (mkF m 31 #[vR a1, vR a2, vI 0, vI 0] [(.int (if own_bf H K 1 0 = true then 1 else 0))])) t := by
      intro t kt
      show Steps p.tables e below (T1.setTop (mkF m 31 #[vR a1, vR a2, vI 0, vI 0] [(.int (if own_bf H K 1 0 = true then 1 else 0))])) _
      refine XS.ifYes X1.here hx rfl (pc0 := 31) (pc' := 37) rfl (hb hby d2_31) rfl ((if0 _ _).trans (teq hc31).1) (by decide) (by decide) ?_
      refine XS.iloadN X1.here hx rfl (hb hby d2_37) rfl ?_
      refine XS.iconst X1.here hx rfl (hb hby d2_38) ?_
      refine XS.icmpNo X1.here hx rfl (hb hby d2_39) rfl (feq (by decide : ¬ ((0 : Int32) = (2 : Int32)))).1 ?_
      refine XS.aloadN X1.here hx rfl (hb hby d2_42) rfl rfl ?_
      refine XS.aloadN X1.here hx rfl (hb hby d2_43) rfl rfl ?_
      refine XS.iconst X1.here hx rfl (hb hby d2_44) ?_
      refine XS.iloadN X1.here hx rfl (hb hby d2_45) rfl ?_
      show Steps p.tables e below (T1.setTop (mkF m 46 #[vR a1, vR a2, vI 0, vI 0] [(.int (0 : Int32)), (.int (2 : Int32)), (.ref a2), (.ref a1)])) _
      refine st3 _ ?_
      exact kt
    by_cases hc49 : (if own_bf H K 2 0 = true then 1 else 0) = (0 : Int32)
    · obtain ⟨fs, hr, hrun, hended, hW, hsame⟩ := X3.leave (v := some (.int (0 : Int32))) (fun h => by rw [Bd.returns] at h; cases h)
      refine ⟨_, _, pre0 _ (c2 _ (c4 _ (?_))), hrun, hended, _, _, rfl, ?_, ⟨_, rfl⟩, hW, hsame.mono (by decide) (by decide)⟩
      · show Steps p.tables e below (T3.setTop (mkF m 49 #[vR a1, vR a2, vI 0, vI 0] [(.int (if own_bf H K 2 0 = true then 1 else 0))])) _
        refine XS.ifYes X3.here hx rfl (pc0 := 49) (pc' := 55) rfl (hb hby d2_49) rfl ((if0 _ _).trans (teq hc49).1) (by decide) (by decide) ?_
        refine XS.iloadN X3.here hx rfl (hb hby d2_55) rfl ?_
        show Steps p.tables e below (T3.setTop (mkF m 56 #[vR a1, vR a2, vI 0, vI 0] [(.int (0 : Int32))])) _
        exact retI X3 hx Bd.returns (hb hby d2_56) hr
      · show QrmRk0 Z a1 a2 H K h0 n0 _ T3.heap _
        rw [e3]
        exact ⟨by unfold rkn; simp [own_i1 hc31, own_i1 hc49] <;> rfl, N3, rfl⟩
    · obtain ⟨fs, hr, hrun, hended, hW, hsame⟩ := X3.leave (v := some (.int (1 : Int32))) (fun h => by rw [Bd.returns] at h; cases h)
      refine ⟨_, _, pre0 _ (c2 _ (c4 _ (?_))), hrun, hended, _, _, rfl, ?_, ⟨_, rfl⟩, hW, hsame.mono (by decide) (by decide)⟩
      · show Steps p.tables e below (T3.setTop (mkF m 49 #[vR a1, vR a2, vI 0, vI 0] [(.int (if own_bf H K 2 0 = true then 1 else 0))])) _
        refine XS.ifNo X3.here hx rfl (hb hby d2_49) rfl ((if0 _ _).trans (feq hc49).1) ?_
        refine XS.iinc X3.here hx rfl (hb hby d2_52) rfl (l' := #[vR a1, vR a2, vI 0, vI 1]) rfl ?_
        refine XS.iloadN X3.here hx rfl (hb hby d2_55) rfl ?_
        show Steps p.tables e below (T3.setTop (mkF m 56 #[vR a1, vR a2, vI 0, vI 1] [(.int (1 : Int32))])) _
        exact retI X3 hx Bd.returns (hb hby d2_56) hr
      · show QrmRk0 Z a1 a2 H K h0 n0 _ T3.heap _
        rw [e3]
        exact ⟨by unfold rkn; simp [own_i1 hc31, own_i1n hc49] <;> rfl, N3, rfl⟩
  · obtain ⟨_, _, ⟨T5, L5, k5, n5⟩, -, X5, ⟨Lc5, hQ5, l5, y5, z5⟩, st5⟩ := Jvm.LawKit.callS X1 hx (y := (⟨"com/example/ebbtide/ebbtide/cluster/LoadTreesAtPinLaw", "before", "([J[JII)Z"⟩ : MethodName)) hown (mvT hZ (tw hw 9 rfl)) (mvT hZ (tw hw 10 rfl)) (mvT hZ (tw hw 4 rfl)) (mvT hZ (tw hw 11 rfl)) (by decide) (backOf (W := 0) (rmBf l Z a0 hw [] a1 a2 H K 2 0 h0 n0 Z0 VH VL (by decide) (by decide) (own_ltij (by decide) (by decide))) hZ (tw hw 11 rfl) (tw hw 4 rfl) (by decide) (by decide)) (g := (mkF m 46 #[vR a1, vR a2, vI 0, vI 1] [(.int (0 : Int32)), (.int (2 : Int32)), (.ref a2), (.ref a1)])) rfl (by rw [hml]; rfl) (argsL := [(.ref a1), (.ref a2), (.int (2 : Int32)), (.int (0 : Int32))]) (rest := []) (lenOf pd__28_5bJ_5bJII_29Z rfl) rfl (by show 2 * 0 + _ ≤ _; exact Nat.le_of_eq rfl) (hb hby d2_46) (fun _ _ => ⟨rfl, e1, (by decide : 0 + 0 ≤ _), (by decide : 0 + 0 ≤ _)⟩)
    dsimp only [Pt.U, Pt.locs, Pt.cells, Pt.slots] at X5 l5 y5 z5 st5 hQ5
    subst l5 y5 z5
    obtain ⟨rfl, N5q, e5⟩ := hQ5
    have N5 := Fr.app N1 N5q
    have c6 : ∀ t, Steps p.tables e below (T5.setTop (mkF m 49 #[vR a1, vR a2, vI 0, vI 1] [(.int (if own_bf H K 2 0 = true then 1 else 0))])) t → Steps p.tables e below (T1.setTop (mkF m 31 #[vR a1, vR a2, vI 0, vI 0] [(.int (if own_bf H K 1 0 = true then 1 else 0))])) t := by
      intro t kt
      show Steps p.tables e below (T1.setTop (mkF m 31 #[vR a1, vR a2, vI 0, vI 0] [(.int (if own_bf H K 1 0 = true then 1 else 0))])) _
      refine XS.ifNo X1.here hx rfl (hb hby d2_31) rfl ((if0 _ _).trans (feq hc31).1) ?_
      refine XS.iinc X1.here hx rfl (hb hby d2_34) rfl (l' := #[vR a1, vR a2, vI 0, vI 1]) rfl ?_
      refine XS.iloadN X1.here hx rfl (hb hby d2_37) rfl ?_
      refine XS.iconst X1.here hx rfl (hb hby d2_38) ?_
      refine XS.icmpNo X1.here hx rfl (hb hby d2_39) rfl (feq (by decide : ¬ ((0 : Int32) = (2 : Int32)))).1 ?_
      refine XS.aloadN X1.here hx rfl (hb hby d2_42) rfl rfl ?_
      refine XS.aloadN X1.here hx rfl (hb hby d2_43) rfl rfl ?_
      refine XS.iconst X1.here hx rfl (hb hby d2_44) ?_
      refine XS.iloadN X1.here hx rfl (hb hby d2_45) rfl ?_
      show Steps p.tables e below (T1.setTop (mkF m 46 #[vR a1, vR a2, vI 0, vI 1] [(.int (0 : Int32)), (.int (2 : Int32)), (.ref a2), (.ref a1)])) _
      refine st5 _ ?_
      exact kt
    by_cases hc49 : (if own_bf H K 2 0 = true then 1 else 0) = (0 : Int32)
    · obtain ⟨fs, hr, hrun, hended, hW, hsame⟩ := X5.leave (v := some (.int (1 : Int32))) (fun h => by rw [Bd.returns] at h; cases h)
      refine ⟨_, _, pre0 _ (c2 _ (c6 _ (?_))), hrun, hended, _, _, rfl, ?_, ⟨_, rfl⟩, hW, hsame.mono (by decide) (by decide)⟩
      · show Steps p.tables e below (T5.setTop (mkF m 49 #[vR a1, vR a2, vI 0, vI 1] [(.int (if own_bf H K 2 0 = true then 1 else 0))])) _
        refine XS.ifYes X5.here hx rfl (pc0 := 49) (pc' := 55) rfl (hb hby d2_49) rfl ((if0 _ _).trans (teq hc49).1) (by decide) (by decide) ?_
        refine XS.iloadN X5.here hx rfl (hb hby d2_55) rfl ?_
        show Steps p.tables e below (T5.setTop (mkF m 56 #[vR a1, vR a2, vI 0, vI 1] [(.int (1 : Int32))])) _
        exact retI X5 hx Bd.returns (hb hby d2_56) hr
      · show QrmRk0 Z a1 a2 H K h0 n0 _ T5.heap _
        rw [e5]
        exact ⟨by unfold rkn; simp [own_i1n hc31, own_i1 hc49] <;> rfl, N5, rfl⟩
    · obtain ⟨fs, hr, hrun, hended, hW, hsame⟩ := X5.leave (v := some (.int (2 : Int32))) (fun h => by rw [Bd.returns] at h; cases h)
      refine ⟨_, _, pre0 _ (c2 _ (c6 _ (?_))), hrun, hended, _, _, rfl, ?_, ⟨_, rfl⟩, hW, hsame.mono (by decide) (by decide)⟩
      · show Steps p.tables e below (T5.setTop (mkF m 49 #[vR a1, vR a2, vI 0, vI 1] [(.int (if own_bf H K 2 0 = true then 1 else 0))])) _
        refine XS.ifNo X5.here hx rfl (hb hby d2_49) rfl ((if0 _ _).trans (feq hc49).1) ?_
        refine XS.iinc X5.here hx rfl (hb hby d2_52) rfl (l' := #[vR a1, vR a2, vI 0, vI 2]) rfl ?_
        refine XS.iloadN X5.here hx rfl (hb hby d2_55) rfl ?_
        show Steps p.tables e below (T5.setTop (mkF m 56 #[vR a1, vR a2, vI 0, vI 2] [(.int (2 : Int32))])) _
        exact retI X5 hx Bd.returns (hb hby d2_56) hr
      · show QrmRk0 Z a1 a2 H K h0 n0 _ T5.heap _
        rw [e5]
        exact ⟨by unfold rkn; simp [own_i1n hc31, own_i1n hc49] <;> rfl, N5, rfl⟩
theorem d2_6 : decode method_5_code 6 = .ok (.aload_n 0, 1) := by decide +kernel
theorem d2_7 : decode method_5_code 7 = .ok (.aload_n 1, 1) := by decide +kernel
theorem d2_8 : decode method_5_code 8 = .ok (.iconst 0, 1) := by decide +kernel
theorem d2_9 : decode method_5_code 9 = .ok (.iload_n 2, 1) := by decide +kernel
theorem d2_10 : decode method_5_code 10 = .ok (.invokestatic 32, 3) := by decide +kernel
theorem d2_13 : decode method_5_code 13 = .ok (.ifCond .eq 6, 3) := by decide +kernel
theorem d2_16 : decode method_5_code 16 = .ok (.iinc 3 1, 3) := by decide +kernel
theorem ef_rmRk1 (m : MethodId) (x0 : Addr) (x1 : Addr) (x2 : Int32) : entryFrame m #[(.ref x0), (.ref x1), (.int x2)] 4 = mkF m 0 #[vR x0, vR x1, .val (.int x2), uu] [] := by first | (simp [entryFrame, mkF, argsToLocals, Value.category]; done) | rfl
def QrmRk1 (Z : State) (a1 a2 : Addr) (H K : Nat → Int64) (h0 : Heap) (n0 : Nat) (v : Option Value) (h : Heap) (L : List Loc) : Prop := v = some (.int (Int32.ofNat (rkn (own_bf H K) 1))) ∧ Fr n0 L ∧ h = h0
set_option maxRecDepth 65536 in
set_option maxHeartbeats 40000000 in
theorem rmRk1 (l : Launch) (Z : State) (a0 : Array Value) (hw : ∀ d ∈ tables_1, d.before a0 Z = true) (ws : List Jvm.Cond) (a1 a2 : Addr) (H K : Nat → Int64) (h0 : Heap) (n0 : Nat) (Z0 : n0 ≤ h0.size) (VH : AR Z h0 a1 .long 3 (fun i => .long (H i))) (VL : AR Z h0 a2 .long 3 (fun i => .long (K i))) :
    MetFree l (⟨"com/example/ebbtide/ebbtide/cluster/LoadTreesAtPinLaw", "rank", "([J[JI)I"⟩ : MethodName) (head1 (Jvm.Cond.code (⟨"com/example/ebbtide/ebbtide/cluster/LoadTreesAtPinLaw", "rank", "([J[JI)I"⟩ : MethodName) method_5_code 4 (some .int) :: ws) ({ frames := 1, cells := 0, slots := 0, locals := 15 } : Room)) (fun a U => a = #[(.ref a1), (.ref a2), (.int (1 : Int32))] ∧ Z.Warmed39 U.vm ∧ U.heap = h0) (fun _ _ _ _ _ => True) (fun _ U o U' => ∃ v L, o = .returned v ∧ QrmRk1 Z a1 a2 H K h0 n0 v U'.heap L ∧ FrameEnd U o U' L ({ frames := 1, cells := 0, slots := 0, locals := 15 } : Room).cells ({ frames := 1, cells := 0, slots := 0, locals := 15 } : Room).slots) := by
  refine MetFree.of_bodySF (plainFor_of_name pn_com_example_ebbtide_ebbtide_cluster_LoadTreesAtPinLaw) hisR ?_
  intro p e s m args below meth c s₁ Bd hml0 hP hK
  obtain ⟨rfl, hZ, hh⟩ := hP
  have hx := Bd.exec
  have hby := Bd.bytes
  have hml : c.maxLocals = 4 := hml0
  have hown : s.vm.findClass "com/example/ebbtide/ebbtide/cluster/LoadTreesAtPinLaw" = some m.cls := findClass_of_methodNamed Bd.named
  have hnm := (name_of_methodNamed Bd.named Bd.method).1
  have X0 : Stand p l e ({ frames := 1, cells := 0, slots := 0, locals := 15 } : Room) s m #[(.ref a1), (.ref a2), (.int (1 : Int32))] below meth c s₁ [] 0 0 := Stand.of_body Bd
  have e0 : s₁.heap = h0 := by rw [← hh, Bd.state]; rfl
  have N0 := Fr.nil n0
  have pre0 : ∀ t, Steps p.tables e below (s₁.setTop (mkF m 0 #[vR a1, vR a2, vI 1, uu] [])) t → Steps p.tables e below (s₁.setTop (entryFrame m #[(.ref a1), (.ref a2), (.int (1 : Int32))] 4)) t := fun t k => castTop (ef_rmRk1 m a1 a2 (1 : Int32)) k
  obtain ⟨_, _, ⟨T1, L1, k1, n1⟩, -, X1, ⟨Lc1, hQ1, l1, y1, z1⟩, st1⟩ := Jvm.LawKit.callS X0 hx (y := (⟨"com/example/ebbtide/ebbtide/cluster/LoadTreesAtPinLaw", "before", "([J[JII)Z"⟩ : MethodName)) hown (mvT hZ (tw hw 9 rfl)) (mvT hZ (tw hw 10 rfl)) (mvT hZ (tw hw 4 rfl)) (mvT hZ (tw hw 11 rfl)) (by decide) (backOf (W := 0) (rmBf l Z a0 hw [] a1 a2 H K 0 1 h0 n0 Z0 VH VL (by decide) (by decide) (own_ltij (by decide) (by decide))) hZ (tw hw 11 rfl) (tw hw 4 rfl) (by decide) (by decide)) (g := (mkF m 10 #[vR a1, vR a2, vI 1, vI 0] [(.int (1 : Int32)), (.int (0 : Int32)), (.ref a2), (.ref a1)])) rfl (by rw [hml]; rfl) (argsL := [(.ref a1), (.ref a2), (.int (0 : Int32)), (.int (1 : Int32))]) (rest := []) (lenOf pd__28_5bJ_5bJII_29Z rfl) rfl (by show 2 * 0 + _ ≤ _; exact Nat.le_of_eq rfl) (hb hby d2_10) (fun _ _ => ⟨rfl, e0, (by decide : 0 + 0 ≤ _), (by decide : 0 + 0 ≤ _)⟩)
  dsimp only [Pt.U, Pt.locs, Pt.cells, Pt.slots] at X1 l1 y1 z1 st1 hQ1
  subst l1 y1 z1
  obtain ⟨rfl, N1q, e1⟩ := hQ1
  have N1 := Fr.app N0 N1q
  have c2 : ∀ t, Steps p.tables e below (T1.setTop (mkF m 13 #[vR a1, vR a2, vI 1, vI 0] [(.int (if own_bf H K 0 1 = true then 1 else 0))])) t → Steps p.tables e below (s₁.setTop (mkF m 0 #[vR a1, vR a2, vI 1, uu] [])) t := by
    intro t kt
    show Steps p.tables e below (s₁.setTop (mkF m 0 #[vR a1, vR a2, vI 1, uu] [])) _
    refine XS.iconst X0.here hx rfl (hb hby d2_0) ?_
    refine XS.istoreN X0.here hx rfl (hb hby d2_1) rfl (l' := #[vR a1, vR a2, vI 1, vI 0]) rfl ?_
    refine XS.iloadN X0.here hx rfl (hb hby d2_2) rfl ?_
    refine XS.ifNo X0.here hx rfl (hb hby d2_3) rfl ((if0 _ _).trans (feq (by decide : ¬ ((1 : Int32) = (0 : Int32)))).1) ?_
    refine XS.aloadN X0.here hx rfl (hb hby d2_6) rfl rfl ?_
    refine XS.aloadN X0.here hx rfl (hb hby d2_7) rfl rfl ?_
    refine XS.iconst X0.here hx rfl (hb hby d2_8) ?_
    refine XS.iloadN X0.here hx rfl (hb hby d2_9) rfl ?_
    show Steps p.tables e below (s₁.setTop (mkF m 10 #[vR a1, vR a2, vI 1, vI 0] [(.int (1 : Int32)), (.int (0 : Int32)), (.ref a2), (.ref a1)])) _
    refine st1 _ ?_
    exact kt
  by_cases hc13 : (if own_bf H K 0 1 = true then 1 else 0) = (0 : Int32)
  · obtain ⟨_, _, ⟨T3, L3, k3, n3⟩, -, X3, ⟨Lc3, hQ3, l3, y3, z3⟩, st3⟩ := Jvm.LawKit.callS X1 hx (y := (⟨"com/example/ebbtide/ebbtide/cluster/LoadTreesAtPinLaw", "before", "([J[JII)Z"⟩ : MethodName)) hown (mvT hZ (tw hw 9 rfl)) (mvT hZ (tw hw 10 rfl)) (mvT hZ (tw hw 4 rfl)) (mvT hZ (tw hw 11 rfl)) (by decide) (backOf (W := 0) (rmBf l Z a0 hw [] a1 a2 H K 2 1 h0 n0 Z0 VH VL (by decide) (by decide) (own_ltij (by decide) (by decide))) hZ (tw hw 11 rfl) (tw hw 4 rfl) (by decide) (by decide)) (g := (mkF m 46 #[vR a1, vR a2, vI 1, vI 0] [(.int (1 : Int32)), (.int (2 : Int32)), (.ref a2), (.ref a1)])) rfl (by rw [hml]; rfl) (argsL := [(.ref a1), (.ref a2), (.int (2 : Int32)), (.int (1 : Int32))]) (rest := []) (lenOf pd__28_5bJ_5bJII_29Z rfl) rfl (by show 2 * 0 + _ ≤ _; exact Nat.le_of_eq rfl) (hb hby d2_46) (fun _ _ => ⟨rfl, e1, (by decide : 0 + 0 ≤ _), (by decide : 0 + 0 ≤ _)⟩)
    dsimp only [Pt.U, Pt.locs, Pt.cells, Pt.slots] at X3 l3 y3 z3 st3 hQ3
    subst l3 y3 z3
    obtain ⟨rfl, N3q, e3⟩ := hQ3
    have N3 := Fr.app N1 N3q
    have c4 : ∀ t, Steps p.tables e below (T3.setTop (mkF m 49 #[vR a1, vR a2, vI 1, vI 0] [(.int (if own_bf H K 2 1 = true then 1 else 0))])) t → Steps p.tables e below (T1.setTop (mkF m 13 #[vR a1, vR a2, vI 1, vI 0] [(.int (if own_bf H K 0 1 = true then 1 else 0))])) t := by
      intro t kt
      show Steps p.tables e below (T1.setTop (mkF m 13 #[vR a1, vR a2, vI 1, vI 0] [(.int (if own_bf H K 0 1 = true then 1 else 0))])) _
      refine XS.ifYes X1.here hx rfl (pc0 := 13) (pc' := 19) rfl (hb hby d2_13) rfl ((if0 _ _).trans (teq hc13).1) (by decide) (by decide) ?_
      refine XS.iloadN X1.here hx rfl (hb hby d2_19) rfl ?_
      refine XS.iconst X1.here hx rfl (hb hby d2_20) ?_
      refine XS.icmpYes X1.here hx rfl (pc0 := 21) (pc' := 37) rfl (hb hby d2_21) rfl (teq (by decide : (1 : Int32) = (1 : Int32))).1 (by decide) (by decide) ?_
      refine XS.iloadN X1.here hx rfl (hb hby d2_37) rfl ?_
      refine XS.iconst X1.here hx rfl (hb hby d2_38) ?_
      refine XS.icmpNo X1.here hx rfl (hb hby d2_39) rfl (feq (by decide : ¬ ((1 : Int32) = (2 : Int32)))).1 ?_
      refine XS.aloadN X1.here hx rfl (hb hby d2_42) rfl rfl ?_
      refine XS.aloadN X1.here hx rfl (hb hby d2_43) rfl rfl ?_
      refine XS.iconst X1.here hx rfl (hb hby d2_44) ?_
      refine XS.iloadN X1.here hx rfl (hb hby d2_45) rfl ?_
      show Steps p.tables e below (T1.setTop (mkF m 46 #[vR a1, vR a2, vI 1, vI 0] [(.int (1 : Int32)), (.int (2 : Int32)), (.ref a2), (.ref a1)])) _
      refine st3 _ ?_
      exact kt
    by_cases hc49 : (if own_bf H K 2 1 = true then 1 else 0) = (0 : Int32)
    · obtain ⟨fs, hr, hrun, hended, hW, hsame⟩ := X3.leave (v := some (.int (0 : Int32))) (fun h => by rw [Bd.returns] at h; cases h)
      refine ⟨_, _, pre0 _ (c2 _ (c4 _ (?_))), hrun, hended, _, _, rfl, ?_, ⟨_, rfl⟩, hW, hsame.mono (by decide) (by decide)⟩
      · show Steps p.tables e below (T3.setTop (mkF m 49 #[vR a1, vR a2, vI 1, vI 0] [(.int (if own_bf H K 2 1 = true then 1 else 0))])) _
        refine XS.ifYes X3.here hx rfl (pc0 := 49) (pc' := 55) rfl (hb hby d2_49) rfl ((if0 _ _).trans (teq hc49).1) (by decide) (by decide) ?_
        refine XS.iloadN X3.here hx rfl (hb hby d2_55) rfl ?_
        show Steps p.tables e below (T3.setTop (mkF m 56 #[vR a1, vR a2, vI 1, vI 0] [(.int (0 : Int32))])) _
        exact retI X3 hx Bd.returns (hb hby d2_56) hr
      · show QrmRk1 Z a1 a2 H K h0 n0 _ T3.heap _
        rw [e3]
        exact ⟨by unfold rkn; simp [own_i1 hc13, own_i1 hc49] <;> rfl, N3, rfl⟩
    · obtain ⟨fs, hr, hrun, hended, hW, hsame⟩ := X3.leave (v := some (.int (1 : Int32))) (fun h => by rw [Bd.returns] at h; cases h)
      refine ⟨_, _, pre0 _ (c2 _ (c4 _ (?_))), hrun, hended, _, _, rfl, ?_, ⟨_, rfl⟩, hW, hsame.mono (by decide) (by decide)⟩
      · show Steps p.tables e below (T3.setTop (mkF m 49 #[vR a1, vR a2, vI 1, vI 0] [(.int (if own_bf H K 2 1 = true then 1 else 0))])) _
        refine XS.ifNo X3.here hx rfl (hb hby d2_49) rfl ((if0 _ _).trans (feq hc49).1) ?_
        refine XS.iinc X3.here hx rfl (hb hby d2_52) rfl (l' := #[vR a1, vR a2, vI 1, vI 1]) rfl ?_
        refine XS.iloadN X3.here hx rfl (hb hby d2_55) rfl ?_
        show Steps p.tables e below (T3.setTop (mkF m 56 #[vR a1, vR a2, vI 1, vI 1] [(.int (1 : Int32))])) _
        exact retI X3 hx Bd.returns (hb hby d2_56) hr
      · show QrmRk1 Z a1 a2 H K h0 n0 _ T3.heap _
        rw [e3]
        exact ⟨by unfold rkn; simp [own_i1 hc13, own_i1n hc49] <;> rfl, N3, rfl⟩
  · obtain ⟨_, _, ⟨T5, L5, k5, n5⟩, -, X5, ⟨Lc5, hQ5, l5, y5, z5⟩, st5⟩ := Jvm.LawKit.callS X1 hx (y := (⟨"com/example/ebbtide/ebbtide/cluster/LoadTreesAtPinLaw", "before", "([J[JII)Z"⟩ : MethodName)) hown (mvT hZ (tw hw 9 rfl)) (mvT hZ (tw hw 10 rfl)) (mvT hZ (tw hw 4 rfl)) (mvT hZ (tw hw 11 rfl)) (by decide) (backOf (W := 0) (rmBf l Z a0 hw [] a1 a2 H K 2 1 h0 n0 Z0 VH VL (by decide) (by decide) (own_ltij (by decide) (by decide))) hZ (tw hw 11 rfl) (tw hw 4 rfl) (by decide) (by decide)) (g := (mkF m 46 #[vR a1, vR a2, vI 1, vI 1] [(.int (1 : Int32)), (.int (2 : Int32)), (.ref a2), (.ref a1)])) rfl (by rw [hml]; rfl) (argsL := [(.ref a1), (.ref a2), (.int (2 : Int32)), (.int (1 : Int32))]) (rest := []) (lenOf pd__28_5bJ_5bJII_29Z rfl) rfl (by show 2 * 0 + _ ≤ _; exact Nat.le_of_eq rfl) (hb hby d2_46) (fun _ _ => ⟨rfl, e1, (by decide : 0 + 0 ≤ _), (by decide : 0 + 0 ≤ _)⟩)
    dsimp only [Pt.U, Pt.locs, Pt.cells, Pt.slots] at X5 l5 y5 z5 st5 hQ5
    subst l5 y5 z5
    obtain ⟨rfl, N5q, e5⟩ := hQ5
    have N5 := Fr.app N1 N5q
    have c6 : ∀ t, Steps p.tables e below (T5.setTop (mkF m 49 #[vR a1, vR a2, vI 1, vI 1] [(.int (if own_bf H K 2 1 = true then 1 else 0))])) t → Steps p.tables e below (T1.setTop (mkF m 13 #[vR a1, vR a2, vI 1, vI 0] [(.int (if own_bf H K 0 1 = true then 1 else 0))])) t := by
      intro t kt
      show Steps p.tables e below (T1.setTop (mkF m 13 #[vR a1, vR a2, vI 1, vI 0] [(.int (if own_bf H K 0 1 = true then 1 else 0))])) _
      refine XS.ifNo X1.here hx rfl (hb hby d2_13) rfl ((if0 _ _).trans (feq hc13).1) ?_
      refine XS.iinc X1.here hx rfl (hb hby d2_16) rfl (l' := #[vR a1, vR a2, vI 1, vI 1]) rfl ?_
      refine XS.iloadN X1.here hx rfl (hb hby d2_19) rfl ?_
      refine XS.iconst X1.here hx rfl (hb hby d2_20) ?_
      refine XS.icmpYes X1.here hx rfl (pc0 := 21) (pc' := 37) rfl (hb hby d2_21) rfl (teq (by decide : (1 : Int32) = (1 : Int32))).1 (by decide) (by decide) ?_
      refine XS.iloadN X1.here hx rfl (hb hby d2_37) rfl ?_
      refine XS.iconst X1.here hx rfl (hb hby d2_38) ?_
      refine XS.icmpNo X1.here hx rfl (hb hby d2_39) rfl (feq (by decide : ¬ ((1 : Int32) = (2 : Int32)))).1 ?_
      refine XS.aloadN X1.here hx rfl (hb hby d2_42) rfl rfl ?_
      refine XS.aloadN X1.here hx rfl (hb hby d2_43) rfl rfl ?_
      refine XS.iconst X1.here hx rfl (hb hby d2_44) ?_
      refine XS.iloadN X1.here hx rfl (hb hby d2_45) rfl ?_
      show Steps p.tables e below (T1.setTop (mkF m 46 #[vR a1, vR a2, vI 1, vI 1] [(.int (1 : Int32)), (.int (2 : Int32)), (.ref a2), (.ref a1)])) _
      refine st5 _ ?_
      exact kt
    by_cases hc49 : (if own_bf H K 2 1 = true then 1 else 0) = (0 : Int32)
    · obtain ⟨fs, hr, hrun, hended, hW, hsame⟩ := X5.leave (v := some (.int (1 : Int32))) (fun h => by rw [Bd.returns] at h; cases h)
      refine ⟨_, _, pre0 _ (c2 _ (c6 _ (?_))), hrun, hended, _, _, rfl, ?_, ⟨_, rfl⟩, hW, hsame.mono (by decide) (by decide)⟩
      · show Steps p.tables e below (T5.setTop (mkF m 49 #[vR a1, vR a2, vI 1, vI 1] [(.int (if own_bf H K 2 1 = true then 1 else 0))])) _
        refine XS.ifYes X5.here hx rfl (pc0 := 49) (pc' := 55) rfl (hb hby d2_49) rfl ((if0 _ _).trans (teq hc49).1) (by decide) (by decide) ?_
        refine XS.iloadN X5.here hx rfl (hb hby d2_55) rfl ?_
        show Steps p.tables e below (T5.setTop (mkF m 56 #[vR a1, vR a2, vI 1, vI 1] [(.int (1 : Int32))])) _
        exact retI X5 hx Bd.returns (hb hby d2_56) hr
      · show QrmRk1 Z a1 a2 H K h0 n0 _ T5.heap _
        rw [e5]
        exact ⟨by unfold rkn; simp [own_i1n hc13, own_i1 hc49] <;> rfl, N5, rfl⟩
    · obtain ⟨fs, hr, hrun, hended, hW, hsame⟩ := X5.leave (v := some (.int (2 : Int32))) (fun h => by rw [Bd.returns] at h; cases h)
      refine ⟨_, _, pre0 _ (c2 _ (c6 _ (?_))), hrun, hended, _, _, rfl, ?_, ⟨_, rfl⟩, hW, hsame.mono (by decide) (by decide)⟩
      · show Steps p.tables e below (T5.setTop (mkF m 49 #[vR a1, vR a2, vI 1, vI 1] [(.int (if own_bf H K 2 1 = true then 1 else 0))])) _
        refine XS.ifNo X5.here hx rfl (hb hby d2_49) rfl ((if0 _ _).trans (feq hc49).1) ?_
        refine XS.iinc X5.here hx rfl (hb hby d2_52) rfl (l' := #[vR a1, vR a2, vI 1, vI 2]) rfl ?_
        refine XS.iloadN X5.here hx rfl (hb hby d2_55) rfl ?_
        show Steps p.tables e below (T5.setTop (mkF m 56 #[vR a1, vR a2, vI 1, vI 2] [(.int (2 : Int32))])) _
        exact retI X5 hx Bd.returns (hb hby d2_56) hr
      · show QrmRk1 Z a1 a2 H K h0 n0 _ T5.heap _
        rw [e5]
        exact ⟨by unfold rkn; simp [own_i1n hc13, own_i1n hc49] <;> rfl, N5, rfl⟩
theorem ef_rmRk2 (m : MethodId) (x0 : Addr) (x1 : Addr) (x2 : Int32) : entryFrame m #[(.ref x0), (.ref x1), (.int x2)] 4 = mkF m 0 #[vR x0, vR x1, .val (.int x2), uu] [] := by first | (simp [entryFrame, mkF, argsToLocals, Value.category]; done) | rfl
def QrmRk2 (Z : State) (a1 a2 : Addr) (H K : Nat → Int64) (h0 : Heap) (n0 : Nat) (v : Option Value) (h : Heap) (L : List Loc) : Prop := v = some (.int (Int32.ofNat (rkn (own_bf H K) 2))) ∧ Fr n0 L ∧ h = h0
set_option maxRecDepth 65536 in
set_option maxHeartbeats 40000000 in
theorem rmRk2 (l : Launch) (Z : State) (a0 : Array Value) (hw : ∀ d ∈ tables_1, d.before a0 Z = true) (ws : List Jvm.Cond) (a1 a2 : Addr) (H K : Nat → Int64) (h0 : Heap) (n0 : Nat) (Z0 : n0 ≤ h0.size) (VH : AR Z h0 a1 .long 3 (fun i => .long (H i))) (VL : AR Z h0 a2 .long 3 (fun i => .long (K i))) :
    MetFree l (⟨"com/example/ebbtide/ebbtide/cluster/LoadTreesAtPinLaw", "rank", "([J[JI)I"⟩ : MethodName) (head1 (Jvm.Cond.code (⟨"com/example/ebbtide/ebbtide/cluster/LoadTreesAtPinLaw", "rank", "([J[JI)I"⟩ : MethodName) method_5_code 4 (some .int) :: ws) ({ frames := 1, cells := 0, slots := 0, locals := 15 } : Room)) (fun a U => a = #[(.ref a1), (.ref a2), (.int (2 : Int32))] ∧ Z.Warmed39 U.vm ∧ U.heap = h0) (fun _ _ _ _ _ => True) (fun _ U o U' => ∃ v L, o = .returned v ∧ QrmRk2 Z a1 a2 H K h0 n0 v U'.heap L ∧ FrameEnd U o U' L ({ frames := 1, cells := 0, slots := 0, locals := 15 } : Room).cells ({ frames := 1, cells := 0, slots := 0, locals := 15 } : Room).slots) := by
  refine MetFree.of_bodySF (plainFor_of_name pn_com_example_ebbtide_ebbtide_cluster_LoadTreesAtPinLaw) hisR ?_
  intro p e s m args below meth c s₁ Bd hml0 hP hK
  obtain ⟨rfl, hZ, hh⟩ := hP
  have hx := Bd.exec
  have hby := Bd.bytes
  have hml : c.maxLocals = 4 := hml0
  have hown : s.vm.findClass "com/example/ebbtide/ebbtide/cluster/LoadTreesAtPinLaw" = some m.cls := findClass_of_methodNamed Bd.named
  have hnm := (name_of_methodNamed Bd.named Bd.method).1
  have X0 : Stand p l e ({ frames := 1, cells := 0, slots := 0, locals := 15 } : Room) s m #[(.ref a1), (.ref a2), (.int (2 : Int32))] below meth c s₁ [] 0 0 := Stand.of_body Bd
  have e0 : s₁.heap = h0 := by rw [← hh, Bd.state]; rfl
  have N0 := Fr.nil n0
  have pre0 : ∀ t, Steps p.tables e below (s₁.setTop (mkF m 0 #[vR a1, vR a2, vI 2, uu] [])) t → Steps p.tables e below (s₁.setTop (entryFrame m #[(.ref a1), (.ref a2), (.int (2 : Int32))] 4)) t := fun t k => castTop (ef_rmRk2 m a1 a2 (2 : Int32)) k
  obtain ⟨_, _, ⟨T1, L1, k1, n1⟩, -, X1, ⟨Lc1, hQ1, l1, y1, z1⟩, st1⟩ := Jvm.LawKit.callS X0 hx (y := (⟨"com/example/ebbtide/ebbtide/cluster/LoadTreesAtPinLaw", "before", "([J[JII)Z"⟩ : MethodName)) hown (mvT hZ (tw hw 9 rfl)) (mvT hZ (tw hw 10 rfl)) (mvT hZ (tw hw 4 rfl)) (mvT hZ (tw hw 11 rfl)) (by decide) (backOf (W := 0) (rmBf l Z a0 hw [] a1 a2 H K 0 2 h0 n0 Z0 VH VL (by decide) (by decide) (own_ltij (by decide) (by decide))) hZ (tw hw 11 rfl) (tw hw 4 rfl) (by decide) (by decide)) (g := (mkF m 10 #[vR a1, vR a2, vI 2, vI 0] [(.int (2 : Int32)), (.int (0 : Int32)), (.ref a2), (.ref a1)])) rfl (by rw [hml]; rfl) (argsL := [(.ref a1), (.ref a2), (.int (0 : Int32)), (.int (2 : Int32))]) (rest := []) (lenOf pd__28_5bJ_5bJII_29Z rfl) rfl (by show 2 * 0 + _ ≤ _; exact Nat.le_of_eq rfl) (hb hby d2_10) (fun _ _ => ⟨rfl, e0, (by decide : 0 + 0 ≤ _), (by decide : 0 + 0 ≤ _)⟩)
  dsimp only [Pt.U, Pt.locs, Pt.cells, Pt.slots] at X1 l1 y1 z1 st1 hQ1
  subst l1 y1 z1
  obtain ⟨rfl, N1q, e1⟩ := hQ1
  have N1 := Fr.app N0 N1q
  have c2 : ∀ t, Steps p.tables e below (T1.setTop (mkF m 13 #[vR a1, vR a2, vI 2, vI 0] [(.int (if own_bf H K 0 2 = true then 1 else 0))])) t → Steps p.tables e below (s₁.setTop (mkF m 0 #[vR a1, vR a2, vI 2, uu] [])) t := by
    intro t kt
    show Steps p.tables e below (s₁.setTop (mkF m 0 #[vR a1, vR a2, vI 2, uu] [])) _
    refine XS.iconst X0.here hx rfl (hb hby d2_0) ?_
    refine XS.istoreN X0.here hx rfl (hb hby d2_1) rfl (l' := #[vR a1, vR a2, vI 2, vI 0]) rfl ?_
    refine XS.iloadN X0.here hx rfl (hb hby d2_2) rfl ?_
    refine XS.ifNo X0.here hx rfl (hb hby d2_3) rfl ((if0 _ _).trans (feq (by decide : ¬ ((2 : Int32) = (0 : Int32)))).1) ?_
    refine XS.aloadN X0.here hx rfl (hb hby d2_6) rfl rfl ?_
    refine XS.aloadN X0.here hx rfl (hb hby d2_7) rfl rfl ?_
    refine XS.iconst X0.here hx rfl (hb hby d2_8) ?_
    refine XS.iloadN X0.here hx rfl (hb hby d2_9) rfl ?_
    show Steps p.tables e below (s₁.setTop (mkF m 10 #[vR a1, vR a2, vI 2, vI 0] [(.int (2 : Int32)), (.int (0 : Int32)), (.ref a2), (.ref a1)])) _
    refine st1 _ ?_
    exact kt
  by_cases hc13 : (if own_bf H K 0 2 = true then 1 else 0) = (0 : Int32)
  · obtain ⟨_, _, ⟨T3, L3, k3, n3⟩, -, X3, ⟨Lc3, hQ3, l3, y3, z3⟩, st3⟩ := Jvm.LawKit.callS X1 hx (y := (⟨"com/example/ebbtide/ebbtide/cluster/LoadTreesAtPinLaw", "before", "([J[JII)Z"⟩ : MethodName)) hown (mvT hZ (tw hw 9 rfl)) (mvT hZ (tw hw 10 rfl)) (mvT hZ (tw hw 4 rfl)) (mvT hZ (tw hw 11 rfl)) (by decide) (backOf (W := 0) (rmBf l Z a0 hw [] a1 a2 H K 1 2 h0 n0 Z0 VH VL (by decide) (by decide) (own_ltij (by decide) (by decide))) hZ (tw hw 11 rfl) (tw hw 4 rfl) (by decide) (by decide)) (g := (mkF m 28 #[vR a1, vR a2, vI 2, vI 0] [(.int (2 : Int32)), (.int (1 : Int32)), (.ref a2), (.ref a1)])) rfl (by rw [hml]; rfl) (argsL := [(.ref a1), (.ref a2), (.int (1 : Int32)), (.int (2 : Int32))]) (rest := []) (lenOf pd__28_5bJ_5bJII_29Z rfl) rfl (by show 2 * 0 + _ ≤ _; exact Nat.le_of_eq rfl) (hb hby d2_28) (fun _ _ => ⟨rfl, e1, (by decide : 0 + 0 ≤ _), (by decide : 0 + 0 ≤ _)⟩)
    dsimp only [Pt.U, Pt.locs, Pt.cells, Pt.slots] at X3 l3 y3 z3 st3 hQ3
    subst l3 y3 z3
    obtain ⟨rfl, N3q, e3⟩ := hQ3
    have N3 := Fr.app N1 N3q
    have c4 : ∀ t, Steps p.tables e below (T3.setTop (mkF m 31 #[vR a1, vR a2, vI 2, vI 0] [(.int (if own_bf H K 1 2 = true then 1 else 0))])) t → Steps p.tables e below (T1.setTop (mkF m 13 #[vR a1, vR a2, vI 2, vI 0] [(.int (if own_bf H K 0 2 = true then 1 else 0))])) t := by
      intro t kt
      show Steps p.tables e below (T1.setTop (mkF m 13 #[vR a1, vR a2, vI 2, vI 0] [(.int (if own_bf H K 0 2 = true then 1 else 0))])) _
      refine XS.ifYes X1.here hx rfl (pc0 := 13) (pc' := 19) rfl (hb hby d2_13) rfl ((if0 _ _).trans (teq hc13).1) (by decide) (by decide) ?_
      refine XS.iloadN X1.here hx rfl (hb hby d2_19) rfl ?_
      refine XS.iconst X1.here hx rfl (hb hby d2_20) ?_
      refine XS.icmpNo X1.here hx rfl (hb hby d2_21) rfl (feq (by decide : ¬ ((2 : Int32) = (1 : Int32)))).1 ?_
      refine XS.aloadN X1.here hx rfl (hb hby d2_24) rfl rfl ?_
      refine XS.aloadN X1.here hx rfl (hb hby d2_25) rfl rfl ?_
      refine XS.iconst X1.here hx rfl (hb hby d2_26) ?_
      refine XS.iloadN X1.here hx rfl (hb hby d2_27) rfl ?_
      show Steps p.tables e below (T1.setTop (mkF m 28 #[vR a1, vR a2, vI 2, vI 0] [(.int (2 : Int32)), (.int (1 : Int32)), (.ref a2), (.ref a1)])) _
      refine st3 _ ?_
      exact kt
    by_cases hc31 : (if own_bf H K 1 2 = true then 1 else 0) = (0 : Int32)
    · obtain ⟨fs, hr, hrun, hended, hW, hsame⟩ := X3.leave (v := some (.int (0 : Int32))) (fun h => by rw [Bd.returns] at h; cases h)
      refine ⟨_, _, pre0 _ (c2 _ (c4 _ (?_))), hrun, hended, _, _, rfl, ?_, ⟨_, rfl⟩, hW, hsame.mono (by decide) (by decide)⟩
      · show Steps p.tables e below (T3.setTop (mkF m 31 #[vR a1, vR a2, vI 2, vI 0] [(.int (if own_bf H K 1 2 = true then 1 else 0))])) _
        refine XS.ifYes X3.here hx rfl (pc0 := 31) (pc' := 37) rfl (hb hby d2_31) rfl ((if0 _ _).trans (teq hc31).1) (by decide) (by decide) ?_
        refine XS.iloadN X3.here hx rfl (hb hby d2_37) rfl ?_
        refine XS.iconst X3.here hx rfl (hb hby d2_38) ?_
        refine XS.icmpYes X3.here hx rfl (pc0 := 39) (pc' := 55) rfl (hb hby d2_39) rfl (teq (by decide : (2 : Int32) = (2 : Int32))).1 (by decide) (by decide) ?_
        refine XS.iloadN X3.here hx rfl (hb hby d2_55) rfl ?_
        show Steps p.tables e below (T3.setTop (mkF m 56 #[vR a1, vR a2, vI 2, vI 0] [(.int (0 : Int32))])) _
        exact retI X3 hx Bd.returns (hb hby d2_56) hr
      · show QrmRk2 Z a1 a2 H K h0 n0 _ T3.heap _
        rw [e3]
        exact ⟨by unfold rkn; simp [own_i1 hc13, own_i1 hc31] <;> rfl, N3, rfl⟩
    · obtain ⟨fs, hr, hrun, hended, hW, hsame⟩ := X3.leave (v := some (.int (1 : Int32))) (fun h => by rw [Bd.returns] at h; cases h)
      refine ⟨_, _, pre0 _ (c2 _ (c4 _ (?_))), hrun, hended, _, _, rfl, ?_, ⟨_, rfl⟩, hW, hsame.mono (by decide) (by decide)⟩
      · show Steps p.tables e below (T3.setTop (mkF m 31 #[vR a1, vR a2, vI 2, vI 0] [(.int (if own_bf H K 1 2 = true then 1 else 0))])) _
        refine XS.ifNo X3.here hx rfl (hb hby d2_31) rfl ((if0 _ _).trans (feq hc31).1) ?_
        refine XS.iinc X3.here hx rfl (hb hby d2_34) rfl (l' := #[vR a1, vR a2, vI 2, vI 1]) rfl ?_
        refine XS.iloadN X3.here hx rfl (hb hby d2_37) rfl ?_
        refine XS.iconst X3.here hx rfl (hb hby d2_38) ?_
        refine XS.icmpYes X3.here hx rfl (pc0 := 39) (pc' := 55) rfl (hb hby d2_39) rfl (teq (by decide : (2 : Int32) = (2 : Int32))).1 (by decide) (by decide) ?_
        refine XS.iloadN X3.here hx rfl (hb hby d2_55) rfl ?_
        show Steps p.tables e below (T3.setTop (mkF m 56 #[vR a1, vR a2, vI 2, vI 1] [(.int (1 : Int32))])) _
        exact retI X3 hx Bd.returns (hb hby d2_56) hr
      · show QrmRk2 Z a1 a2 H K h0 n0 _ T3.heap _
        rw [e3]
        exact ⟨by unfold rkn; simp [own_i1 hc13, own_i1n hc31] <;> rfl, N3, rfl⟩
  · obtain ⟨_, _, ⟨T5, L5, k5, n5⟩, -, X5, ⟨Lc5, hQ5, l5, y5, z5⟩, st5⟩ := Jvm.LawKit.callS X1 hx (y := (⟨"com/example/ebbtide/ebbtide/cluster/LoadTreesAtPinLaw", "before", "([J[JII)Z"⟩ : MethodName)) hown (mvT hZ (tw hw 9 rfl)) (mvT hZ (tw hw 10 rfl)) (mvT hZ (tw hw 4 rfl)) (mvT hZ (tw hw 11 rfl)) (by decide) (backOf (W := 0) (rmBf l Z a0 hw [] a1 a2 H K 1 2 h0 n0 Z0 VH VL (by decide) (by decide) (own_ltij (by decide) (by decide))) hZ (tw hw 11 rfl) (tw hw 4 rfl) (by decide) (by decide)) (g := (mkF m 28 #[vR a1, vR a2, vI 2, vI 1] [(.int (2 : Int32)), (.int (1 : Int32)), (.ref a2), (.ref a1)])) rfl (by rw [hml]; rfl) (argsL := [(.ref a1), (.ref a2), (.int (1 : Int32)), (.int (2 : Int32))]) (rest := []) (lenOf pd__28_5bJ_5bJII_29Z rfl) rfl (by show 2 * 0 + _ ≤ _; exact Nat.le_of_eq rfl) (hb hby d2_28) (fun _ _ => ⟨rfl, e1, (by decide : 0 + 0 ≤ _), (by decide : 0 + 0 ≤ _)⟩)
    dsimp only [Pt.U, Pt.locs, Pt.cells, Pt.slots] at X5 l5 y5 z5 st5 hQ5
    subst l5 y5 z5
    obtain ⟨rfl, N5q, e5⟩ := hQ5
    have N5 := Fr.app N1 N5q
    have c6 : ∀ t, Steps p.tables e below (T5.setTop (mkF m 31 #[vR a1, vR a2, vI 2, vI 1] [(.int (if own_bf H K 1 2 = true then 1 else 0))])) t → Steps p.tables e below (T1.setTop (mkF m 13 #[vR a1, vR a2, vI 2, vI 0] [(.int (if own_bf H K 0 2 = true then 1 else 0))])) t := by
      intro t kt
      show Steps p.tables e below (T1.setTop (mkF m 13 #[vR a1, vR a2, vI 2, vI 0] [(.int (if own_bf H K 0 2 = true then 1 else 0))])) _
      refine XS.ifNo X1.here hx rfl (hb hby d2_13) rfl ((if0 _ _).trans (feq hc13).1) ?_
      refine XS.iinc X1.here hx rfl (hb hby d2_16) rfl (l' := #[vR a1, vR a2, vI 2, vI 1]) rfl ?_
      refine XS.iloadN X1.here hx rfl (hb hby d2_19) rfl ?_
      refine XS.iconst X1.here hx rfl (hb hby d2_20) ?_
      refine XS.icmpNo X1.here hx rfl (hb hby d2_21) rfl (feq (by decide : ¬ ((2 : Int32) = (1 : Int32)))).1 ?_
      refine XS.aloadN X1.here hx rfl (hb hby d2_24) rfl rfl ?_
      refine XS.aloadN X1.here hx rfl (hb hby d2_25) rfl rfl ?_
      refine XS.iconst X1.here hx rfl (hb hby d2_26) ?_
      refine XS.iloadN X1.here hx rfl (hb hby d2_27) rfl ?_
      show Steps p.tables e below (T1.setTop (mkF m 28 #[vR a1, vR a2, vI 2, vI 1] [(.int (2 : Int32)), (.int (1 : Int32)), (.ref a2), (.ref a1)])) _
      refine st5 _ ?_
      exact kt
    by_cases hc31 : (if own_bf H K 1 2 = true then 1 else 0) = (0 : Int32)
    · obtain ⟨fs, hr, hrun, hended, hW, hsame⟩ := X5.leave (v := some (.int (1 : Int32))) (fun h => by rw [Bd.returns] at h; cases h)
      refine ⟨_, _, pre0 _ (c2 _ (c6 _ (?_))), hrun, hended, _, _, rfl, ?_, ⟨_, rfl⟩, hW, hsame.mono (by decide) (by decide)⟩
      · show Steps p.tables e below (T5.setTop (mkF m 31 #[vR a1, vR a2, vI 2, vI 1] [(.int (if own_bf H K 1 2 = true then 1 else 0))])) _
        refine XS.ifYes X5.here hx rfl (pc0 := 31) (pc' := 37) rfl (hb hby d2_31) rfl ((if0 _ _).trans (teq hc31).1) (by decide) (by decide) ?_
        refine XS.iloadN X5.here hx rfl (hb hby d2_37) rfl ?_
        refine XS.iconst X5.here hx rfl (hb hby d2_38) ?_
        refine XS.icmpYes X5.here hx rfl (pc0 := 39) (pc' := 55) rfl (hb hby d2_39) rfl (teq (by decide : (2 : Int32) = (2 : Int32))).1 (by decide) (by decide) ?_
        refine XS.iloadN X5.here hx rfl (hb hby d2_55) rfl ?_
        show Steps p.tables e below (T5.setTop (mkF m 56 #[vR a1, vR a2, vI 2, vI 1] [(.int (1 : Int32))])) _
        exact retI X5 hx Bd.returns (hb hby d2_56) hr
      · show QrmRk2 Z a1 a2 H K h0 n0 _ T5.heap _
        rw [e5]
        exact ⟨by unfold rkn; simp [own_i1n hc13, own_i1 hc31] <;> rfl, N5, rfl⟩
    · obtain ⟨fs, hr, hrun, hended, hW, hsame⟩ := X5.leave (v := some (.int (2 : Int32))) (fun h => by rw [Bd.returns] at h; cases h)
      refine ⟨_, _, pre0 _ (c2 _ (c6 _ (?_))), hrun, hended, _, _, rfl, ?_, ⟨_, rfl⟩, hW, hsame.mono (by decide) (by decide)⟩
      · show Steps p.tables e below (T5.setTop (mkF m 31 #[vR a1, vR a2, vI 2, vI 1] [(.int (if own_bf H K 1 2 = true then 1 else 0))])) _
        refine XS.ifNo X5.here hx rfl (hb hby d2_31) rfl ((if0 _ _).trans (feq hc31).1) ?_
        refine XS.iinc X5.here hx rfl (hb hby d2_34) rfl (l' := #[vR a1, vR a2, vI 2, vI 2]) rfl ?_
        refine XS.iloadN X5.here hx rfl (hb hby d2_37) rfl ?_
        refine XS.iconst X5.here hx rfl (hb hby d2_38) ?_
        refine XS.icmpYes X5.here hx rfl (pc0 := 39) (pc' := 55) rfl (hb hby d2_39) rfl (teq (by decide : (2 : Int32) = (2 : Int32))).1 (by decide) (by decide) ?_
        refine XS.iloadN X5.here hx rfl (hb hby d2_55) rfl ?_
        show Steps p.tables e below (T5.setTop (mkF m 56 #[vR a1, vR a2, vI 2, vI 2] [(.int (2 : Int32))])) _
        exact retI X5 hx Bd.returns (hb hby d2_56) hr
      · show QrmRk2 Z a1 a2 H K h0 n0 _ T5.heap _
        rw [e5]
        exact ⟨by unfold rkn; simp [own_i1n hc13, own_i1n hc31] <;> rfl, N5, rfl⟩
theorem lt_laid {Z : State} {a0 : Array Value} (hw : ∀ d ∈ tables_1, d.before a0 Z = true) (k : Nat) (hk : k < 27) : Laid Z a0 LTC LTC (fnm k) (fds k) :=
  match k, hk with
  | 0, _ => (Or.inr (tw hw 23 rfl))
  | 1, _ => (Or.inr (tw hw 27 rfl))
  | 2, _ => (Or.inr (tw hw 33 rfl))
  | 3, _ => (Or.inl (tw hw 39 rfl))
  | 4, _ => (Or.inl (tw hw 45 rfl))
  | 5, _ => (Or.inl (tw hw 47 rfl))
  | 6, _ => (Or.inl (tw hw 49 rfl))
  | 7, _ => (Or.inl (tw hw 51 rfl))
  | 8, _ => (Or.inl (tw hw 53 rfl))
  | 9, _ => (Or.inl (tw hw 55 rfl))
  | 10, _ => (Or.inl (tw hw 63 rfl))
  | 11, _ => (Or.inl (tw hw 65 rfl))
  | 12, _ => (Or.inl (tw hw 67 rfl))
  | 13, _ => (Or.inl (tw hw 69 rfl))
  | 14, _ => (Or.inl (tw hw 71 rfl))
  | 15, _ => (Or.inl (tw hw 73 rfl))
  | 16, _ => (Or.inr (tw hw 25 rfl))
  | 17, _ => (Or.inl (tw hw 41 rfl))
  | 18, _ => (Or.inl (tw hw 43 rfl))
  | 19, _ => (Or.inl (tw hw 57 rfl))
  | 20, _ => (Or.inl (tw hw 59 rfl))
  | 21, _ => (Or.inl (tw hw 61 rfl))
  | 22, _ => (Or.inl (tw hw 37 rfl))
  | 23, _ => (Or.inl (tw hw 94 rfl))
  | 24, _ => (Or.inl (tw hw 92 rfl))
  | 25, _ => (Or.inl (tw hw 86 rfl))
  | 26, _ => (Or.inl (tw hw 84 rfl))
  | n + 27, h => absurd h (by omega)
theorem lt_ty : ∀ k, k < 27 → parseFieldDescriptor (fds k) = some (fty k) := by decide +kernel
theorem lt_nmne : ∀ k, k < 27 → ∀ k', k' < 27 → k' ≠ k → fnm k' ≠ fnm k := by decide +kernel
theorem lt_slot {Z : State} {a0 : Array Value} (hw : ∀ d ∈ tables_1, d.before a0 Z = true) (k : Nat) (hk : k < 27) : ∀ k', k' < 27 → k' ≠ k → Jvm.RoadKit.slotOf Z LTC (fnm k') (fds k') ≠ Jvm.RoadKit.slotOf Z LTC (fnm k) (fds k) :=
  fun k' hk' q => slot_ne (lt_laid hw k' hk') (lt_laid hw k hk) (lt_nmne k hk k' hk' q) (lt_ty k' hk') (lt_ty k hk)
theorem OB.new {Z : State} {a0 : Array Value} (hw : ∀ d ∈ tables_1, d.before a0 Z = true) {h : Heap} {a : Addr} (E : Exa Z h a LTC) (D : ∀ {O nm d : String} {ty : FieldType}, Laid Z a0 LTC O nm d → parseFieldDescriptor d = some ty → Fld Z h a O nm d (defaultValue ty)) : OB Z h a (fun k => defaultValue (fty k)) :=
  ⟨E, fun k hk => D (lt_laid hw k hk) (lt_ty k hk)⟩
def NN1 (k : Nat) : Nat := [3, 3, 2, 4, 4, 4, 4, 64, 64, 64, 64, 1, 1, 1, 1, 1, 3, 4, 4, 64, 64, 64, 4].getD k 0
def II1 (k j : Nat) : Int32 := if k = 1 ∨ k = 2 then -1 else 0
theorem own_SZ1 : SZ NN1 1 := by unfold SZ NN1; decide
theorem d6_0 : decode q2 0 = .ok (.iconst 0, 1) := by decide +kernel
theorem d6_1 : decode q2 1 = .ok (.istore_n 2, 1) := by decide +kernel
theorem d6_2 : decode q2 2 = .ok (.aload_n 0, 1) := by decide +kernel
theorem d6_3 : decode q2 3 = .ok (.arraylength, 1) := by decide +kernel
theorem d6_4 : decode q2 4 = .ok (.istore_n 3, 1) := by decide +kernel
theorem d6_5 : decode q2 5 = .ok (.iload_n 2, 1) := by decide +kernel
theorem d6_6 : decode q2 6 = .ok (.iload_n 3, 1) := by decide +kernel
theorem d6_7 : decode q2 7 = .ok (.if_icmp .ge 13, 3) := by decide +kernel
theorem d6_10 : decode q2 10 = .ok (.aload_n 0, 1) := by decide +kernel
theorem d6_11 : decode q2 11 = .ok (.iload_n 2, 1) := by decide +kernel
theorem d6_12 : decode q2 12 = .ok (.iload_n 1, 1) := by decide +kernel
theorem d6_13 : decode q2 13 = .ok (.iastore, 1) := by decide +kernel
theorem d6_14 : decode q2 14 = .ok (.iinc 2 1, 3) := by decide +kernel
theorem d6_17 : decode q2 17 = .ok (.goto (-12), 3) := by decide +kernel
theorem d6_20 : decode q2 20 = .ok (.return_, 1) := by decide +kernel
theorem pn_java_util_Arrays : plainName "java/util/Arrays" = true := by first | (simp [plainName, overriddenIn]; done) | decide +kernel
theorem ef_rmFill2 (m : MethodId) (x0 : Addr) (x1 : Int32) : entryFrame m #[(.ref x0), (.int x1)] 4 = mkF m 0 #[vR x0, .val (.int x1), uu, uu] [] := by first | (simp [entryFrame, mkF, argsToLocals, Value.category]; done) | rfl
def QrmFill2 (Z : State) (a1 : Addr) (h0 : Heap) (n0 : Nat) (v : Option Value) (h : Heap) (L : List Loc) : Prop := v = none ∧ Fr n0 L ∧ KN n0 h0 h ∧ Keep h0 h [a1] ∧ AR Z h a1 .int 2 (fun _ => .int (-1))
set_option maxRecDepth 65536 in
set_option maxHeartbeats 40000000 in
theorem rmFill2 (l : Launch) (Z : State) (a0 : Array Value) (hw : ∀ d ∈ tables_1, d.before a0 Z = true) (ws : List Jvm.Cond) (a1 : Addr) (h0 : Heap) (n0 : Nat) (Z0 : n0 ≤ h0.size) (Va : AR Z h0 a1 .int 2 (fun _ => .int 0)) (g_a1 : n0 ≤ a1) :
    MetFree l (⟨"java/util/Arrays", "fill", "([II)V"⟩ : MethodName) (head1 (Jvm.Cond.code (⟨"java/util/Arrays", "fill", "([II)V"⟩ : MethodName) jdk_65_method_103_code 4 none :: ws) ({ frames := 0, cells := 0, slots := 0, locals := 0 } : Room)) (fun a U => a = #[(.ref a1), (.int (-1 : Int32))] ∧ Z.Warmed39 U.vm ∧ U.heap = h0) (fun _ _ _ _ _ => True) (fun _ U o U' => ∃ v L, o = .returned v ∧ QrmFill2 Z a1 h0 n0 v U'.heap L ∧ FrameEnd U o U' L ({ frames := 0, cells := 0, slots := 0, locals := 0 } : Room).cells ({ frames := 0, cells := 0, slots := 0, locals := 0 } : Room).slots) := by
  refine MetFree.of_bodySF (plainFor_of_name pn_java_util_Arrays) hisR ?_
  intro p e s m args below meth c s₁ Bd hml0 hP hK
  obtain ⟨rfl, hZ, hh⟩ := hP
  have hx := Bd.exec
  have hby := Bd.bytes
  have hml : c.maxLocals = 4 := hml0
  have hown : s.vm.findClass "java/util/Arrays" = some m.cls := findClass_of_methodNamed Bd.named
  have hnm := (name_of_methodNamed Bd.named Bd.method).1
  have X0 : Stand p l e ({ frames := 0, cells := 0, slots := 0, locals := 0 } : Room) s m #[(.ref a1), (.int (-1 : Int32))] below meth c s₁ [] 0 0 := Stand.of_body Bd
  have e0 : s₁.heap = h0 := by rw [← hh, Bd.state]; rfl
  have N0 := Fr.nil n0
  have pre0 : ∀ t, Steps p.tables e below (s₁.setTop (mkF m 0 #[vR a1, vI (-1), uu, uu] [])) t → Steps p.tables e below (s₁.setTop (entryFrame m #[(.ref a1), (.int (-1 : Int32))] 4)) t := fun t k => castTop (ef_rmFill2 m a1 (-1 : Int32)) k
  obtain ⟨T1, h1, X1, e1, W1, V1, st1⟩ := own_stI X0 hx hZ e0 Va (j := (0 : Int32)) (by decide) (g := (mkF m 13 #[vR a1, vI (-1), vI 0, vI 2] [(.int (-1 : Int32)), (.int (0 : Int32)), (.ref a1)])) rfl rfl (hb hby d6_13)
  have K1 : Keep h0 h1 [a1] := (Keep.refl h0 [a1]).wr W1 (Or.inl (List.mem_of_getElem? (i := 0) rfl))
  have N1 := Fr.snoc X1 N0 g_a1
  have Z1 : n0 ≤ h1.size := Nat.le_trans Z0 (Keep.of_wr W1).1
  obtain ⟨T2, h2, X2, e2, W2, V2, st2⟩ := own_stI X1 hx hZ e1 V1 (j := (1 : Int32)) (by decide) (g := (mkF m 13 #[vR a1, vI (-1), vI 1, vI 2] [(.int (-1 : Int32)), (.int (1 : Int32)), (.ref a1)])) rfl rfl (hb hby d6_13)
  have K2 : Keep h0 h2 [a1] := K1.wr W2 (Or.inl (List.mem_of_getElem? (i := 0) rfl))
  have N2 := Fr.snoc X2 N1 g_a1
  have Z2 : n0 ≤ h2.size := Nat.le_trans Z1 (Keep.of_wr W2).1
  obtain ⟨fs, hr, hrun, hended, hW, hsame⟩ := X2.leave (v := none) (fun _ => rfl)
  refine ⟨_, _, pre0 _ (?_), hrun, hended, _, _, rfl, ?_, ⟨_, rfl⟩, hW, hsame.mono (by decide) (by decide)⟩
  · show Steps p.tables e below (s₁.setTop (mkF m 0 #[vR a1, vI (-1), uu, uu] [])) _
    refine XS.iconst X0.here hx rfl (hb hby d6_0) ?_
    show Steps p.tables e below (s₁.setTop (mkF m 1 #[vR a1, vI (-1), uu, uu] [(.int (0 : Int32))])) _
    refine XS.istoreN X0.here hx rfl (hb hby d6_1) rfl (l' := #[vR a1, vI (-1), vI 0, uu]) rfl ?_
    show Steps p.tables e below (s₁.setTop (mkF m 2 #[vR a1, vI (-1), vI 0, uu] [])) _
    refine XS.aloadN X0.here hx rfl (hb hby d6_2) rfl rfl ?_
    show Steps p.tables e below (s₁.setTop (mkF m 3 #[vR a1, vI (-1), vI 0, uu] [(.ref a1)])) _
    refine own_len X0 hx hZ e0 Va (z := (2 : Int32)) rfl (g := (mkF m 3 #[vR a1, vI (-1), vI 0, uu] [(.ref a1)])) rfl rfl (hb hby d6_3) _ ?_
    show Steps p.tables e below (s₁.setTop (mkF m 4 #[vR a1, vI (-1), vI 0, uu] [(.int (2 : Int32))])) _
    refine XS.istoreN X0.here hx rfl (hb hby d6_4) rfl (l' := #[vR a1, vI (-1), vI 0, vI 2]) rfl ?_
    show Steps p.tables e below (s₁.setTop (mkF m 5 #[vR a1, vI (-1), vI 0, vI 2] [])) _
    refine XS.iloadN X0.here hx rfl (hb hby d6_5) rfl ?_
    show Steps p.tables e below (s₁.setTop (mkF m 6 #[vR a1, vI (-1), vI 0, vI 2] [(.int (0 : Int32))])) _
    refine XS.iloadN X0.here hx rfl (hb hby d6_6) rfl ?_
    show Steps p.tables e below (s₁.setTop (mkF m 7 #[vR a1, vI (-1), vI 0, vI 2] [(.int (2 : Int32)), (.int (0 : Int32))])) _
    refine XS.icmpNo X0.here hx rfl (hb hby d6_7) rfl (tlt (by decide : (0 : Int32) < (2 : Int32))).2.1 ?_
    show Steps p.tables e below (s₁.setTop (mkF m 10 #[vR a1, vI (-1), vI 0, vI 2] [])) _
    refine XS.aloadN X0.here hx rfl (hb hby d6_10) rfl rfl ?_
    show Steps p.tables e below (s₁.setTop (mkF m 11 #[vR a1, vI (-1), vI 0, vI 2] [(.ref a1)])) _
    refine XS.iloadN X0.here hx rfl (hb hby d6_11) rfl ?_
    show Steps p.tables e below (s₁.setTop (mkF m 12 #[vR a1, vI (-1), vI 0, vI 2] [(.int (0 : Int32)), (.ref a1)])) _
    refine XS.iloadN X0.here hx rfl (hb hby d6_12) rfl ?_
    show Steps p.tables e below (s₁.setTop (mkF m 13 #[vR a1, vI (-1), vI 0, vI 2] [(.int (-1 : Int32)), (.int (0 : Int32)), (.ref a1)])) _
    refine st1 _ ?_
    show Steps p.tables e below (T1.setTop (mkF m 14 #[vR a1, vI (-1), vI 0, vI 2] [])) _
    refine XS.iinc X1.here hx rfl (hb hby d6_14) rfl (l' := #[vR a1, vI (-1), vI 1, vI 2]) rfl ?_
    show Steps p.tables e below (T1.setTop (mkF m 17 #[vR a1, vI (-1), vI 1, vI 2] [])) _
    refine XS.goto X1.here hx rfl (pc0 := 17) (pc' := 5) rfl (hb hby d6_17) (by decide) (by decide) ?_
    show Steps p.tables e below (T1.setTop (mkF m 5 #[vR a1, vI (-1), vI 1, vI 2] [])) _
    refine XS.iloadN X1.here hx rfl (hb hby d6_5) rfl ?_
    show Steps p.tables e below (T1.setTop (mkF m 6 #[vR a1, vI (-1), vI 1, vI 2] [(.int (1 : Int32))])) _
    refine XS.iloadN X1.here hx rfl (hb hby d6_6) rfl ?_
    show Steps p.tables e below (T1.setTop (mkF m 7 #[vR a1, vI (-1), vI 1, vI 2] [(.int (2 : Int32)), (.int (1 : Int32))])) _
    refine XS.icmpNo X1.here hx rfl (hb hby d6_7) rfl (tlt (by decide : (1 : Int32) < (2 : Int32))).2.1 ?_
    show Steps p.tables e below (T1.setTop (mkF m 10 #[vR a1, vI (-1), vI 1, vI 2] [])) _
    refine XS.aloadN X1.here hx rfl (hb hby d6_10) rfl rfl ?_
    show Steps p.tables e below (T1.setTop (mkF m 11 #[vR a1, vI (-1), vI 1, vI 2] [(.ref a1)])) _
    refine XS.iloadN X1.here hx rfl (hb hby d6_11) rfl ?_
    show Steps p.tables e below (T1.setTop (mkF m 12 #[vR a1, vI (-1), vI 1, vI 2] [(.int (1 : Int32)), (.ref a1)])) _
    refine XS.iloadN X1.here hx rfl (hb hby d6_12) rfl ?_
    show Steps p.tables e below (T1.setTop (mkF m 13 #[vR a1, vI (-1), vI 1, vI 2] [(.int (-1 : Int32)), (.int (1 : Int32)), (.ref a1)])) _
    refine st2 _ ?_
    show Steps p.tables e below (T2.setTop (mkF m 14 #[vR a1, vI (-1), vI 1, vI 2] [])) _
    refine XS.iinc X2.here hx rfl (hb hby d6_14) rfl (l' := #[vR a1, vI (-1), vI 2, vI 2]) rfl ?_
    show Steps p.tables e below (T2.setTop (mkF m 17 #[vR a1, vI (-1), vI 2, vI 2] [])) _
    refine XS.goto X2.here hx rfl (pc0 := 17) (pc' := 5) rfl (hb hby d6_17) (by decide) (by decide) ?_
    show Steps p.tables e below (T2.setTop (mkF m 5 #[vR a1, vI (-1), vI 2, vI 2] [])) _
    refine XS.iloadN X2.here hx rfl (hb hby d6_5) rfl ?_
    show Steps p.tables e below (T2.setTop (mkF m 6 #[vR a1, vI (-1), vI 2, vI 2] [(.int (2 : Int32))])) _
    refine XS.iloadN X2.here hx rfl (hb hby d6_6) rfl ?_
    show Steps p.tables e below (T2.setTop (mkF m 7 #[vR a1, vI (-1), vI 2, vI 2] [(.int (2 : Int32)), (.int (2 : Int32))])) _
    refine XS.icmpYes X2.here hx rfl (pc0 := 7) (pc' := 20) rfl (hb hby d6_7) rfl (flt (by decide : ¬ ((2 : Int32) < (2 : Int32)))).2.1 (by decide) (by decide) ?_
    show Steps p.tables e below (T2.setTop (mkF m 20 #[vR a1, vI (-1), vI 2, vI 2] [])) _
    exact X2.returnOut hx Bd.returns (hb hby d6_20) hr
  · show QrmFill2 Z a1 h0 n0 _ T2.heap _
    rw [e2]
    exact ⟨rfl, N2, KN.keep K2 (allS g_a1 all0), K2, V2.eq fun i hi => by rcases (show i = 0 ∨ i = 1 by omega) with rfl | rfl <;> rfl⟩
theorem ef_rmFill3 (m : MethodId) (x0 : Addr) (x1 : Int32) : entryFrame m #[(.ref x0), (.int x1)] 4 = mkF m 0 #[vR x0, .val (.int x1), uu, uu] [] := by first | (simp [entryFrame, mkF, argsToLocals, Value.category]; done) | rfl
def QrmFill3 (Z : State) (a1 : Addr) (h0 : Heap) (n0 : Nat) (v : Option Value) (h : Heap) (L : List Loc) : Prop := v = none ∧ Fr n0 L ∧ KN n0 h0 h ∧ Keep h0 h [a1] ∧ AR Z h a1 .int 3 (fun _ => .int (-1))
set_option maxRecDepth 65536 in
set_option maxHeartbeats 40000000 in
theorem rmFill3 (l : Launch) (Z : State) (a0 : Array Value) (hw : ∀ d ∈ tables_1, d.before a0 Z = true) (ws : List Jvm.Cond) (a1 : Addr) (h0 : Heap) (n0 : Nat) (Z0 : n0 ≤ h0.size) (Va : AR Z h0 a1 .int 3 (fun _ => .int 0)) (g_a1 : n0 ≤ a1) :
    MetFree l (⟨"java/util/Arrays", "fill", "([II)V"⟩ : MethodName) (head1 (Jvm.Cond.code (⟨"java/util/Arrays", "fill", "([II)V"⟩ : MethodName) jdk_65_method_103_code 4 none :: ws) ({ frames := 0, cells := 0, slots := 0, locals := 0 } : Room)) (fun a U => a = #[(.ref a1), (.int (-1 : Int32))] ∧ Z.Warmed39 U.vm ∧ U.heap = h0) (fun _ _ _ _ _ => True) (fun _ U o U' => ∃ v L, o = .returned v ∧ QrmFill3 Z a1 h0 n0 v U'.heap L ∧ FrameEnd U o U' L ({ frames := 0, cells := 0, slots := 0, locals := 0 } : Room).cells ({ frames := 0, cells := 0, slots := 0, locals := 0 } : Room).slots) := by
  refine MetFree.of_bodySF (plainFor_of_name pn_java_util_Arrays) hisR ?_
  intro p e s m args below meth c s₁ Bd hml0 hP hK
  obtain ⟨rfl, hZ, hh⟩ := hP
  have hx := Bd.exec
  have hby := Bd.bytes
  have hml : c.maxLocals = 4 := hml0
  have hown : s.vm.findClass "java/util/Arrays" = some m.cls := findClass_of_methodNamed Bd.named
  have hnm := (name_of_methodNamed Bd.named Bd.method).1
  have X0 : Stand p l e ({ frames := 0, cells := 0, slots := 0, locals := 0 } : Room) s m #[(.ref a1), (.int (-1 : Int32))] below meth c s₁ [] 0 0 := Stand.of_body Bd
  have e0 : s₁.heap = h0 := by rw [← hh, Bd.state]; rfl
  have N0 := Fr.nil n0
  have pre0 : ∀ t, Steps p.tables e below (s₁.setTop (mkF m 0 #[vR a1, vI (-1), uu, uu] [])) t → Steps p.tables e below (s₁.setTop (entryFrame m #[(.ref a1), (.int (-1 : Int32))] 4)) t := fun t k => castTop (ef_rmFill3 m a1 (-1 : Int32)) k
  obtain ⟨T1, h1, X1, e1, W1, V1, st1⟩ := own_stI X0 hx hZ e0 Va (j := (0 : Int32)) (by decide) (g := (mkF m 13 #[vR a1, vI (-1), vI 0, vI 3] [(.int (-1 : Int32)), (.int (0 : Int32)), (.ref a1)])) rfl rfl (hb hby d6_13)
  have K1 : Keep h0 h1 [a1] := (Keep.refl h0 [a1]).wr W1 (Or.inl (List.mem_of_getElem? (i := 0) rfl))
  have N1 := Fr.snoc X1 N0 g_a1
  have Z1 : n0 ≤ h1.size := Nat.le_trans Z0 (Keep.of_wr W1).1
  obtain ⟨T2, h2, X2, e2, W2, V2, st2⟩ := own_stI X1 hx hZ e1 V1 (j := (1 : Int32)) (by decide) (g := (mkF m 13 #[vR a1, vI (-1), vI 1, vI 3] [(.int (-1 : Int32)), (.int (1 : Int32)), (.ref a1)])) rfl rfl (hb hby d6_13)
  have K2 : Keep h0 h2 [a1] := K1.wr W2 (Or.inl (List.mem_of_getElem? (i := 0) rfl))
  have N2 := Fr.snoc X2 N1 g_a1
  have Z2 : n0 ≤ h2.size := Nat.le_trans Z1 (Keep.of_wr W2).1
  obtain ⟨T3, h3, X3, e3, W3, V3, st3⟩ := own_stI X2 hx hZ e2 V2 (j := (2 : Int32)) (by decide) (g := (mkF m 13 #[vR a1, vI (-1), vI 2, vI 3] [(.int (-1 : Int32)), (.int (2 : Int32)), (.ref a1)])) rfl rfl (hb hby d6_13)
  have K3 : Keep h0 h3 [a1] := K2.wr W3 (Or.inl (List.mem_of_getElem? (i := 0) rfl))
  have N3 := Fr.snoc X3 N2 g_a1
  have Z3 : n0 ≤ h3.size := Nat.le_trans Z2 (Keep.of_wr W3).1
  obtain ⟨fs, hr, hrun, hended, hW, hsame⟩ := X3.leave (v := none) (fun _ => rfl)
  refine ⟨_, _, pre0 _ (?_), hrun, hended, _, _, rfl, ?_, ⟨_, rfl⟩, hW, hsame.mono (by decide) (by decide)⟩
  · show Steps p.tables e below (s₁.setTop (mkF m 0 #[vR a1, vI (-1), uu, uu] [])) _
    refine XS.iconst X0.here hx rfl (hb hby d6_0) ?_
    show Steps p.tables e below (s₁.setTop (mkF m 1 #[vR a1, vI (-1), uu, uu] [(.int (0 : Int32))])) _
    refine XS.istoreN X0.here hx rfl (hb hby d6_1) rfl (l' := #[vR a1, vI (-1), vI 0, uu]) rfl ?_
    show Steps p.tables e below (s₁.setTop (mkF m 2 #[vR a1, vI (-1), vI 0, uu] [])) _
    refine XS.aloadN X0.here hx rfl (hb hby d6_2) rfl rfl ?_
    show Steps p.tables e below (s₁.setTop (mkF m 3 #[vR a1, vI (-1), vI 0, uu] [(.ref a1)])) _
    refine own_len X0 hx hZ e0 Va (z := (3 : Int32)) rfl (g := (mkF m 3 #[vR a1, vI (-1), vI 0, uu] [(.ref a1)])) rfl rfl (hb hby d6_3) _ ?_
    show Steps p.tables e below (s₁.setTop (mkF m 4 #[vR a1, vI (-1), vI 0, uu] [(.int (3 : Int32))])) _
    refine XS.istoreN X0.here hx rfl (hb hby d6_4) rfl (l' := #[vR a1, vI (-1), vI 0, vI 3]) rfl ?_
    show Steps p.tables e below (s₁.setTop (mkF m 5 #[vR a1, vI (-1), vI 0, vI 3] [])) _
    refine XS.iloadN X0.here hx rfl (hb hby d6_5) rfl ?_
    show Steps p.tables e below (s₁.setTop (mkF m 6 #[vR a1, vI (-1), vI 0, vI 3] [(.int (0 : Int32))])) _
    refine XS.iloadN X0.here hx rfl (hb hby d6_6) rfl ?_
    show Steps p.tables e below (s₁.setTop (mkF m 7 #[vR a1, vI (-1), vI 0, vI 3] [(.int (3 : Int32)), (.int (0 : Int32))])) _
    refine XS.icmpNo X0.here hx rfl (hb hby d6_7) rfl (tlt (by decide : (0 : Int32) < (3 : Int32))).2.1 ?_
    show Steps p.tables e below (s₁.setTop (mkF m 10 #[vR a1, vI (-1), vI 0, vI 3] [])) _
    refine XS.aloadN X0.here hx rfl (hb hby d6_10) rfl rfl ?_
    show Steps p.tables e below (s₁.setTop (mkF m 11 #[vR a1, vI (-1), vI 0, vI 3] [(.ref a1)])) _
    refine XS.iloadN X0.here hx rfl (hb hby d6_11) rfl ?_
    show Steps p.tables e below (s₁.setTop (mkF m 12 #[vR a1, vI (-1), vI 0, vI 3] [(.int (0 : Int32)), (.ref a1)])) _
    refine XS.iloadN X0.here hx rfl (hb hby d6_12) rfl ?_
    show Steps p.tables e below (s₁.setTop (mkF m 13 #[vR a1, vI (-1), vI 0, vI 3] [(.int (-1 : Int32)), (.int (0 : Int32)), (.ref a1)])) _
    refine st1 _ ?_
    show Steps p.tables e below (T1.setTop (mkF m 14 #[vR a1, vI (-1), vI 0, vI 3] [])) _
    refine XS.iinc X1.here hx rfl (hb hby d6_14) rfl (l' := #[vR a1, vI (-1), vI 1, vI 3]) rfl ?_
    show Steps p.tables e below (T1.setTop (mkF m 17 #[vR a1, vI (-1), vI 1, vI 3] [])) _
    refine XS.goto X1.here hx rfl (pc0 := 17) (pc' := 5) rfl (hb hby d6_17) (by decide) (by decide) ?_
    show Steps p.tables e below (T1.setTop (mkF m 5 #[vR a1, vI (-1), vI 1, vI 3] [])) _
    refine XS.iloadN X1.here hx rfl (hb hby d6_5) rfl ?_
    show Steps p.tables e below (T1.setTop (mkF m 6 #[vR a1, vI (-1), vI 1, vI 3] [(.int (1 : Int32))])) _
    refine XS.iloadN X1.here hx rfl (hb hby d6_6) rfl ?_
    show Steps p.tables e below (T1.setTop (mkF m 7 #[vR a1, vI (-1), vI 1, vI 3] [(.int (3 : Int32)), (.int (1 : Int32))])) _
    refine XS.icmpNo X1.here hx rfl (hb hby d6_7) rfl (tlt (by decide : (1 : Int32) < (3 : Int32))).2.1 ?_
    show Steps p.tables e below (T1.setTop (mkF m 10 #[vR a1, vI (-1), vI 1, vI 3] [])) _
    refine XS.aloadN X1.here hx rfl (hb hby d6_10) rfl rfl ?_
    show Steps p.tables e below (T1.setTop (mkF m 11 #[vR a1, vI (-1), vI 1, vI 3] [(.ref a1)])) _
    refine XS.iloadN X1.here hx rfl (hb hby d6_11) rfl ?_
    show Steps p.tables e below (T1.setTop (mkF m 12 #[vR a1, vI (-1), vI 1, vI 3] [(.int (1 : Int32)), (.ref a1)])) _
    refine XS.iloadN X1.here hx rfl (hb hby d6_12) rfl ?_
    show Steps p.tables e below (T1.setTop (mkF m 13 #[vR a1, vI (-1), vI 1, vI 3] [(.int (-1 : Int32)), (.int (1 : Int32)), (.ref a1)])) _
    refine st2 _ ?_
    show Steps p.tables e below (T2.setTop (mkF m 14 #[vR a1, vI (-1), vI 1, vI 3] [])) _
    refine XS.iinc X2.here hx rfl (hb hby d6_14) rfl (l' := #[vR a1, vI (-1), vI 2, vI 3]) rfl ?_
    show Steps p.tables e below (T2.setTop (mkF m 17 #[vR a1, vI (-1), vI 2, vI 3] [])) _
    refine XS.goto X2.here hx rfl (pc0 := 17) (pc' := 5) rfl (hb hby d6_17) (by decide) (by decide) ?_
    show Steps p.tables e below (T2.setTop (mkF m 5 #[vR a1, vI (-1), vI 2, vI 3] [])) _
    refine XS.iloadN X2.here hx rfl (hb hby d6_5) rfl ?_
    show Steps p.tables e below (T2.setTop (mkF m 6 #[vR a1, vI (-1), vI 2, vI 3] [(.int (2 : Int32))])) _
    refine XS.iloadN X2.here hx rfl (hb hby d6_6) rfl ?_
    show Steps p.tables e below (T2.setTop (mkF m 7 #[vR a1, vI (-1), vI 2, vI 3] [(.int (3 : Int32)), (.int (2 : Int32))])) _
    refine XS.icmpNo X2.here hx rfl (hb hby d6_7) rfl (tlt (by decide : (2 : Int32) < (3 : Int32))).2.1 ?_
    show Steps p.tables e below (T2.setTop (mkF m 10 #[vR a1, vI (-1), vI 2, vI 3] [])) _
    refine XS.aloadN X2.here hx rfl (hb hby d6_10) rfl rfl ?_
    show Steps p.tables e below (T2.setTop (mkF m 11 #[vR a1, vI (-1), vI 2, vI 3] [(.ref a1)])) _
    refine XS.iloadN X2.here hx rfl (hb hby d6_11) rfl ?_
    show Steps p.tables e below (T2.setTop (mkF m 12 #[vR a1, vI (-1), vI 2, vI 3] [(.int (2 : Int32)), (.ref a1)])) _
    refine XS.iloadN X2.here hx rfl (hb hby d6_12) rfl ?_
    show Steps p.tables e below (T2.setTop (mkF m 13 #[vR a1, vI (-1), vI 2, vI 3] [(.int (-1 : Int32)), (.int (2 : Int32)), (.ref a1)])) _
    refine st3 _ ?_
    show Steps p.tables e below (T3.setTop (mkF m 14 #[vR a1, vI (-1), vI 2, vI 3] [])) _
    refine XS.iinc X3.here hx rfl (hb hby d6_14) rfl (l' := #[vR a1, vI (-1), vI 3, vI 3]) rfl ?_
    show Steps p.tables e below (T3.setTop (mkF m 17 #[vR a1, vI (-1), vI 3, vI 3] [])) _
    refine XS.goto X3.here hx rfl (pc0 := 17) (pc' := 5) rfl (hb hby d6_17) (by decide) (by decide) ?_
    show Steps p.tables e below (T3.setTop (mkF m 5 #[vR a1, vI (-1), vI 3, vI 3] [])) _
    refine XS.iloadN X3.here hx rfl (hb hby d6_5) rfl ?_
    show Steps p.tables e below (T3.setTop (mkF m 6 #[vR a1, vI (-1), vI 3, vI 3] [(.int (3 : Int32))])) _
    refine XS.iloadN X3.here hx rfl (hb hby d6_6) rfl ?_
    show Steps p.tables e below (T3.setTop (mkF m 7 #[vR a1, vI (-1), vI 3, vI 3] [(.int (3 : Int32)), (.int (3 : Int32))])) _
    refine XS.icmpYes X3.here hx rfl (pc0 := 7) (pc' := 20) rfl (hb hby d6_7) rfl (flt (by decide : ¬ ((3 : Int32) < (3 : Int32)))).2.1 (by decide) (by decide) ?_
    show Steps p.tables e below (T3.setTop (mkF m 20 #[vR a1, vI (-1), vI 3, vI 3] [])) _
    exact X3.returnOut hx Bd.returns (hb hby d6_20) hr
  · show QrmFill3 Z a1 h0 n0 _ T3.heap _
    rw [e3]
    exact ⟨rfl, N3, KN.keep K3 (allS g_a1 all0), K3, V3.eq fun i hi => by rcases (show i = 0 ∨ i = 1 ∨ i = 2 by omega) with rfl | rfl | rfl <;> rfl⟩
theorem d4_0 : decode q9 0 = .ok (.aload_n 0, 1) := by decide +kernel
theorem d4_1 : decode q9 1 = .ok (.invokespecial 3, 3) := by decide +kernel
theorem d4_4 : decode q9 4 = .ok (.aload_n 0, 1) := by decide +kernel
theorem d4_5 : decode q9 5 = .ok (.aload_n 2, 1) := by decide +kernel
theorem d4_6 : decode q9 6 = .ok (.putfield 9, 3) := by decide +kernel
theorem d4_9 : decode q9 9 = .ok (.aload_n 0, 1) := by decide +kernel
theorem d4_10 : decode q9 10 = .ok (.aload_n 3, 1) := by decide +kernel
theorem d4_11 : decode q9 11 = .ok (.putfield 13, 3) := by decide +kernel
theorem d4_14 : decode q9 14 = .ok (.aload_n 0, 1) := by decide +kernel
theorem d4_15 : decode q9 15 = .ok (.aload_n 2, 1) := by decide +kernel
theorem d4_16 : decode q9 16 = .ok (.arraylength, 1) := by decide +kernel
theorem d4_17 : decode q9 17 = .ok (.newarray .int, 2) := by decide +kernel
theorem d4_19 : decode q9 19 = .ok (.putfield 17, 3) := by decide +kernel
theorem d4_22 : decode q9 22 = .ok (.aload_n 0, 1) := by decide +kernel
theorem d4_23 : decode q9 23 = .ok (.getfield 17, 3) := by decide +kernel
theorem d4_26 : decode q9 26 = .ok (.iconst (-1), 1) := by decide +kernel
theorem d4_27 : decode q9 27 = .ok (.invokestatic 20, 3) := by decide +kernel
theorem d4_30 : decode q9 30 = .ok (.aload_n 0, 1) := by decide +kernel
theorem d4_31 : decode q9 31 = .ok (.iload_n 1, 1) := by decide +kernel
theorem d4_32 : decode q9 32 = .ok (.newarray .int, 2) := by decide +kernel
theorem d4_34 : decode q9 34 = .ok (.putfield 26, 3) := by decide +kernel
theorem d4_37 : decode q9 37 = .ok (.aload_n 0, 1) := by decide +kernel
theorem d4_38 : decode q9 38 = .ok (.getfield 26, 3) := by decide +kernel
theorem d4_41 : decode q9 41 = .ok (.iconst (-1), 1) := by decide +kernel
theorem d4_42 : decode q9 42 = .ok (.invokestatic 20, 3) := by decide +kernel
theorem d4_45 : decode q9 45 = .ok (.aload_n 0, 1) := by decide +kernel
theorem d4_46 : decode q9 46 = .ok (.iconst 4, 1) := by decide +kernel
theorem d4_47 : decode q9 47 = .ok (.anewarray 29, 3) := by decide +kernel
theorem d4_50 : decode q9 50 = .ok (.putfield 30, 3) := by decide +kernel
theorem d4_53 : decode q9 53 = .ok (.aload_n 0, 1) := by decide +kernel
theorem d4_54 : decode q9 54 = .ok (.iconst 4, 1) := by decide +kernel
theorem d4_55 : decode q9 55 = .ok (.newarray .int, 2) := by decide +kernel
theorem d4_57 : decode q9 57 = .ok (.putfield 34, 3) := by decide +kernel
theorem d4_60 : decode q9 60 = .ok (.aload_n 0, 1) := by decide +kernel
theorem d4_61 : decode q9 61 = .ok (.iconst 4, 1) := by decide +kernel
theorem d4_62 : decode q9 62 = .ok (.newarray .long, 2) := by decide +kernel
theorem d4_64 : decode q9 64 = .ok (.putfield 37, 3) := by decide +kernel
theorem d4_67 : decode q9 67 = .ok (.aload_n 0, 1) := by decide +kernel
theorem d4_68 : decode q9 68 = .ok (.iconst 4, 1) := by decide +kernel
theorem d4_69 : decode q9 69 = .ok (.newarray .long, 2) := by decide +kernel
theorem d4_71 : decode q9 71 = .ok (.putfield 40, 3) := by decide +kernel
theorem d4_74 : decode q9 74 = .ok (.aload_n 0, 1) := by decide +kernel
theorem d4_75 : decode q9 75 = .ok (.iconst 4, 1) := by decide +kernel
theorem d4_76 : decode q9 76 = .ok (.newarray .int, 2) := by decide +kernel
theorem d4_78 : decode q9 78 = .ok (.putfield 43, 3) := by decide +kernel
theorem d4_81 : decode q9 81 = .ok (.aload_n 0, 1) := by decide +kernel
theorem d4_82 : decode q9 82 = .ok (.iconst 4, 1) := by decide +kernel
theorem d4_83 : decode q9 83 = .ok (.newarray .int, 2) := by decide +kernel
theorem d4_85 : decode q9 85 = .ok (.putfield 46, 3) := by decide +kernel
theorem d4_88 : decode q9 88 = .ok (.aload_n 0, 1) := by decide +kernel
theorem d4_89 : decode q9 89 = .ok (.iconst 4, 1) := by decide +kernel
theorem d4_90 : decode q9 90 = .ok (.newarray .int, 2) := by decide +kernel
theorem d4_92 : decode q9 92 = .ok (.putfield 49, 3) := by decide +kernel
theorem d4_95 : decode q9 95 = .ok (.aload_n 0, 1) := by decide +kernel
theorem d4_96 : decode q9 96 = .ok (.bipush 64, 2) := by decide +kernel
theorem d4_98 : decode q9 98 = .ok (.newarray .int, 2) := by decide +kernel
theorem d4_100 : decode q9 100 = .ok (.putfield 52, 3) := by decide +kernel
theorem d4_103 : decode q9 103 = .ok (.aload_n 0, 1) := by decide +kernel
theorem d4_104 : decode q9 104 = .ok (.bipush 64, 2) := by decide +kernel
theorem d4_106 : decode q9 106 = .ok (.newarray .int, 2) := by decide +kernel
theorem d4_108 : decode q9 108 = .ok (.putfield 55, 3) := by decide +kernel
theorem d4_111 : decode q9 111 = .ok (.aload_n 0, 1) := by decide +kernel
theorem d4_112 : decode q9 112 = .ok (.bipush 64, 2) := by decide +kernel
theorem d4_114 : decode q9 114 = .ok (.newarray .int, 2) := by decide +kernel
theorem d4_116 : decode q9 116 = .ok (.putfield 58, 3) := by decide +kernel
theorem d4_119 : decode q9 119 = .ok (.aload_n 0, 1) := by decide +kernel
theorem d4_120 : decode q9 120 = .ok (.bipush 64, 2) := by decide +kernel
theorem d4_122 : decode q9 122 = .ok (.newarray .long, 2) := by decide +kernel
theorem d4_124 : decode q9 124 = .ok (.putfield 61, 3) := by decide +kernel
theorem d4_127 : decode q9 127 = .ok (.aload_n 0, 1) := by decide +kernel
theorem d4_128 : decode q9 128 = .ok (.bipush 64, 2) := by decide +kernel
theorem d4_130 : decode q9 130 = .ok (.newarray .long, 2) := by decide +kernel
theorem d4_132 : decode q9 132 = .ok (.putfield 64, 3) := by decide +kernel
theorem d4_135 : decode q9 135 = .ok (.aload_n 0, 1) := by decide +kernel
theorem d4_136 : decode q9 136 = .ok (.bipush 64, 2) := by decide +kernel
theorem d4_138 : decode q9 138 = .ok (.newarray .long, 2) := by decide +kernel
theorem d4_140 : decode q9 140 = .ok (.putfield 67, 3) := by decide +kernel
theorem d4_143 : decode q9 143 = .ok (.aload_n 0, 1) := by decide +kernel
theorem d4_144 : decode q9 144 = .ok (.bipush 64, 2) := by decide +kernel
theorem d4_146 : decode q9 146 = .ok (.newarray .int, 2) := by decide +kernel
theorem d4_148 : decode q9 148 = .ok (.putfield 70, 3) := by decide +kernel
theorem d4_151 : decode q9 151 = .ok (.aload_n 0, 1) := by decide +kernel
theorem d4_152 : decode q9 152 = .ok (.iconst 1, 1) := by decide +kernel
theorem d4_153 : decode q9 153 = .ok (.newarray .int, 2) := by decide +kernel
theorem d4_155 : decode q9 155 = .ok (.putfield 73, 3) := by decide +kernel
theorem d4_158 : decode q9 158 = .ok (.aload_n 0, 1) := by decide +kernel
theorem d4_159 : decode q9 159 = .ok (.iconst 1, 1) := by decide +kernel
theorem d4_160 : decode q9 160 = .ok (.newarray .int, 2) := by decide +kernel
theorem d4_162 : decode q9 162 = .ok (.putfield 76, 3) := by decide +kernel
theorem d4_165 : decode q9 165 = .ok (.aload_n 0, 1) := by decide +kernel
theorem d4_166 : decode q9 166 = .ok (.iconst 1, 1) := by decide +kernel
theorem d4_167 : decode q9 167 = .ok (.newarray .int, 2) := by decide +kernel
theorem d4_169 : decode q9 169 = .ok (.putfield 79, 3) := by decide +kernel
theorem d4_172 : decode q9 172 = .ok (.aload_n 0, 1) := by decide +kernel
theorem d4_173 : decode q9 173 = .ok (.iconst 1, 1) := by decide +kernel
theorem d4_174 : decode q9 174 = .ok (.newarray .int, 2) := by decide +kernel
theorem d4_176 : decode q9 176 = .ok (.putfield 82, 3) := by decide +kernel
theorem d4_179 : decode q9 179 = .ok (.aload_n 0, 1) := by decide +kernel
theorem d4_180 : decode q9 180 = .ok (.iconst 1, 1) := by decide +kernel
theorem d4_181 : decode q9 181 = .ok (.newarray .int, 2) := by decide +kernel
theorem d4_183 : decode q9 183 = .ok (.putfield 85, 3) := by decide +kernel
theorem d4_186 : decode q9 186 = .ok (.return_, 1) := by decide +kernel
theorem pd__28_5bII_29V : parseMethodDescriptor "([II)V" = some ⟨[(.array .int), .int], none⟩ := by decide +kernel
theorem ef_rmInit (m : MethodId) (x0 : Addr) (x1 : Int32) (x2 : Addr) (x3 : Addr) : entryFrame m #[(.ref x0), (.int x1), (.ref x2), (.ref x3)] 4 = mkF m 0 #[vR x0, .val (.int x1), vR x2, vR x3] [] := by first | (simp [entryFrame, mkF, argsToLocals, Value.category]; done) | rfl
def QrmInit (Z : State) (a1 a2 a3 : Addr) (h0 : Heap) (n0 : Nat) (v : Option Value) (h : Heap) (L : List Loc) : Prop := v = none ∧ Fr n0 L ∧ KN n0 h0 h ∧ ∃ A, LT Z h n0 a1 A NN1 II1 (fun _ _ => 0) (fun _ => 0) (fun _ => none) (fun _ _ => 0)
set_option maxRecDepth 65536 in
set_option maxHeartbeats 40000000 in
theorem rmInit (l : Launch) (Z : State) (a0 : Array Value) (hw : ∀ d ∈ tables_1, d.before a0 Z = true) (ws : List Jvm.Cond) (a1 a2 a3 : Addr) (h0 : Heap) (n0 : Nat) (Z0 : n0 ≤ h0.size) (OB0 : OB Z h0 a1 (fun k => defaultValue (fty k))) (g_a1 : n0 ≤ a1) (Va2 : AR Z h0 a2 .int 3 (fun _ => .int 0)) (Va3 : AR Z h0 a3 .long 3 (fun _ => .long 0)) (la12 : a1 < a2) (la23 : a2 < a3) (ha1 : a1 < h0.size) :
    MetFree l (⟨"com/example/ebbtide/ebbtide/cluster/LoadTrees", "<init>", "(I[I[J)V"⟩ : MethodName) (head1 (Jvm.Cond.code (⟨"com/example/ebbtide/ebbtide/cluster/LoadTrees", "<init>", "(I[I[J)V"⟩ : MethodName) prog_74_method_1_code 4 none :: ws) ({ frames := 1, cells := 21, slots := 486, locals := 15 } : Room)) (fun a U => a = #[(.ref a1), (.int (2 : Int32)), (.ref a2), (.ref a3)] ∧ Z.Warmed39 U.vm ∧ U.heap = h0) (fun _ _ _ _ _ => True) (fun _ U o U' => ∃ v L, o = .returned v ∧ QrmInit Z a1 a2 a3 h0 n0 v U'.heap L ∧ FrameEnd U o U' L ({ frames := 1, cells := 21, slots := 486, locals := 15 } : Room).cells ({ frames := 1, cells := 21, slots := 486, locals := 15 } : Room).slots) := by
  refine MetFree.of_bodySF (plainFor_of_name pn_com_example_ebbtide_ebbtide_cluster_LoadTrees) hisR ?_
  intro p e s m args below meth c s₁ Bd hml0 hP hK
  obtain ⟨rfl, hZ, hh⟩ := hP
  have hx := Bd.exec
  have hby := Bd.bytes
  have hml : c.maxLocals = 4 := hml0
  have hown : s.vm.findClass "com/example/ebbtide/ebbtide/cluster/LoadTrees" = some m.cls := findClass_of_methodNamed Bd.named
  have hnm := (name_of_methodNamed Bd.named Bd.method).1
  have X0 : Stand p l e ({ frames := 1, cells := 21, slots := 486, locals := 15 } : Room) s m #[(.ref a1), (.int (2 : Int32)), (.ref a2), (.ref a3)] below meth c s₁ [] 0 0 := Stand.of_body Bd
  have e0 : s₁.heap = h0 := by rw [← hh, Bd.state]; rfl
  have N0 := Fr.nil n0
  have pre0 : ∀ t, Steps p.tables e below (s₁.setTop (mkF m 0 #[vR a1, vI 2, vR a2, vR a3] [])) t → Steps p.tables e below (s₁.setTop (entryFrame m #[(.ref a1), (.int (2 : Int32)), (.ref a2), (.ref a3)] 4)) t := fun t k => castTop (ef_rmInit m a1 (2 : Int32) a2 a3) k
  obtain ⟨T1, X1, e1, st1⟩ := initO X0 hx hZ hown (tw hw 19 rfl) (tw hw 20 rfl) (tw hw 21 rfl) e0 (g := (mkF m 1 #[vR a1, vI 2, vR a2, vR a3] [(.ref a1)])) rfl (by rw [hml]; rfl) rfl (hb hby d4_1) (by decide) (W := 0) (by show 2 * 0 + _ ≤ _; exact Nat.le_of_eq rfl) (by decide)
  have Op2 := OB0
  obtain ⟨T2, h2, X2, e2, W2, st2⟩ := putF X1 hx hZ hown (host := "") (Or.inl (tw hw 22 rfl)) Via.refl e1 (show Fld Z h0 a1 LTC "cpu" "[I" .null from Op2.2 0 (by decide)) Op2.1 (Or.inr ⟨(tw hw 23 rfl), rfl, hnm⟩) (tw hw 13 rfl) (ty := (.array .int)) (by decide) rfl rfl (g := (mkF m 6 #[vR a1, vI 2, vR a2, vR a3] [(.ref a2), (.ref a1)])) rfl rfl (hb hby d4_6)
  have O2 := Op2.put (k := 0) (lt_slot hw 0 (by decide)) W2
  have K2 : KN n0 h0 h2 := (KN.refl n0 h0).trans (KN.wr W2 g_a1)
  have N2 := Fr.snoc X2 N0 g_a1
  have Z2 : n0 ≤ h2.size := Nat.le_trans Z0 (Keep.of_wr W2).1
  have Op3 := O2
  obtain ⟨T3, h3, X3, e3, W3, st3⟩ := putF X2 hx hZ hown (host := "") (Or.inl (tw hw 24 rfl)) Via.refl e2 (show Fld Z h2 a1 LTC "memory" "[J" .null from Op3.2 16 (by decide)) Op3.1 (Or.inr ⟨(tw hw 25 rfl), rfl, hnm⟩) (tw hw 13 rfl) (ty := (.array .long)) (by decide) rfl rfl (g := (mkF m 11 #[vR a1, vI 2, vR a2, vR a3] [(.ref a3), (.ref a1)])) rfl rfl (hb hby d4_11)
  have O3 := Op3.put (k := 16) (lt_slot hw 16 (by decide)) W3
  have K3 : KN n0 h0 h3 := K2.trans (KN.wr W3 g_a1)
  have N3 := Fr.snoc X3 N2 g_a1
  have Z3 : n0 ≤ h3.size := Nat.le_trans Z2 (Keep.of_wr W3).1
  have f4 := ((Va2.other W2 (Ne.symm (Nat.ne_of_lt la12))).other W3 (Ne.symm (Nat.ne_of_lt la12)))
  obtain ⟨T5, h5, k5, X5, e5, E5, A5, st5⟩ := newP X3 hx hZ (tw hw 15 rfl) e3 (g := (mkF m 17 #[vR a1, vI 2, vR a2, vR a3] [(.int (3 : Int32)), (.ref a1)])) rfl (hb hby d4_17) rfl (by decide) (cap := 3) (by decide) (by decide) (by decide) (by decide)
  obtain ⟨b5, g5⟩ : ∃ z, z = h3.size := ⟨_, rfl⟩
  rw [← g5] at A5 st5
  have g_b5 : n0 ≤ b5 := Nat.le_trans Z3 (Nat.le_of_eq g5.symm)
  have sz_b5 : h0.size ≤ b5 := (Nat.le_trans K3.1 (Nat.le_of_eq g5.symm))
  have V5 : AR Z h5 b5 .int 3 (fun _ => (.int (0 : Int32))) := (AR.new A5 (by decide) rfl)
  have K5 : KN n0 h0 h5 := K3.trans (KN.ext E5)
  have Z5 : n0 ≤ h5.size := Nat.le_trans Z3 E5.1
  have Op6 := (O3.ext E5)
  obtain ⟨T6, h6, X6, e6, W6, st6⟩ := putF X5 hx hZ hown (host := "") (Or.inl (tw hw 26 rfl)) Via.refl e5 (show Fld Z h5 a1 LTC "place" "[I" .null from Op6.2 1 (by decide)) Op6.1 (Or.inr ⟨(tw hw 27 rfl), rfl, hnm⟩) (tw hw 13 rfl) (ty := (.array .int)) (by decide) rfl rfl (g := (mkF m 19 #[vR a1, vI 2, vR a2, vR a3] [(.ref b5), (.ref a1)])) rfl rfl (hb hby d4_19)
  have O6 := Op6.put (k := 1) (lt_slot hw 1 (by decide)) W6
  have K6 : KN n0 h0 h6 := K5.trans (KN.wr W6 g_a1)
  have N6 := Fr.snoc X6 N3 g_a1
  have Z6 : n0 ≤ h6.size := Nat.le_trans Z5 (Keep.of_wr W6).1
  obtain ⟨T7, X7, e7, st7⟩ := getF X6 hx hZ hown (host := "") (Or.inl (tw hw 26 rfl)) Via.refl e6 (show Fld Z h6 a1 LTC "place" "[I" (.ref b5) from O6.2 1 (by decide)) (g := (mkF m 23 #[vR a1, vI 2, vR a2, vR a3] [(.ref a1)])) rfl rfl (hb hby d4_23)
  have f9 := (V5.other W6 (Nat.ne_of_gt (Nat.lt_of_lt_of_le ha1 sz_b5)))
  obtain ⟨_, _, ⟨T8, L8, k8, n8⟩, -, X8, ⟨Lc8, hQ8, l8, y8, z8⟩, st8⟩ := Jvm.LawKit.callS X7 hx (y := (⟨"java/util/Arrays", "fill", "([II)V"⟩ : MethodName)) hown (mvT hZ (tw hw 28 rfl)) (mvT hZ (tw hw 29 rfl)) (mvT hZ (tw hw 30 rfl)) (mvT hZ (tw hw 31 rfl)) (by decide) (backOf (W := 0) (rmFill3 l Z a0 hw [] b5 h6 n0 Z6 f9 g_b5) hZ (tw hw 31 rfl) (tw hw 30 rfl) (by decide) (by decide)) (g := (mkF m 27 #[vR a1, vI 2, vR a2, vR a3] [(.int (-1 : Int32)), (.ref b5)])) rfl (by rw [hml]; rfl) (argsL := [(.ref b5), (.int (-1 : Int32))]) (rest := []) (lenOf pd__28_5bII_29V rfl) rfl (by show 2 * 0 + _ ≤ _; exact Nat.le_of_eq rfl) (hb hby d4_27) (fun _ _ => ⟨rfl, e7, (by decide : 1 + 0 ≤ _), (by decide : 3 + 0 ≤ _)⟩)
  dsimp only [Pt.U, Pt.locs, Pt.cells, Pt.slots] at X8 l8 y8 z8 st8 hQ8
  subst l8 y8 z8
  obtain ⟨h8, e8⟩ : ∃ h', T8.heap = h' := ⟨_, rfl⟩
  rw [e8] at hQ8
  obtain ⟨rfl, N8q, K8q, K8r, V8q⟩ := hQ8
  have K8 : KN n0 h0 h8 := K6.trans K8q
  have Z8 : n0 ≤ h8.size := Nat.le_trans Z6 K8q.1
  have N8 := Fr.app N6 N8q
  obtain ⟨T10, h10, k10, X10, e10, E10, A10, st10⟩ := newP X8 hx hZ (tw hw 15 rfl) e8 (g := (mkF m 32 #[vR a1, vI 2, vR a2, vR a3] [(.int (2 : Int32)), (.ref a1)])) rfl (hb hby d4_32) rfl (by decide) (cap := 2) (by decide) (by decide) (by decide) (by decide)
  obtain ⟨b10, g10⟩ : ∃ z, z = h8.size := ⟨_, rfl⟩
  rw [← g10] at A10 st10
  have g_b10 : n0 ≤ b10 := Nat.le_trans Z8 (Nat.le_of_eq g10.symm)
  have sz_b10 : h0.size ≤ b10 := (Nat.le_trans K8.1 (Nat.le_of_eq g10.symm))
  have V10 : AR Z h10 b10 .int 2 (fun _ => (.int (0 : Int32))) := (AR.new A10 (by decide) rfl)
  have K10 : KN n0 h0 h10 := K8.trans (KN.ext E10)
  have Z10 : n0 ≤ h10.size := Nat.le_trans Z8 E10.1
  have Op11 := ((O6.keep K8r (ninS (Nat.ne_of_lt (Nat.lt_of_lt_of_le ha1 sz_b5)) nin0)).ext E10)
  obtain ⟨T11, h11, X11, e11, W11, st11⟩ := putF X10 hx hZ hown (host := "") (Or.inl (tw hw 32 rfl)) Via.refl e10 (show Fld Z h10 a1 LTC "rootOf" "[I" .null from Op11.2 2 (by decide)) Op11.1 (Or.inr ⟨(tw hw 33 rfl), rfl, hnm⟩) (tw hw 13 rfl) (ty := (.array .int)) (by decide) rfl rfl (g := (mkF m 34 #[vR a1, vI 2, vR a2, vR a3] [(.ref b10), (.ref a1)])) rfl rfl (hb hby d4_34)
  have O11 := Op11.put (k := 2) (lt_slot hw 2 (by decide)) W11
  have K11 : KN n0 h0 h11 := K10.trans (KN.wr W11 g_a1)
  have N11 := Fr.snoc X11 N8 g_a1
  have Z11 : n0 ≤ h11.size := Nat.le_trans Z10 (Keep.of_wr W11).1
  obtain ⟨T12, X12, e12, st12⟩ := getF X11 hx hZ hown (host := "") (Or.inl (tw hw 32 rfl)) Via.refl e11 (show Fld Z h11 a1 LTC "rootOf" "[I" (.ref b10) from O11.2 2 (by decide)) (g := (mkF m 38 #[vR a1, vI 2, vR a2, vR a3] [(.ref a1)])) rfl rfl (hb hby d4_38)
  have f14 := (V10.other W11 (Nat.ne_of_gt (Nat.lt_of_lt_of_le ha1 sz_b10)))
  obtain ⟨_, _, ⟨T13, L13, k13, n13⟩, -, X13, ⟨Lc13, hQ13, l13, y13, z13⟩, st13⟩ := Jvm.LawKit.callS X12 hx (y := (⟨"java/util/Arrays", "fill", "([II)V"⟩ : MethodName)) hown (mvT hZ (tw hw 28 rfl)) (mvT hZ (tw hw 29 rfl)) (mvT hZ (tw hw 30 rfl)) (mvT hZ (tw hw 31 rfl)) (by decide) (backOf (W := 0) (rmFill2 l Z a0 hw [] b10 h11 n0 Z11 f14 g_b10) hZ (tw hw 31 rfl) (tw hw 30 rfl) (by decide) (by decide)) (g := (mkF m 42 #[vR a1, vI 2, vR a2, vR a3] [(.int (-1 : Int32)), (.ref b10)])) rfl (by rw [hml]; rfl) (argsL := [(.ref b10), (.int (-1 : Int32))]) (rest := []) (lenOf pd__28_5bII_29V rfl) rfl (by show 2 * 0 + _ ≤ _; exact Nat.le_of_eq rfl) (hb hby d4_42) (fun _ _ => ⟨rfl, e12, (by decide : 2 + 0 ≤ _), (by decide : 5 + 0 ≤ _)⟩)
  dsimp only [Pt.U, Pt.locs, Pt.cells, Pt.slots] at X13 l13 y13 z13 st13 hQ13
  subst l13 y13 z13
  obtain ⟨h13, e13⟩ : ∃ h', T13.heap = h' := ⟨_, rfl⟩
  rw [e13] at hQ13
  obtain ⟨rfl, N13q, K13q, K13r, V13q⟩ := hQ13
  have K13 : KN n0 h0 h13 := K11.trans K13q
  have Z13 : n0 ≤ h13.size := Nat.le_trans Z11 K13q.1
  have N13 := Fr.app N11 N13q
  obtain ⟨T15, h15, k15, X15, e15, E15, A15, -, OV15, st15⟩ := newRA X13 hx hZ hown (C := "[I") (ty := .int) (by decide) (tw hw 34 rfl) (tw hw 35 rfl) e13 (g := (mkF m 47 #[vR a1, vI 2, vR a2, vR a3] [(.int (4 : Int32)), (.ref a1)])) rfl (hb hby d4_47) rfl (by decide) (cap := 4) (by decide) (by decide) (by decide) (by decide) rfl
  obtain ⟨b15, g15⟩ : ∃ z, z = h13.size := ⟨_, rfl⟩
  rw [← g15] at A15 st15
  have g_b15 : n0 ≤ b15 := Nat.le_trans Z13 (Nat.le_of_eq g15.symm)
  have sz_b15 : h0.size ≤ b15 := (Nat.le_trans K13.1 (Nat.le_of_eq g15.symm))
  have V15 : ARo Z h15 b15 4 (fun _ => .null) := ⟨AR.new A15 (by decide) rfl, _, A15.1, OV15⟩
  have K15 : KN n0 h0 h15 := K13.trans (KN.ext E15)
  have Z15 : n0 ≤ h15.size := Nat.le_trans Z13 E15.1
  have Op16 := ((O11.keep K13r (ninS (Nat.ne_of_lt (Nat.lt_of_lt_of_le ha1 sz_b10)) nin0)).ext E15)
  obtain ⟨T16, h16, X16, e16, W16, st16⟩ := putF X15 hx hZ hown (host := "") (Or.inl (tw hw 36 rfl)) Via.refl e15 (show Fld Z h15 a1 LTC "members" "[[I" .null from Op16.2 22 (by decide)) Op16.1 (Or.inl (tw hw 37 rfl)) (tw hw 13 rfl) (ty := (.array (.array .int))) (by decide) rfl rfl (g := (mkF m 50 #[vR a1, vI 2, vR a2, vR a3] [(.ref b15), (.ref a1)])) rfl rfl (hb hby d4_50)
  have O16 := Op16.put (k := 22) (lt_slot hw 22 (by decide)) W16
  have K16 : KN n0 h0 h16 := K15.trans (KN.wr W16 g_a1)
  have N16 := Fr.snoc X16 N13 g_a1
  have Z16 : n0 ≤ h16.size := Nat.le_trans Z15 (Keep.of_wr W16).1
  obtain ⟨T17, h17, k17, X17, e17, E17, A17, st17⟩ := newP X16 hx hZ (tw hw 15 rfl) e16 (g := (mkF m 55 #[vR a1, vI 2, vR a2, vR a3] [(.int (4 : Int32)), (.ref a1)])) rfl (hb hby d4_55) rfl (by decide) (cap := 4) (by decide) (by decide) (by decide) (by decide)
  obtain ⟨b17, g17⟩ : ∃ z, z = h16.size := ⟨_, rfl⟩
  rw [← g17] at A17 st17
  have g_b17 : n0 ≤ b17 := Nat.le_trans Z16 (Nat.le_of_eq g17.symm)
  have sz_b17 : h0.size ≤ b17 := (Nat.le_trans K16.1 (Nat.le_of_eq g17.symm))
  have V17 : AR Z h17 b17 .int 4 (fun _ => (.int (0 : Int32))) := (AR.new A17 (by decide) rfl)
  have K17 : KN n0 h0 h17 := K16.trans (KN.ext E17)
  have Z17 : n0 ≤ h17.size := Nat.le_trans Z16 E17.1
  have Op18 := (O16.ext E17)
  obtain ⟨T18, h18, X18, e18, W18, st18⟩ := putF X17 hx hZ hown (host := "") (Or.inl (tw hw 38 rfl)) Via.refl e17 (show Fld Z h17 a1 LTC "leafSize" "[I" .null from Op18.2 3 (by decide)) Op18.1 (Or.inl (tw hw 39 rfl)) (tw hw 13 rfl) (ty := (.array .int)) (by decide) rfl rfl (g := (mkF m 57 #[vR a1, vI 2, vR a2, vR a3] [(.ref b17), (.ref a1)])) rfl rfl (hb hby d4_57)
  have O18 := Op18.put (k := 3) (lt_slot hw 3 (by decide)) W18
  have K18 : KN n0 h0 h18 := K17.trans (KN.wr W18 g_a1)
  have N18 := Fr.snoc X18 N16 g_a1
  have Z18 : n0 ≤ h18.size := Nat.le_trans Z17 (Keep.of_wr W18).1
  obtain ⟨T19, h19, k19, X19, e19, E19, A19, st19⟩ := newP X18 hx hZ (tw hw 0 rfl) e18 (g := (mkF m 62 #[vR a1, vI 2, vR a2, vR a3] [(.int (4 : Int32)), (.ref a1)])) rfl (hb hby d4_62) rfl (by decide) (cap := 4) (by decide) (by decide) (by decide) (by decide)
  obtain ⟨b19, g19⟩ : ∃ z, z = h18.size := ⟨_, rfl⟩
  rw [← g19] at A19 st19
  have g_b19 : n0 ≤ b19 := Nat.le_trans Z18 (Nat.le_of_eq g19.symm)
  have sz_b19 : h0.size ≤ b19 := (Nat.le_trans K18.1 (Nat.le_of_eq g19.symm))
  have V19 : AR Z h19 b19 .long 4 (fun _ => (.long (0 : Int64))) := (AR.new A19 (by decide) rfl)
  have K19 : KN n0 h0 h19 := K18.trans (KN.ext E19)
  have Z19 : n0 ≤ h19.size := Nat.le_trans Z18 E19.1
  have Op20 := (O18.ext E19)
  obtain ⟨T20, h20, X20, e20, W20, st20⟩ := putF X19 hx hZ hown (host := "") (Or.inl (tw hw 40 rfl)) Via.refl e19 (show Fld Z h19 a1 LTC "leafHigh" "[J" .null from Op20.2 17 (by decide)) Op20.1 (Or.inl (tw hw 41 rfl)) (tw hw 13 rfl) (ty := (.array .long)) (by decide) rfl rfl (g := (mkF m 64 #[vR a1, vI 2, vR a2, vR a3] [(.ref b19), (.ref a1)])) rfl rfl (hb hby d4_64)
  have O20 := Op20.put (k := 17) (lt_slot hw 17 (by decide)) W20
  have K20 : KN n0 h0 h20 := K19.trans (KN.wr W20 g_a1)
  have N20 := Fr.snoc X20 N18 g_a1
  have Z20 : n0 ≤ h20.size := Nat.le_trans Z19 (Keep.of_wr W20).1
  obtain ⟨T21, h21, k21, X21, e21, E21, A21, st21⟩ := newP X20 hx hZ (tw hw 0 rfl) e20 (g := (mkF m 69 #[vR a1, vI 2, vR a2, vR a3] [(.int (4 : Int32)), (.ref a1)])) rfl (hb hby d4_69) rfl (by decide) (cap := 4) (by decide) (by decide) (by decide) (by decide)
  obtain ⟨b21, g21⟩ : ∃ z, z = h20.size := ⟨_, rfl⟩
  rw [← g21] at A21 st21
  have g_b21 : n0 ≤ b21 := Nat.le_trans Z20 (Nat.le_of_eq g21.symm)
  have sz_b21 : h0.size ≤ b21 := (Nat.le_trans K20.1 (Nat.le_of_eq g21.symm))
  have V21 : AR Z h21 b21 .long 4 (fun _ => (.long (0 : Int64))) := (AR.new A21 (by decide) rfl)
  have K21 : KN n0 h0 h21 := K20.trans (KN.ext E21)
  have Z21 : n0 ≤ h21.size := Nat.le_trans Z20 E21.1
  have Op22 := (O20.ext E21)
  obtain ⟨T22, h22, X22, e22, W22, st22⟩ := putF X21 hx hZ hown (host := "") (Or.inl (tw hw 42 rfl)) Via.refl e21 (show Fld Z h21 a1 LTC "leafLow" "[J" .null from Op22.2 18 (by decide)) Op22.1 (Or.inl (tw hw 43 rfl)) (tw hw 13 rfl) (ty := (.array .long)) (by decide) rfl rfl (g := (mkF m 71 #[vR a1, vI 2, vR a2, vR a3] [(.ref b21), (.ref a1)])) rfl rfl (hb hby d4_71)
  have O22 := Op22.put (k := 18) (lt_slot hw 18 (by decide)) W22
  have K22 : KN n0 h0 h22 := K21.trans (KN.wr W22 g_a1)
  have N22 := Fr.snoc X22 N20 g_a1
  have Z22 : n0 ≤ h22.size := Nat.le_trans Z21 (Keep.of_wr W22).1
  obtain ⟨T23, h23, k23, X23, e23, E23, A23, st23⟩ := newP X22 hx hZ (tw hw 15 rfl) e22 (g := (mkF m 76 #[vR a1, vI 2, vR a2, vR a3] [(.int (4 : Int32)), (.ref a1)])) rfl (hb hby d4_76) rfl (by decide) (cap := 4) (by decide) (by decide) (by decide) (by decide)
  obtain ⟨b23, g23⟩ : ∃ z, z = h22.size := ⟨_, rfl⟩
  rw [← g23] at A23 st23
  have g_b23 : n0 ≤ b23 := Nat.le_trans Z22 (Nat.le_of_eq g23.symm)
  have sz_b23 : h0.size ≤ b23 := (Nat.le_trans K22.1 (Nat.le_of_eq g23.symm))
  have V23 : AR Z h23 b23 .int 4 (fun _ => (.int (0 : Int32))) := (AR.new A23 (by decide) rfl)
  have K23 : KN n0 h0 h23 := K22.trans (KN.ext E23)
  have Z23 : n0 ≤ h23.size := Nat.le_trans Z22 E23.1
  have Op24 := (O22.ext E23)
  obtain ⟨T24, h24, X24, e24, W24, st24⟩ := putF X23 hx hZ hown (host := "") (Or.inl (tw hw 44 rfl)) Via.refl e23 (show Fld Z h23 a1 LTC "leafParent" "[I" .null from Op24.2 4 (by decide)) Op24.1 (Or.inl (tw hw 45 rfl)) (tw hw 13 rfl) (ty := (.array .int)) (by decide) rfl rfl (g := (mkF m 78 #[vR a1, vI 2, vR a2, vR a3] [(.ref b23), (.ref a1)])) rfl rfl (hb hby d4_78)
  have O24 := Op24.put (k := 4) (lt_slot hw 4 (by decide)) W24
  have K24 : KN n0 h0 h24 := K23.trans (KN.wr W24 g_a1)
  have N24 := Fr.snoc X24 N22 g_a1
  have Z24 : n0 ≤ h24.size := Nat.le_trans Z23 (Keep.of_wr W24).1
  obtain ⟨T25, h25, k25, X25, e25, E25, A25, st25⟩ := newP X24 hx hZ (tw hw 15 rfl) e24 (g := (mkF m 83 #[vR a1, vI 2, vR a2, vR a3] [(.int (4 : Int32)), (.ref a1)])) rfl (hb hby d4_83) rfl (by decide) (cap := 4) (by decide) (by decide) (by decide) (by decide)
  obtain ⟨b25, g25⟩ : ∃ z, z = h24.size := ⟨_, rfl⟩
  rw [← g25] at A25 st25
  have g_b25 : n0 ≤ b25 := Nat.le_trans Z24 (Nat.le_of_eq g25.symm)
  have sz_b25 : h0.size ≤ b25 := (Nat.le_trans K24.1 (Nat.le_of_eq g25.symm))
  have V25 : AR Z h25 b25 .int 4 (fun _ => (.int (0 : Int32))) := (AR.new A25 (by decide) rfl)
  have K25 : KN n0 h0 h25 := K24.trans (KN.ext E25)
  have Z25 : n0 ≤ h25.size := Nat.le_trans Z24 E25.1
  have Op26 := (O24.ext E25)
  obtain ⟨T26, h26, X26, e26, W26, st26⟩ := putF X25 hx hZ hown (host := "") (Or.inl (tw hw 46 rfl)) Via.refl e25 (show Fld Z h25 a1 LTC "leafSlot" "[I" .null from Op26.2 5 (by decide)) Op26.1 (Or.inl (tw hw 47 rfl)) (tw hw 13 rfl) (ty := (.array .int)) (by decide) rfl rfl (g := (mkF m 85 #[vR a1, vI 2, vR a2, vR a3] [(.ref b25), (.ref a1)])) rfl rfl (hb hby d4_85)
  have O26 := Op26.put (k := 5) (lt_slot hw 5 (by decide)) W26
  have K26 : KN n0 h0 h26 := K25.trans (KN.wr W26 g_a1)
  have N26 := Fr.snoc X26 N24 g_a1
  have Z26 : n0 ≤ h26.size := Nat.le_trans Z25 (Keep.of_wr W26).1
  obtain ⟨T27, h27, k27, X27, e27, E27, A27, st27⟩ := newP X26 hx hZ (tw hw 15 rfl) e26 (g := (mkF m 90 #[vR a1, vI 2, vR a2, vR a3] [(.int (4 : Int32)), (.ref a1)])) rfl (hb hby d4_90) rfl (by decide) (cap := 4) (by decide) (by decide) (by decide) (by decide)
  obtain ⟨b27, g27⟩ : ∃ z, z = h26.size := ⟨_, rfl⟩
  rw [← g27] at A27 st27
  have g_b27 : n0 ≤ b27 := Nat.le_trans Z26 (Nat.le_of_eq g27.symm)
  have sz_b27 : h0.size ≤ b27 := (Nat.le_trans K26.1 (Nat.le_of_eq g27.symm))
  have V27 : AR Z h27 b27 .int 4 (fun _ => (.int (0 : Int32))) := (AR.new A27 (by decide) rfl)
  have K27 : KN n0 h0 h27 := K26.trans (KN.ext E27)
  have Z27 : n0 ≤ h27.size := Nat.le_trans Z26 E27.1
  have Op28 := (O26.ext E27)
  obtain ⟨T28, h28, X28, e28, W28, st28⟩ := putF X27 hx hZ hown (host := "") (Or.inl (tw hw 48 rfl)) Via.refl e27 (show Fld Z h27 a1 LTC "freeLeaves" "[I" .null from Op28.2 6 (by decide)) Op28.1 (Or.inl (tw hw 49 rfl)) (tw hw 13 rfl) (ty := (.array .int)) (by decide) rfl rfl (g := (mkF m 92 #[vR a1, vI 2, vR a2, vR a3] [(.ref b27), (.ref a1)])) rfl rfl (hb hby d4_92)
  have O28 := Op28.put (k := 6) (lt_slot hw 6 (by decide)) W28
  have K28 : KN n0 h0 h28 := K27.trans (KN.wr W28 g_a1)
  have N28 := Fr.snoc X28 N26 g_a1
  have Z28 : n0 ≤ h28.size := Nat.le_trans Z27 (Keep.of_wr W28).1
  obtain ⟨T29, h29, k29, X29, e29, E29, A29, st29⟩ := newP X28 hx hZ (tw hw 15 rfl) e28 (g := (mkF m 98 #[vR a1, vI 2, vR a2, vR a3] [(.int (64 : Int32)), (.ref a1)])) rfl (hb hby d4_98) rfl (by decide) (cap := 64) (by decide) (by decide) (by decide) (by decide)
  obtain ⟨b29, g29⟩ : ∃ z, z = h28.size := ⟨_, rfl⟩
  rw [← g29] at A29 st29
  have g_b29 : n0 ≤ b29 := Nat.le_trans Z28 (Nat.le_of_eq g29.symm)
  have sz_b29 : h0.size ≤ b29 := (Nat.le_trans K28.1 (Nat.le_of_eq g29.symm))
  have V29 : AR Z h29 b29 .int 64 (fun _ => (.int (0 : Int32))) := (AR.new A29 (by decide) rfl)
  have K29 : KN n0 h0 h29 := K28.trans (KN.ext E29)
  have Z29 : n0 ≤ h29.size := Nat.le_trans Z28 E29.1
  have Op30 := (O28.ext E29)
  obtain ⟨T30, h30, X30, e30, W30, st30⟩ := putF X29 hx hZ hown (host := "") (Or.inl (tw hw 50 rfl)) Via.refl e29 (show Fld Z h29 a1 LTC "child" "[I" .null from Op30.2 7 (by decide)) Op30.1 (Or.inl (tw hw 51 rfl)) (tw hw 13 rfl) (ty := (.array .int)) (by decide) rfl rfl (g := (mkF m 100 #[vR a1, vI 2, vR a2, vR a3] [(.ref b29), (.ref a1)])) rfl rfl (hb hby d4_100)
  have O30 := Op30.put (k := 7) (lt_slot hw 7 (by decide)) W30
  have K30 : KN n0 h0 h30 := K29.trans (KN.wr W30 g_a1)
  have N30 := Fr.snoc X30 N28 g_a1
  have Z30 : n0 ≤ h30.size := Nat.le_trans Z29 (Keep.of_wr W30).1
  obtain ⟨T31, h31, k31, X31, e31, E31, A31, st31⟩ := newP X30 hx hZ (tw hw 15 rfl) e30 (g := (mkF m 106 #[vR a1, vI 2, vR a2, vR a3] [(.int (64 : Int32)), (.ref a1)])) rfl (hb hby d4_106) rfl (by decide) (cap := 64) (by decide) (by decide) (by decide) (by decide)
  obtain ⟨b31, g31⟩ : ∃ z, z = h30.size := ⟨_, rfl⟩
  rw [← g31] at A31 st31
  have g_b31 : n0 ≤ b31 := Nat.le_trans Z30 (Nat.le_of_eq g31.symm)
  have sz_b31 : h0.size ≤ b31 := (Nat.le_trans K30.1 (Nat.le_of_eq g31.symm))
  have V31 : AR Z h31 b31 .int 64 (fun _ => (.int (0 : Int32))) := (AR.new A31 (by decide) rfl)
  have K31 : KN n0 h0 h31 := K30.trans (KN.ext E31)
  have Z31 : n0 ≤ h31.size := Nat.le_trans Z30 E31.1
  have Op32 := (O30.ext E31)
  obtain ⟨T32, h32, X32, e32, W32, st32⟩ := putF X31 hx hZ hown (host := "") (Or.inl (tw hw 52 rfl)) Via.refl e31 (show Fld Z h31 a1 LTC "below" "[I" .null from Op32.2 8 (by decide)) Op32.1 (Or.inl (tw hw 53 rfl)) (tw hw 13 rfl) (ty := (.array .int)) (by decide) rfl rfl (g := (mkF m 108 #[vR a1, vI 2, vR a2, vR a3] [(.ref b31), (.ref a1)])) rfl rfl (hb hby d4_108)
  have O32 := Op32.put (k := 8) (lt_slot hw 8 (by decide)) W32
  have K32 : KN n0 h0 h32 := K31.trans (KN.wr W32 g_a1)
  have N32 := Fr.snoc X32 N30 g_a1
  have Z32 : n0 ≤ h32.size := Nat.le_trans Z31 (Keep.of_wr W32).1
  obtain ⟨T33, h33, k33, X33, e33, E33, A33, st33⟩ := newP X32 hx hZ (tw hw 15 rfl) e32 (g := (mkF m 114 #[vR a1, vI 2, vR a2, vR a3] [(.int (64 : Int32)), (.ref a1)])) rfl (hb hby d4_114) rfl (by decide) (cap := 64) (by decide) (by decide) (by decide) (by decide)
  obtain ⟨b33, g33⟩ : ∃ z, z = h32.size := ⟨_, rfl⟩
  rw [← g33] at A33 st33
  have g_b33 : n0 ≤ b33 := Nat.le_trans Z32 (Nat.le_of_eq g33.symm)
  have sz_b33 : h0.size ≤ b33 := (Nat.le_trans K32.1 (Nat.le_of_eq g33.symm))
  have V33 : AR Z h33 b33 .int 64 (fun _ => (.int (0 : Int32))) := (AR.new A33 (by decide) rfl)
  have K33 : KN n0 h0 h33 := K32.trans (KN.ext E33)
  have Z33 : n0 ≤ h33.size := Nat.le_trans Z32 E33.1
  have Op34 := (O32.ext E33)
  obtain ⟨T34, h34, X34, e34, W34, st34⟩ := putF X33 hx hZ hown (host := "") (Or.inl (tw hw 54 rfl)) Via.refl e33 (show Fld Z h33 a1 LTC "mostCpu" "[I" .null from Op34.2 9 (by decide)) Op34.1 (Or.inl (tw hw 55 rfl)) (tw hw 13 rfl) (ty := (.array .int)) (by decide) rfl rfl (g := (mkF m 116 #[vR a1, vI 2, vR a2, vR a3] [(.ref b33), (.ref a1)])) rfl rfl (hb hby d4_116)
  have O34 := Op34.put (k := 9) (lt_slot hw 9 (by decide)) W34
  have K34 : KN n0 h0 h34 := K33.trans (KN.wr W34 g_a1)
  have N34 := Fr.snoc X34 N32 g_a1
  have Z34 : n0 ≤ h34.size := Nat.le_trans Z33 (Keep.of_wr W34).1
  obtain ⟨T35, h35, k35, X35, e35, E35, A35, st35⟩ := newP X34 hx hZ (tw hw 0 rfl) e34 (g := (mkF m 122 #[vR a1, vI 2, vR a2, vR a3] [(.int (64 : Int32)), (.ref a1)])) rfl (hb hby d4_122) rfl (by decide) (cap := 64) (by decide) (by decide) (by decide) (by decide)
  obtain ⟨b35, g35⟩ : ∃ z, z = h34.size := ⟨_, rfl⟩
  rw [← g35] at A35 st35
  have g_b35 : n0 ≤ b35 := Nat.le_trans Z34 (Nat.le_of_eq g35.symm)
  have sz_b35 : h0.size ≤ b35 := (Nat.le_trans K34.1 (Nat.le_of_eq g35.symm))
  have V35 : AR Z h35 b35 .long 64 (fun _ => (.long (0 : Int64))) := (AR.new A35 (by decide) rfl)
  have K35 : KN n0 h0 h35 := K34.trans (KN.ext E35)
  have Z35 : n0 ≤ h35.size := Nat.le_trans Z34 E35.1
  have Op36 := (O34.ext E35)
  obtain ⟨T36, h36, X36, e36, W36, st36⟩ := putF X35 hx hZ hown (host := "") (Or.inl (tw hw 56 rfl)) Via.refl e35 (show Fld Z h35 a1 LTC "mostMemory" "[J" .null from Op36.2 19 (by decide)) Op36.1 (Or.inl (tw hw 57 rfl)) (tw hw 13 rfl) (ty := (.array .long)) (by decide) rfl rfl (g := (mkF m 124 #[vR a1, vI 2, vR a2, vR a3] [(.ref b35), (.ref a1)])) rfl rfl (hb hby d4_124)
  have O36 := Op36.put (k := 19) (lt_slot hw 19 (by decide)) W36
  have K36 : KN n0 h0 h36 := K35.trans (KN.wr W36 g_a1)
  have N36 := Fr.snoc X36 N34 g_a1
  have Z36 : n0 ≤ h36.size := Nat.le_trans Z35 (Keep.of_wr W36).1
  obtain ⟨T37, h37, k37, X37, e37, E37, A37, st37⟩ := newP X36 hx hZ (tw hw 0 rfl) e36 (g := (mkF m 130 #[vR a1, vI 2, vR a2, vR a3] [(.int (64 : Int32)), (.ref a1)])) rfl (hb hby d4_130) rfl (by decide) (cap := 64) (by decide) (by decide) (by decide) (by decide)
  obtain ⟨b37, g37⟩ : ∃ z, z = h36.size := ⟨_, rfl⟩
  rw [← g37] at A37 st37
  have g_b37 : n0 ≤ b37 := Nat.le_trans Z36 (Nat.le_of_eq g37.symm)
  have sz_b37 : h0.size ≤ b37 := (Nat.le_trans K36.1 (Nat.le_of_eq g37.symm))
  have V37 : AR Z h37 b37 .long 64 (fun _ => (.long (0 : Int64))) := (AR.new A37 (by decide) rfl)
  have K37 : KN n0 h0 h37 := K36.trans (KN.ext E37)
  have Z37 : n0 ≤ h37.size := Nat.le_trans Z36 E37.1
  have Op38 := (O36.ext E37)
  obtain ⟨T38, h38, X38, e38, W38, st38⟩ := putF X37 hx hZ hown (host := "") (Or.inl (tw hw 58 rfl)) Via.refl e37 (show Fld Z h37 a1 LTC "fromHigh" "[J" .null from Op38.2 20 (by decide)) Op38.1 (Or.inl (tw hw 59 rfl)) (tw hw 13 rfl) (ty := (.array .long)) (by decide) rfl rfl (g := (mkF m 132 #[vR a1, vI 2, vR a2, vR a3] [(.ref b37), (.ref a1)])) rfl rfl (hb hby d4_132)
  have O38 := Op38.put (k := 20) (lt_slot hw 20 (by decide)) W38
  have K38 : KN n0 h0 h38 := K37.trans (KN.wr W38 g_a1)
  have N38 := Fr.snoc X38 N36 g_a1
  have Z38 : n0 ≤ h38.size := Nat.le_trans Z37 (Keep.of_wr W38).1
  obtain ⟨T39, h39, k39, X39, e39, E39, A39, st39⟩ := newP X38 hx hZ (tw hw 0 rfl) e38 (g := (mkF m 138 #[vR a1, vI 2, vR a2, vR a3] [(.int (64 : Int32)), (.ref a1)])) rfl (hb hby d4_138) rfl (by decide) (cap := 64) (by decide) (by decide) (by decide) (by decide)
  obtain ⟨b39, g39⟩ : ∃ z, z = h38.size := ⟨_, rfl⟩
  rw [← g39] at A39 st39
  have g_b39 : n0 ≤ b39 := Nat.le_trans Z38 (Nat.le_of_eq g39.symm)
  have sz_b39 : h0.size ≤ b39 := (Nat.le_trans K38.1 (Nat.le_of_eq g39.symm))
  have V39 : AR Z h39 b39 .long 64 (fun _ => (.long (0 : Int64))) := (AR.new A39 (by decide) rfl)
  have K39 : KN n0 h0 h39 := K38.trans (KN.ext E39)
  have Z39 : n0 ≤ h39.size := Nat.le_trans Z38 E39.1
  have Op40 := (O38.ext E39)
  obtain ⟨T40, h40, X40, e40, W40, st40⟩ := putF X39 hx hZ hown (host := "") (Or.inl (tw hw 60 rfl)) Via.refl e39 (show Fld Z h39 a1 LTC "fromLow" "[J" .null from Op40.2 21 (by decide)) Op40.1 (Or.inl (tw hw 61 rfl)) (tw hw 13 rfl) (ty := (.array .long)) (by decide) rfl rfl (g := (mkF m 140 #[vR a1, vI 2, vR a2, vR a3] [(.ref b39), (.ref a1)])) rfl rfl (hb hby d4_140)
  have O40 := Op40.put (k := 21) (lt_slot hw 21 (by decide)) W40
  have K40 : KN n0 h0 h40 := K39.trans (KN.wr W40 g_a1)
  have N40 := Fr.snoc X40 N38 g_a1
  have Z40 : n0 ≤ h40.size := Nat.le_trans Z39 (Keep.of_wr W40).1
  obtain ⟨T41, h41, k41, X41, e41, E41, A41, st41⟩ := newP X40 hx hZ (tw hw 15 rfl) e40 (g := (mkF m 146 #[vR a1, vI 2, vR a2, vR a3] [(.int (64 : Int32)), (.ref a1)])) rfl (hb hby d4_146) rfl (by decide) (cap := 64) (by decide) (by decide) (by decide) (by decide)
  obtain ⟨b41, g41⟩ : ∃ z, z = h40.size := ⟨_, rfl⟩
  rw [← g41] at A41 st41
  have g_b41 : n0 ≤ b41 := Nat.le_trans Z40 (Nat.le_of_eq g41.symm)
  have sz_b41 : h0.size ≤ b41 := (Nat.le_trans K40.1 (Nat.le_of_eq g41.symm))
  have V41 : AR Z h41 b41 .int 64 (fun _ => (.int (0 : Int32))) := (AR.new A41 (by decide) rfl)
  have K41 : KN n0 h0 h41 := K40.trans (KN.ext E41)
  have Z41 : n0 ≤ h41.size := Nat.le_trans Z40 E41.1
  have Op42 := (O40.ext E41)
  obtain ⟨T42, h42, X42, e42, W42, st42⟩ := putF X41 hx hZ hown (host := "") (Or.inl (tw hw 62 rfl)) Via.refl e41 (show Fld Z h41 a1 LTC "fromServer" "[I" .null from Op42.2 10 (by decide)) Op42.1 (Or.inl (tw hw 63 rfl)) (tw hw 13 rfl) (ty := (.array .int)) (by decide) rfl rfl (g := (mkF m 148 #[vR a1, vI 2, vR a2, vR a3] [(.ref b41), (.ref a1)])) rfl rfl (hb hby d4_148)
  have O42 := Op42.put (k := 10) (lt_slot hw 10 (by decide)) W42
  have K42 : KN n0 h0 h42 := K41.trans (KN.wr W42 g_a1)
  have N42 := Fr.snoc X42 N40 g_a1
  have Z42 : n0 ≤ h42.size := Nat.le_trans Z41 (Keep.of_wr W42).1
  obtain ⟨T43, h43, k43, X43, e43, E43, A43, st43⟩ := newP X42 hx hZ (tw hw 15 rfl) e42 (g := (mkF m 153 #[vR a1, vI 2, vR a2, vR a3] [(.int (1 : Int32)), (.ref a1)])) rfl (hb hby d4_153) rfl (by decide) (cap := 1) (by decide) (by decide) (by decide) (by decide)
  obtain ⟨b43, g43⟩ : ∃ z, z = h42.size := ⟨_, rfl⟩
  rw [← g43] at A43 st43
  have g_b43 : n0 ≤ b43 := Nat.le_trans Z42 (Nat.le_of_eq g43.symm)
  have sz_b43 : h0.size ≤ b43 := (Nat.le_trans K42.1 (Nat.le_of_eq g43.symm))
  have V43 : AR Z h43 b43 .int 1 (fun _ => (.int (0 : Int32))) := (AR.new A43 (by decide) rfl)
  have K43 : KN n0 h0 h43 := K42.trans (KN.ext E43)
  have Z43 : n0 ≤ h43.size := Nat.le_trans Z42 E43.1
  have Op44 := (O42.ext E43)
  obtain ⟨T44, h44, X44, e44, W44, st44⟩ := putF X43 hx hZ hown (host := "") (Or.inl (tw hw 64 rfl)) Via.refl e43 (show Fld Z h43 a1 LTC "branchSize" "[I" .null from Op44.2 11 (by decide)) Op44.1 (Or.inl (tw hw 65 rfl)) (tw hw 13 rfl) (ty := (.array .int)) (by decide) rfl rfl (g := (mkF m 155 #[vR a1, vI 2, vR a2, vR a3] [(.ref b43), (.ref a1)])) rfl rfl (hb hby d4_155)
  have O44 := Op44.put (k := 11) (lt_slot hw 11 (by decide)) W44
  have K44 : KN n0 h0 h44 := K43.trans (KN.wr W44 g_a1)
  have N44 := Fr.snoc X44 N42 g_a1
  have Z44 : n0 ≤ h44.size := Nat.le_trans Z43 (Keep.of_wr W44).1
  obtain ⟨T45, h45, k45, X45, e45, E45, A45, st45⟩ := newP X44 hx hZ (tw hw 15 rfl) e44 (g := (mkF m 160 #[vR a1, vI 2, vR a2, vR a3] [(.int (1 : Int32)), (.ref a1)])) rfl (hb hby d4_160) rfl (by decide) (cap := 1) (by decide) (by decide) (by decide) (by decide)
  obtain ⟨b45, g45⟩ : ∃ z, z = h44.size := ⟨_, rfl⟩
  rw [← g45] at A45 st45
  have g_b45 : n0 ≤ b45 := Nat.le_trans Z44 (Nat.le_of_eq g45.symm)
  have sz_b45 : h0.size ≤ b45 := (Nat.le_trans K44.1 (Nat.le_of_eq g45.symm))
  have V45 : AR Z h45 b45 .int 1 (fun _ => (.int (0 : Int32))) := (AR.new A45 (by decide) rfl)
  have K45 : KN n0 h0 h45 := K44.trans (KN.ext E45)
  have Z45 : n0 ≤ h45.size := Nat.le_trans Z44 E45.1
  have Op46 := (O44.ext E45)
  obtain ⟨T46, h46, X46, e46, W46, st46⟩ := putF X45 hx hZ hown (host := "") (Or.inl (tw hw 66 rfl)) Via.refl e45 (show Fld Z h45 a1 LTC "branchHeight" "[I" .null from Op46.2 12 (by decide)) Op46.1 (Or.inl (tw hw 67 rfl)) (tw hw 13 rfl) (ty := (.array .int)) (by decide) rfl rfl (g := (mkF m 162 #[vR a1, vI 2, vR a2, vR a3] [(.ref b45), (.ref a1)])) rfl rfl (hb hby d4_162)
  have O46 := Op46.put (k := 12) (lt_slot hw 12 (by decide)) W46
  have K46 : KN n0 h0 h46 := K45.trans (KN.wr W46 g_a1)
  have N46 := Fr.snoc X46 N44 g_a1
  have Z46 : n0 ≤ h46.size := Nat.le_trans Z45 (Keep.of_wr W46).1
  obtain ⟨T47, h47, k47, X47, e47, E47, A47, st47⟩ := newP X46 hx hZ (tw hw 15 rfl) e46 (g := (mkF m 167 #[vR a1, vI 2, vR a2, vR a3] [(.int (1 : Int32)), (.ref a1)])) rfl (hb hby d4_167) rfl (by decide) (cap := 1) (by decide) (by decide) (by decide) (by decide)
  obtain ⟨b47, g47⟩ : ∃ z, z = h46.size := ⟨_, rfl⟩
  rw [← g47] at A47 st47
  have g_b47 : n0 ≤ b47 := Nat.le_trans Z46 (Nat.le_of_eq g47.symm)
  have sz_b47 : h0.size ≤ b47 := (Nat.le_trans K46.1 (Nat.le_of_eq g47.symm))
  have V47 : AR Z h47 b47 .int 1 (fun _ => (.int (0 : Int32))) := (AR.new A47 (by decide) rfl)
  have K47 : KN n0 h0 h47 := K46.trans (KN.ext E47)
  have Z47 : n0 ≤ h47.size := Nat.le_trans Z46 E47.1
  have Op48 := (O46.ext E47)
  obtain ⟨T48, h48, X48, e48, W48, st48⟩ := putF X47 hx hZ hown (host := "") (Or.inl (tw hw 68 rfl)) Via.refl e47 (show Fld Z h47 a1 LTC "branchParent" "[I" .null from Op48.2 13 (by decide)) Op48.1 (Or.inl (tw hw 69 rfl)) (tw hw 13 rfl) (ty := (.array .int)) (by decide) rfl rfl (g := (mkF m 169 #[vR a1, vI 2, vR a2, vR a3] [(.ref b47), (.ref a1)])) rfl rfl (hb hby d4_169)
  have O48 := Op48.put (k := 13) (lt_slot hw 13 (by decide)) W48
  have K48 : KN n0 h0 h48 := K47.trans (KN.wr W48 g_a1)
  have N48 := Fr.snoc X48 N46 g_a1
  have Z48 : n0 ≤ h48.size := Nat.le_trans Z47 (Keep.of_wr W48).1
  obtain ⟨T49, h49, k49, X49, e49, E49, A49, st49⟩ := newP X48 hx hZ (tw hw 15 rfl) e48 (g := (mkF m 174 #[vR a1, vI 2, vR a2, vR a3] [(.int (1 : Int32)), (.ref a1)])) rfl (hb hby d4_174) rfl (by decide) (cap := 1) (by decide) (by decide) (by decide) (by decide)
  obtain ⟨b49, g49⟩ : ∃ z, z = h48.size := ⟨_, rfl⟩
  rw [← g49] at A49 st49
  have g_b49 : n0 ≤ b49 := Nat.le_trans Z48 (Nat.le_of_eq g49.symm)
  have sz_b49 : h0.size ≤ b49 := (Nat.le_trans K48.1 (Nat.le_of_eq g49.symm))
  have V49 : AR Z h49 b49 .int 1 (fun _ => (.int (0 : Int32))) := (AR.new A49 (by decide) rfl)
  have K49 : KN n0 h0 h49 := K48.trans (KN.ext E49)
  have Z49 : n0 ≤ h49.size := Nat.le_trans Z48 E49.1
  have Op50 := (O48.ext E49)
  obtain ⟨T50, h50, X50, e50, W50, st50⟩ := putF X49 hx hZ hown (host := "") (Or.inl (tw hw 70 rfl)) Via.refl e49 (show Fld Z h49 a1 LTC "branchSlot" "[I" .null from Op50.2 14 (by decide)) Op50.1 (Or.inl (tw hw 71 rfl)) (tw hw 13 rfl) (ty := (.array .int)) (by decide) rfl rfl (g := (mkF m 176 #[vR a1, vI 2, vR a2, vR a3] [(.ref b49), (.ref a1)])) rfl rfl (hb hby d4_176)
  have O50 := Op50.put (k := 14) (lt_slot hw 14 (by decide)) W50
  have K50 : KN n0 h0 h50 := K49.trans (KN.wr W50 g_a1)
  have N50 := Fr.snoc X50 N48 g_a1
  have Z50 : n0 ≤ h50.size := Nat.le_trans Z49 (Keep.of_wr W50).1
  obtain ⟨T51, h51, k51, X51, e51, E51, A51, st51⟩ := newP X50 hx hZ (tw hw 15 rfl) e50 (g := (mkF m 181 #[vR a1, vI 2, vR a2, vR a3] [(.int (1 : Int32)), (.ref a1)])) rfl (hb hby d4_181) rfl (by decide) (cap := 1) (by decide) (by decide) (by decide) (by decide)
  obtain ⟨b51, g51⟩ : ∃ z, z = h50.size := ⟨_, rfl⟩
  rw [← g51] at A51 st51
  have g_b51 : n0 ≤ b51 := Nat.le_trans Z50 (Nat.le_of_eq g51.symm)
  have sz_b51 : h0.size ≤ b51 := (Nat.le_trans K50.1 (Nat.le_of_eq g51.symm))
  have V51 : AR Z h51 b51 .int 1 (fun _ => (.int (0 : Int32))) := (AR.new A51 (by decide) rfl)
  have K51 : KN n0 h0 h51 := K50.trans (KN.ext E51)
  have Z51 : n0 ≤ h51.size := Nat.le_trans Z50 E51.1
  have Op52 := (O50.ext E51)
  obtain ⟨T52, h52, X52, e52, W52, st52⟩ := putF X51 hx hZ hown (host := "") (Or.inl (tw hw 72 rfl)) Via.refl e51 (show Fld Z h51 a1 LTC "freeBranches" "[I" .null from Op52.2 15 (by decide)) Op52.1 (Or.inl (tw hw 73 rfl)) (tw hw 13 rfl) (ty := (.array .int)) (by decide) rfl rfl (g := (mkF m 183 #[vR a1, vI 2, vR a2, vR a3] [(.ref b51), (.ref a1)])) rfl rfl (hb hby d4_183)
  have O52 := Op52.put (k := 15) (lt_slot hw 15 (by decide)) W52
  have K52 : KN n0 h0 h52 := K51.trans (KN.wr W52 g_a1)
  have N52 := Fr.snoc X52 N50 g_a1
  have Z52 : n0 ≤ h52.size := Nat.le_trans Z51 (Keep.of_wr W52).1
  obtain ⟨fs, hr, hrun, hended, hW, hsame⟩ := X52.leave (v := none) (fun _ => rfl)
  refine ⟨_, _, pre0 _ (?_), hrun, hended, _, _, rfl, ?_, ⟨_, rfl⟩, hW, hsame.mono (by decide) (by decide)⟩
  · show Steps p.tables e below (s₁.setTop (mkF m 0 #[vR a1, vI 2, vR a2, vR a3] [])) _
    refine XS.aloadN X0.here hx rfl (hb hby d4_0) rfl rfl ?_
    refine st1 _ ?_
    refine XS.aloadN X1.here hx rfl (hb hby d4_4) rfl rfl ?_
    refine XS.aloadN X1.here hx rfl (hb hby d4_5) rfl rfl ?_
    refine st2 _ ?_
    refine XS.aloadN X2.here hx rfl (hb hby d4_9) rfl rfl ?_
    refine XS.aloadN X2.here hx rfl (hb hby d4_10) rfl rfl ?_
    refine st3 _ ?_
    refine XS.aloadN X3.here hx rfl (hb hby d4_14) rfl rfl ?_
    refine XS.aloadN X3.here hx rfl (hb hby d4_15) rfl rfl ?_
    refine own_len X3 hx hZ e3 f4 (z := (3 : Int32)) rfl (g := (mkF m 16 #[vR a1, vI 2, vR a2, vR a3] [(.ref a2), (.ref a1)])) rfl rfl (hb hby d4_16) _ ?_
    refine st5 _ ?_
    show Steps p.tables e below (T5.setTop (mkF m 19 #[vR a1, vI 2, vR a2, vR a3] [(.ref b5), (.ref a1)])) _
    refine st6 _ ?_
    refine XS.aloadN X6.here hx rfl (hb hby d4_22) rfl rfl ?_
    refine st7 _ ?_
    refine XS.iconst X7.here hx rfl (hb hby d4_26) ?_
    refine st8 _ ?_
    refine XS.aloadN X8.here hx rfl (hb hby d4_30) rfl rfl ?_
    refine XS.iloadN X8.here hx rfl (hb hby d4_31) rfl ?_
    refine st10 _ ?_
    refine st11 _ ?_
    refine XS.aloadN X11.here hx rfl (hb hby d4_37) rfl rfl ?_
    refine st12 _ ?_
    refine XS.iconst X12.here hx rfl (hb hby d4_41) ?_
    show Steps p.tables e below (T12.setTop (mkF m 42 #[vR a1, vI 2, vR a2, vR a3] [(.int (-1 : Int32)), (.ref b10)])) _
    refine st13 _ ?_
    refine XS.aloadN X13.here hx rfl (hb hby d4_45) rfl rfl ?_
    refine XS.iconst X13.here hx rfl (hb hby d4_46) ?_
    refine st15 _ ?_
    refine st16 _ ?_
    refine XS.aloadN X16.here hx rfl (hb hby d4_53) rfl rfl ?_
    refine XS.iconst X16.here hx rfl (hb hby d4_54) ?_
    refine st17 _ ?_
    refine st18 _ ?_
    refine XS.aloadN X18.here hx rfl (hb hby d4_60) rfl rfl ?_
    refine XS.iconst X18.here hx rfl (hb hby d4_61) ?_
    refine st19 _ ?_
    show Steps p.tables e below (T19.setTop (mkF m 64 #[vR a1, vI 2, vR a2, vR a3] [(.ref b19), (.ref a1)])) _
    refine st20 _ ?_
    refine XS.aloadN X20.here hx rfl (hb hby d4_67) rfl rfl ?_
    refine XS.iconst X20.here hx rfl (hb hby d4_68) ?_
    refine st21 _ ?_
    refine st22 _ ?_
    refine XS.aloadN X22.here hx rfl (hb hby d4_74) rfl rfl ?_
    refine XS.iconst X22.here hx rfl (hb hby d4_75) ?_
    refine st23 _ ?_
    refine st24 _ ?_
    refine XS.aloadN X24.here hx rfl (hb hby d4_81) rfl rfl ?_
    refine XS.iconst X24.here hx rfl (hb hby d4_82) ?_
    refine st25 _ ?_
    show Steps p.tables e below (T25.setTop (mkF m 85 #[vR a1, vI 2, vR a2, vR a3] [(.ref b25), (.ref a1)])) _
    refine st26 _ ?_
    refine XS.aloadN X26.here hx rfl (hb hby d4_88) rfl rfl ?_
    refine XS.iconst X26.here hx rfl (hb hby d4_89) ?_
    refine st27 _ ?_
    refine st28 _ ?_
    refine XS.aloadN X28.here hx rfl (hb hby d4_95) rfl rfl ?_
    refine XS.bipush X28.here hx rfl (hb hby d4_96) ?_
    refine st29 _ ?_
    refine st30 _ ?_
    refine XS.aloadN X30.here hx rfl (hb hby d4_103) rfl rfl ?_
    refine XS.bipush X30.here hx rfl (hb hby d4_104) ?_
    refine st31 _ ?_
    show Steps p.tables e below (T31.setTop (mkF m 108 #[vR a1, vI 2, vR a2, vR a3] [(.ref b31), (.ref a1)])) _
    refine st32 _ ?_
    refine XS.aloadN X32.here hx rfl (hb hby d4_111) rfl rfl ?_
    refine XS.bipush X32.here hx rfl (hb hby d4_112) ?_
    refine st33 _ ?_
    refine st34 _ ?_
    refine XS.aloadN X34.here hx rfl (hb hby d4_119) rfl rfl ?_
    refine XS.bipush X34.here hx rfl (hb hby d4_120) ?_
    refine st35 _ ?_
    refine st36 _ ?_
    refine XS.aloadN X36.here hx rfl (hb hby d4_127) rfl rfl ?_
    refine XS.bipush X36.here hx rfl (hb hby d4_128) ?_
    refine st37 _ ?_
    show Steps p.tables e below (T37.setTop (mkF m 132 #[vR a1, vI 2, vR a2, vR a3] [(.ref b37), (.ref a1)])) _
    refine st38 _ ?_
    refine XS.aloadN X38.here hx rfl (hb hby d4_135) rfl rfl ?_
    refine XS.bipush X38.here hx rfl (hb hby d4_136) ?_
    refine st39 _ ?_
    refine st40 _ ?_
    refine XS.aloadN X40.here hx rfl (hb hby d4_143) rfl rfl ?_
    refine XS.bipush X40.here hx rfl (hb hby d4_144) ?_
    refine st41 _ ?_
    refine st42 _ ?_
    refine XS.aloadN X42.here hx rfl (hb hby d4_151) rfl rfl ?_
    refine XS.iconst X42.here hx rfl (hb hby d4_152) ?_
    refine st43 _ ?_
    show Steps p.tables e below (T43.setTop (mkF m 155 #[vR a1, vI 2, vR a2, vR a3] [(.ref b43), (.ref a1)])) _
    refine st44 _ ?_
    refine XS.aloadN X44.here hx rfl (hb hby d4_158) rfl rfl ?_
    refine XS.iconst X44.here hx rfl (hb hby d4_159) ?_
    refine st45 _ ?_
    refine st46 _ ?_
    refine XS.aloadN X46.here hx rfl (hb hby d4_165) rfl rfl ?_
    refine XS.iconst X46.here hx rfl (hb hby d4_166) ?_
    refine st47 _ ?_
    refine st48 _ ?_
    refine XS.aloadN X48.here hx rfl (hb hby d4_172) rfl rfl ?_
    refine XS.iconst X48.here hx rfl (hb hby d4_173) ?_
    refine st49 _ ?_
    show Steps p.tables e below (T49.setTop (mkF m 176 #[vR a1, vI 2, vR a2, vR a3] [(.ref b49), (.ref a1)])) _
    refine st50 _ ?_
    refine XS.aloadN X50.here hx rfl (hb hby d4_179) rfl rfl ?_
    refine XS.iconst X50.here hx rfl (hb hby d4_180) ?_
    refine st51 _ ?_
    refine st52 _ ?_
    show Steps p.tables e below (T52.setTop (mkF m 186 #[vR a1, vI 2, vR a2, vR a3] [])) _
    exact X52.returnOut hx Bd.returns (hb hby d4_186) hr
  have OBz := O52
  have hG : ∀ i, i + 1 < 23 → (fun i => ([a2, a3, b5, b10, b15, b17, b19, b21, b23, b25, b27, b29, b31, b33, b35, b37, b39, b41, b43, b45, b47, b49, b51].getD i 0 : Nat)) i < (fun i => ([a2, a3, b5, b10, b15, b17, b19, b21, b23, b25, b27, b29, b31, b33, b35, b37, b39, b41, b43, b45, b47, b49, b51].getD i 0 : Nat)) (i + 1) := fun i hi => match i, hi with
    | 0, _ => la23
    | 1, _ => Nat.lt_of_lt_of_le ((Va3.other W2 (Ne.symm (Nat.ne_of_lt (Nat.lt_trans la12 la23)))).other W3 (Ne.symm (Nat.ne_of_lt (Nat.lt_trans la12 la23)))).lt (Nat.le_of_eq g5.symm)
    | 2, _ => Nat.lt_of_lt_of_le V8q.lt (Nat.le_of_eq g10.symm)
    | 3, _ => Nat.lt_of_lt_of_le V13q.lt (Nat.le_of_eq g15.symm)
    | 4, _ => Nat.lt_of_lt_of_le (V15.other W16 (Nat.ne_of_gt (Nat.lt_of_lt_of_le ha1 sz_b15))).lt (Nat.le_of_eq g17.symm)
    | 5, _ => Nat.lt_of_lt_of_le (V17.other W18 (Nat.ne_of_gt (Nat.lt_of_lt_of_le ha1 sz_b17))).lt (Nat.le_of_eq g19.symm)
    | 6, _ => Nat.lt_of_lt_of_le (V19.other W20 (Nat.ne_of_gt (Nat.lt_of_lt_of_le ha1 sz_b19))).lt (Nat.le_of_eq g21.symm)
    | 7, _ => Nat.lt_of_lt_of_le (V21.other W22 (Nat.ne_of_gt (Nat.lt_of_lt_of_le ha1 sz_b21))).lt (Nat.le_of_eq g23.symm)
    | 8, _ => Nat.lt_of_lt_of_le (V23.other W24 (Nat.ne_of_gt (Nat.lt_of_lt_of_le ha1 sz_b23))).lt (Nat.le_of_eq g25.symm)
    | 9, _ => Nat.lt_of_lt_of_le (V25.other W26 (Nat.ne_of_gt (Nat.lt_of_lt_of_le ha1 sz_b25))).lt (Nat.le_of_eq g27.symm)
    | 10, _ => Nat.lt_of_lt_of_le (V27.other W28 (Nat.ne_of_gt (Nat.lt_of_lt_of_le ha1 sz_b27))).lt (Nat.le_of_eq g29.symm)
    | 11, _ => Nat.lt_of_lt_of_le (V29.other W30 (Nat.ne_of_gt (Nat.lt_of_lt_of_le ha1 sz_b29))).lt (Nat.le_of_eq g31.symm)
    | 12, _ => Nat.lt_of_lt_of_le (V31.other W32 (Nat.ne_of_gt (Nat.lt_of_lt_of_le ha1 sz_b31))).lt (Nat.le_of_eq g33.symm)
    | 13, _ => Nat.lt_of_lt_of_le (V33.other W34 (Nat.ne_of_gt (Nat.lt_of_lt_of_le ha1 sz_b33))).lt (Nat.le_of_eq g35.symm)
    | 14, _ => Nat.lt_of_lt_of_le (V35.other W36 (Nat.ne_of_gt (Nat.lt_of_lt_of_le ha1 sz_b35))).lt (Nat.le_of_eq g37.symm)
    | 15, _ => Nat.lt_of_lt_of_le (V37.other W38 (Nat.ne_of_gt (Nat.lt_of_lt_of_le ha1 sz_b37))).lt (Nat.le_of_eq g39.symm)
    | 16, _ => Nat.lt_of_lt_of_le (V39.other W40 (Nat.ne_of_gt (Nat.lt_of_lt_of_le ha1 sz_b39))).lt (Nat.le_of_eq g41.symm)
    | 17, _ => Nat.lt_of_lt_of_le (V41.other W42 (Nat.ne_of_gt (Nat.lt_of_lt_of_le ha1 sz_b41))).lt (Nat.le_of_eq g43.symm)
    | 18, _ => Nat.lt_of_lt_of_le (V43.other W44 (Nat.ne_of_gt (Nat.lt_of_lt_of_le ha1 sz_b43))).lt (Nat.le_of_eq g45.symm)
    | 19, _ => Nat.lt_of_lt_of_le (V45.other W46 (Nat.ne_of_gt (Nat.lt_of_lt_of_le ha1 sz_b45))).lt (Nat.le_of_eq g47.symm)
    | 20, _ => Nat.lt_of_lt_of_le (V47.other W48 (Nat.ne_of_gt (Nat.lt_of_lt_of_le ha1 sz_b47))).lt (Nat.le_of_eq g49.symm)
    | 21, _ => Nat.lt_of_lt_of_le (V49.other W50 (Nat.ne_of_gt (Nat.lt_of_lt_of_le ha1 sz_b49))).lt (Nat.le_of_eq g51.symm)
    | n + 22, h => absurd h (by omega)
  have ne53 : a2 ≠ b5 := (Nat.ne_of_lt (Nat.lt_of_lt_of_le f4.lt (Nat.le_of_eq g5.symm)))
  have ne54 : a2 ≠ b10 := (Nat.ne_of_lt (Nat.lt_of_lt_of_le (((f4.ext E5).other W6 (Ne.symm (Nat.ne_of_lt la12))).keep K8r (ninS ne53 nin0)).lt (Nat.le_of_eq g10.symm)))
  have f55 := ((((((((((((((((((((((((((((((((((((((((((((f4.ext E5).other W6 (Ne.symm (Nat.ne_of_lt la12))).keep K8r (ninS ne53 nin0)).ext E10).other W11 (Ne.symm (Nat.ne_of_lt la12))).keep K13r (ninS ne54 nin0)).ext E15).other W16 (Ne.symm (Nat.ne_of_lt la12))).ext E17).other W18 (Ne.symm (Nat.ne_of_lt la12))).ext E19).other W20 (Ne.symm (Nat.ne_of_lt la12))).ext E21).other W22 (Ne.symm (Nat.ne_of_lt la12))).ext E23).other W24 (Ne.symm (Nat.ne_of_lt la12))).ext E25).other W26 (Ne.symm (Nat.ne_of_lt la12))).ext E27).other W28 (Ne.symm (Nat.ne_of_lt la12))).ext E29).other W30 (Ne.symm (Nat.ne_of_lt la12))).ext E31).other W32 (Ne.symm (Nat.ne_of_lt la12))).ext E33).other W34 (Ne.symm (Nat.ne_of_lt la12))).ext E35).other W36 (Ne.symm (Nat.ne_of_lt la12))).ext E37).other W38 (Ne.symm (Nat.ne_of_lt la12))).ext E39).other W40 (Ne.symm (Nat.ne_of_lt la12))).ext E41).other W42 (Ne.symm (Nat.ne_of_lt la12))).ext E43).other W44 (Ne.symm (Nat.ne_of_lt la12))).ext E45).other W46 (Ne.symm (Nat.ne_of_lt la12))).ext E47).other W48 (Ne.symm (Nat.ne_of_lt la12))).ext E49).other W50 (Ne.symm (Nat.ne_of_lt la12))).ext E51).other W52 (Ne.symm (Nat.ne_of_lt la12)))
  have Z_0 := f55
  have ne56 : b5 ≠ b10 := (Nat.ne_of_lt (Nat.lt_of_lt_of_le V8q.lt (Nat.le_of_eq g10.symm)))
  have f57 := (((((((((((((((((((((((((((((((((((((((((V8q.ext E10).other W11 (Nat.ne_of_gt (Nat.lt_of_lt_of_le ha1 sz_b5))).keep K13r (ninS ne56 nin0)).ext E15).other W16 (Nat.ne_of_gt (Nat.lt_of_lt_of_le ha1 sz_b5))).ext E17).other W18 (Nat.ne_of_gt (Nat.lt_of_lt_of_le ha1 sz_b5))).ext E19).other W20 (Nat.ne_of_gt (Nat.lt_of_lt_of_le ha1 sz_b5))).ext E21).other W22 (Nat.ne_of_gt (Nat.lt_of_lt_of_le ha1 sz_b5))).ext E23).other W24 (Nat.ne_of_gt (Nat.lt_of_lt_of_le ha1 sz_b5))).ext E25).other W26 (Nat.ne_of_gt (Nat.lt_of_lt_of_le ha1 sz_b5))).ext E27).other W28 (Nat.ne_of_gt (Nat.lt_of_lt_of_le ha1 sz_b5))).ext E29).other W30 (Nat.ne_of_gt (Nat.lt_of_lt_of_le ha1 sz_b5))).ext E31).other W32 (Nat.ne_of_gt (Nat.lt_of_lt_of_le ha1 sz_b5))).ext E33).other W34 (Nat.ne_of_gt (Nat.lt_of_lt_of_le ha1 sz_b5))).ext E35).other W36 (Nat.ne_of_gt (Nat.lt_of_lt_of_le ha1 sz_b5))).ext E37).other W38 (Nat.ne_of_gt (Nat.lt_of_lt_of_le ha1 sz_b5))).ext E39).other W40 (Nat.ne_of_gt (Nat.lt_of_lt_of_le ha1 sz_b5))).ext E41).other W42 (Nat.ne_of_gt (Nat.lt_of_lt_of_le ha1 sz_b5))).ext E43).other W44 (Nat.ne_of_gt (Nat.lt_of_lt_of_le ha1 sz_b5))).ext E45).other W46 (Nat.ne_of_gt (Nat.lt_of_lt_of_le ha1 sz_b5))).ext E47).other W48 (Nat.ne_of_gt (Nat.lt_of_lt_of_le ha1 sz_b5))).ext E49).other W50 (Nat.ne_of_gt (Nat.lt_of_lt_of_le ha1 sz_b5))).ext E51).other W52 (Nat.ne_of_gt (Nat.lt_of_lt_of_le ha1 sz_b5)))
  have Z_1 := f57
  have f58 := ((((((((((((((((((((((((((((((((((((((V13q.ext E15).other W16 (Nat.ne_of_gt (Nat.lt_of_lt_of_le ha1 sz_b10))).ext E17).other W18 (Nat.ne_of_gt (Nat.lt_of_lt_of_le ha1 sz_b10))).ext E19).other W20 (Nat.ne_of_gt (Nat.lt_of_lt_of_le ha1 sz_b10))).ext E21).other W22 (Nat.ne_of_gt (Nat.lt_of_lt_of_le ha1 sz_b10))).ext E23).other W24 (Nat.ne_of_gt (Nat.lt_of_lt_of_le ha1 sz_b10))).ext E25).other W26 (Nat.ne_of_gt (Nat.lt_of_lt_of_le ha1 sz_b10))).ext E27).other W28 (Nat.ne_of_gt (Nat.lt_of_lt_of_le ha1 sz_b10))).ext E29).other W30 (Nat.ne_of_gt (Nat.lt_of_lt_of_le ha1 sz_b10))).ext E31).other W32 (Nat.ne_of_gt (Nat.lt_of_lt_of_le ha1 sz_b10))).ext E33).other W34 (Nat.ne_of_gt (Nat.lt_of_lt_of_le ha1 sz_b10))).ext E35).other W36 (Nat.ne_of_gt (Nat.lt_of_lt_of_le ha1 sz_b10))).ext E37).other W38 (Nat.ne_of_gt (Nat.lt_of_lt_of_le ha1 sz_b10))).ext E39).other W40 (Nat.ne_of_gt (Nat.lt_of_lt_of_le ha1 sz_b10))).ext E41).other W42 (Nat.ne_of_gt (Nat.lt_of_lt_of_le ha1 sz_b10))).ext E43).other W44 (Nat.ne_of_gt (Nat.lt_of_lt_of_le ha1 sz_b10))).ext E45).other W46 (Nat.ne_of_gt (Nat.lt_of_lt_of_le ha1 sz_b10))).ext E47).other W48 (Nat.ne_of_gt (Nat.lt_of_lt_of_le ha1 sz_b10))).ext E49).other W50 (Nat.ne_of_gt (Nat.lt_of_lt_of_le ha1 sz_b10))).ext E51).other W52 (Nat.ne_of_gt (Nat.lt_of_lt_of_le ha1 sz_b10)))
  have Z_2 := f58
  have f59 := (((((((((((((((((((((((((((((((((((V17.other W18 (Nat.ne_of_gt (Nat.lt_of_lt_of_le ha1 sz_b17))).ext E19).other W20 (Nat.ne_of_gt (Nat.lt_of_lt_of_le ha1 sz_b17))).ext E21).other W22 (Nat.ne_of_gt (Nat.lt_of_lt_of_le ha1 sz_b17))).ext E23).other W24 (Nat.ne_of_gt (Nat.lt_of_lt_of_le ha1 sz_b17))).ext E25).other W26 (Nat.ne_of_gt (Nat.lt_of_lt_of_le ha1 sz_b17))).ext E27).other W28 (Nat.ne_of_gt (Nat.lt_of_lt_of_le ha1 sz_b17))).ext E29).other W30 (Nat.ne_of_gt (Nat.lt_of_lt_of_le ha1 sz_b17))).ext E31).other W32 (Nat.ne_of_gt (Nat.lt_of_lt_of_le ha1 sz_b17))).ext E33).other W34 (Nat.ne_of_gt (Nat.lt_of_lt_of_le ha1 sz_b17))).ext E35).other W36 (Nat.ne_of_gt (Nat.lt_of_lt_of_le ha1 sz_b17))).ext E37).other W38 (Nat.ne_of_gt (Nat.lt_of_lt_of_le ha1 sz_b17))).ext E39).other W40 (Nat.ne_of_gt (Nat.lt_of_lt_of_le ha1 sz_b17))).ext E41).other W42 (Nat.ne_of_gt (Nat.lt_of_lt_of_le ha1 sz_b17))).ext E43).other W44 (Nat.ne_of_gt (Nat.lt_of_lt_of_le ha1 sz_b17))).ext E45).other W46 (Nat.ne_of_gt (Nat.lt_of_lt_of_le ha1 sz_b17))).ext E47).other W48 (Nat.ne_of_gt (Nat.lt_of_lt_of_le ha1 sz_b17))).ext E49).other W50 (Nat.ne_of_gt (Nat.lt_of_lt_of_le ha1 sz_b17))).ext E51).other W52 (Nat.ne_of_gt (Nat.lt_of_lt_of_le ha1 sz_b17)))
  have Z_3 := f59
  have f60 := (((((((((((((((((((((((((((((V23.other W24 (Nat.ne_of_gt (Nat.lt_of_lt_of_le ha1 sz_b23))).ext E25).other W26 (Nat.ne_of_gt (Nat.lt_of_lt_of_le ha1 sz_b23))).ext E27).other W28 (Nat.ne_of_gt (Nat.lt_of_lt_of_le ha1 sz_b23))).ext E29).other W30 (Nat.ne_of_gt (Nat.lt_of_lt_of_le ha1 sz_b23))).ext E31).other W32 (Nat.ne_of_gt (Nat.lt_of_lt_of_le ha1 sz_b23))).ext E33).other W34 (Nat.ne_of_gt (Nat.lt_of_lt_of_le ha1 sz_b23))).ext E35).other W36 (Nat.ne_of_gt (Nat.lt_of_lt_of_le ha1 sz_b23))).ext E37).other W38 (Nat.ne_of_gt (Nat.lt_of_lt_of_le ha1 sz_b23))).ext E39).other W40 (Nat.ne_of_gt (Nat.lt_of_lt_of_le ha1 sz_b23))).ext E41).other W42 (Nat.ne_of_gt (Nat.lt_of_lt_of_le ha1 sz_b23))).ext E43).other W44 (Nat.ne_of_gt (Nat.lt_of_lt_of_le ha1 sz_b23))).ext E45).other W46 (Nat.ne_of_gt (Nat.lt_of_lt_of_le ha1 sz_b23))).ext E47).other W48 (Nat.ne_of_gt (Nat.lt_of_lt_of_le ha1 sz_b23))).ext E49).other W50 (Nat.ne_of_gt (Nat.lt_of_lt_of_le ha1 sz_b23))).ext E51).other W52 (Nat.ne_of_gt (Nat.lt_of_lt_of_le ha1 sz_b23)))
  have Z_4 := f60
  have f61 := (((((((((((((((((((((((((((V25.other W26 (Nat.ne_of_gt (Nat.lt_of_lt_of_le ha1 sz_b25))).ext E27).other W28 (Nat.ne_of_gt (Nat.lt_of_lt_of_le ha1 sz_b25))).ext E29).other W30 (Nat.ne_of_gt (Nat.lt_of_lt_of_le ha1 sz_b25))).ext E31).other W32 (Nat.ne_of_gt (Nat.lt_of_lt_of_le ha1 sz_b25))).ext E33).other W34 (Nat.ne_of_gt (Nat.lt_of_lt_of_le ha1 sz_b25))).ext E35).other W36 (Nat.ne_of_gt (Nat.lt_of_lt_of_le ha1 sz_b25))).ext E37).other W38 (Nat.ne_of_gt (Nat.lt_of_lt_of_le ha1 sz_b25))).ext E39).other W40 (Nat.ne_of_gt (Nat.lt_of_lt_of_le ha1 sz_b25))).ext E41).other W42 (Nat.ne_of_gt (Nat.lt_of_lt_of_le ha1 sz_b25))).ext E43).other W44 (Nat.ne_of_gt (Nat.lt_of_lt_of_le ha1 sz_b25))).ext E45).other W46 (Nat.ne_of_gt (Nat.lt_of_lt_of_le ha1 sz_b25))).ext E47).other W48 (Nat.ne_of_gt (Nat.lt_of_lt_of_le ha1 sz_b25))).ext E49).other W50 (Nat.ne_of_gt (Nat.lt_of_lt_of_le ha1 sz_b25))).ext E51).other W52 (Nat.ne_of_gt (Nat.lt_of_lt_of_le ha1 sz_b25)))
  have Z_5 := f61
  have f62 := (((((((((((((((((((((((((V27.other W28 (Nat.ne_of_gt (Nat.lt_of_lt_of_le ha1 sz_b27))).ext E29).other W30 (Nat.ne_of_gt (Nat.lt_of_lt_of_le ha1 sz_b27))).ext E31).other W32 (Nat.ne_of_gt (Nat.lt_of_lt_of_le ha1 sz_b27))).ext E33).other W34 (Nat.ne_of_gt (Nat.lt_of_lt_of_le ha1 sz_b27))).ext E35).other W36 (Nat.ne_of_gt (Nat.lt_of_lt_of_le ha1 sz_b27))).ext E37).other W38 (Nat.ne_of_gt (Nat.lt_of_lt_of_le ha1 sz_b27))).ext E39).other W40 (Nat.ne_of_gt (Nat.lt_of_lt_of_le ha1 sz_b27))).ext E41).other W42 (Nat.ne_of_gt (Nat.lt_of_lt_of_le ha1 sz_b27))).ext E43).other W44 (Nat.ne_of_gt (Nat.lt_of_lt_of_le ha1 sz_b27))).ext E45).other W46 (Nat.ne_of_gt (Nat.lt_of_lt_of_le ha1 sz_b27))).ext E47).other W48 (Nat.ne_of_gt (Nat.lt_of_lt_of_le ha1 sz_b27))).ext E49).other W50 (Nat.ne_of_gt (Nat.lt_of_lt_of_le ha1 sz_b27))).ext E51).other W52 (Nat.ne_of_gt (Nat.lt_of_lt_of_le ha1 sz_b27)))
  have Z_6 := f62
  have f63 := (((((((((((((((((((((((V29.other W30 (Nat.ne_of_gt (Nat.lt_of_lt_of_le ha1 sz_b29))).ext E31).other W32 (Nat.ne_of_gt (Nat.lt_of_lt_of_le ha1 sz_b29))).ext E33).other W34 (Nat.ne_of_gt (Nat.lt_of_lt_of_le ha1 sz_b29))).ext E35).other W36 (Nat.ne_of_gt (Nat.lt_of_lt_of_le ha1 sz_b29))).ext E37).other W38 (Nat.ne_of_gt (Nat.lt_of_lt_of_le ha1 sz_b29))).ext E39).other W40 (Nat.ne_of_gt (Nat.lt_of_lt_of_le ha1 sz_b29))).ext E41).other W42 (Nat.ne_of_gt (Nat.lt_of_lt_of_le ha1 sz_b29))).ext E43).other W44 (Nat.ne_of_gt (Nat.lt_of_lt_of_le ha1 sz_b29))).ext E45).other W46 (Nat.ne_of_gt (Nat.lt_of_lt_of_le ha1 sz_b29))).ext E47).other W48 (Nat.ne_of_gt (Nat.lt_of_lt_of_le ha1 sz_b29))).ext E49).other W50 (Nat.ne_of_gt (Nat.lt_of_lt_of_le ha1 sz_b29))).ext E51).other W52 (Nat.ne_of_gt (Nat.lt_of_lt_of_le ha1 sz_b29)))
  have Z_7 := f63
  have f64 := (((((((((((((((((((((V31.other W32 (Nat.ne_of_gt (Nat.lt_of_lt_of_le ha1 sz_b31))).ext E33).other W34 (Nat.ne_of_gt (Nat.lt_of_lt_of_le ha1 sz_b31))).ext E35).other W36 (Nat.ne_of_gt (Nat.lt_of_lt_of_le ha1 sz_b31))).ext E37).other W38 (Nat.ne_of_gt (Nat.lt_of_lt_of_le ha1 sz_b31))).ext E39).other W40 (Nat.ne_of_gt (Nat.lt_of_lt_of_le ha1 sz_b31))).ext E41).other W42 (Nat.ne_of_gt (Nat.lt_of_lt_of_le ha1 sz_b31))).ext E43).other W44 (Nat.ne_of_gt (Nat.lt_of_lt_of_le ha1 sz_b31))).ext E45).other W46 (Nat.ne_of_gt (Nat.lt_of_lt_of_le ha1 sz_b31))).ext E47).other W48 (Nat.ne_of_gt (Nat.lt_of_lt_of_le ha1 sz_b31))).ext E49).other W50 (Nat.ne_of_gt (Nat.lt_of_lt_of_le ha1 sz_b31))).ext E51).other W52 (Nat.ne_of_gt (Nat.lt_of_lt_of_le ha1 sz_b31)))
  have Z_8 := f64
  have f65 := (((((((((((((((((((V33.other W34 (Nat.ne_of_gt (Nat.lt_of_lt_of_le ha1 sz_b33))).ext E35).other W36 (Nat.ne_of_gt (Nat.lt_of_lt_of_le ha1 sz_b33))).ext E37).other W38 (Nat.ne_of_gt (Nat.lt_of_lt_of_le ha1 sz_b33))).ext E39).other W40 (Nat.ne_of_gt (Nat.lt_of_lt_of_le ha1 sz_b33))).ext E41).other W42 (Nat.ne_of_gt (Nat.lt_of_lt_of_le ha1 sz_b33))).ext E43).other W44 (Nat.ne_of_gt (Nat.lt_of_lt_of_le ha1 sz_b33))).ext E45).other W46 (Nat.ne_of_gt (Nat.lt_of_lt_of_le ha1 sz_b33))).ext E47).other W48 (Nat.ne_of_gt (Nat.lt_of_lt_of_le ha1 sz_b33))).ext E49).other W50 (Nat.ne_of_gt (Nat.lt_of_lt_of_le ha1 sz_b33))).ext E51).other W52 (Nat.ne_of_gt (Nat.lt_of_lt_of_le ha1 sz_b33)))
  have Z_9 := f65
  have f66 := (((((((((((V41.other W42 (Nat.ne_of_gt (Nat.lt_of_lt_of_le ha1 sz_b41))).ext E43).other W44 (Nat.ne_of_gt (Nat.lt_of_lt_of_le ha1 sz_b41))).ext E45).other W46 (Nat.ne_of_gt (Nat.lt_of_lt_of_le ha1 sz_b41))).ext E47).other W48 (Nat.ne_of_gt (Nat.lt_of_lt_of_le ha1 sz_b41))).ext E49).other W50 (Nat.ne_of_gt (Nat.lt_of_lt_of_le ha1 sz_b41))).ext E51).other W52 (Nat.ne_of_gt (Nat.lt_of_lt_of_le ha1 sz_b41)))
  have Z_10 := f66
  have f67 := (((((((((V43.other W44 (Nat.ne_of_gt (Nat.lt_of_lt_of_le ha1 sz_b43))).ext E45).other W46 (Nat.ne_of_gt (Nat.lt_of_lt_of_le ha1 sz_b43))).ext E47).other W48 (Nat.ne_of_gt (Nat.lt_of_lt_of_le ha1 sz_b43))).ext E49).other W50 (Nat.ne_of_gt (Nat.lt_of_lt_of_le ha1 sz_b43))).ext E51).other W52 (Nat.ne_of_gt (Nat.lt_of_lt_of_le ha1 sz_b43)))
  have Z_11 := f67
  have f68 := (((((((V45.other W46 (Nat.ne_of_gt (Nat.lt_of_lt_of_le ha1 sz_b45))).ext E47).other W48 (Nat.ne_of_gt (Nat.lt_of_lt_of_le ha1 sz_b45))).ext E49).other W50 (Nat.ne_of_gt (Nat.lt_of_lt_of_le ha1 sz_b45))).ext E51).other W52 (Nat.ne_of_gt (Nat.lt_of_lt_of_le ha1 sz_b45)))
  have Z_12 := f68
  have f69 := (((((V47.other W48 (Nat.ne_of_gt (Nat.lt_of_lt_of_le ha1 sz_b47))).ext E49).other W50 (Nat.ne_of_gt (Nat.lt_of_lt_of_le ha1 sz_b47))).ext E51).other W52 (Nat.ne_of_gt (Nat.lt_of_lt_of_le ha1 sz_b47)))
  have Z_13 := f69
  have f70 := (((V49.other W50 (Nat.ne_of_gt (Nat.lt_of_lt_of_le ha1 sz_b49))).ext E51).other W52 (Nat.ne_of_gt (Nat.lt_of_lt_of_le ha1 sz_b49)))
  have Z_14 := f70
  have f71 := (V51.other W52 (Nat.ne_of_gt (Nat.lt_of_lt_of_le ha1 sz_b51)))
  have Z_15 := f71
  have ne72 : a3 ≠ b5 := (Nat.ne_of_lt (Nat.lt_of_lt_of_le ((Va3.other W2 (Ne.symm (Nat.ne_of_lt (Nat.lt_trans la12 la23)))).other W3 (Ne.symm (Nat.ne_of_lt (Nat.lt_trans la12 la23)))).lt (Nat.le_of_eq g5.symm)))
  have ne73 : a3 ≠ b10 := (Nat.ne_of_lt (Nat.lt_of_lt_of_le (((((Va3.other W2 (Ne.symm (Nat.ne_of_lt (Nat.lt_trans la12 la23)))).other W3 (Ne.symm (Nat.ne_of_lt (Nat.lt_trans la12 la23)))).ext E5).other W6 (Ne.symm (Nat.ne_of_lt (Nat.lt_trans la12 la23)))).keep K8r (ninS ne72 nin0)).lt (Nat.le_of_eq g10.symm)))
  have f74 := ((((((((((((((((((((((((((((((((((((((((((((((Va3.other W2 (Ne.symm (Nat.ne_of_lt (Nat.lt_trans la12 la23)))).other W3 (Ne.symm (Nat.ne_of_lt (Nat.lt_trans la12 la23)))).ext E5).other W6 (Ne.symm (Nat.ne_of_lt (Nat.lt_trans la12 la23)))).keep K8r (ninS ne72 nin0)).ext E10).other W11 (Ne.symm (Nat.ne_of_lt (Nat.lt_trans la12 la23)))).keep K13r (ninS ne73 nin0)).ext E15).other W16 (Ne.symm (Nat.ne_of_lt (Nat.lt_trans la12 la23)))).ext E17).other W18 (Ne.symm (Nat.ne_of_lt (Nat.lt_trans la12 la23)))).ext E19).other W20 (Ne.symm (Nat.ne_of_lt (Nat.lt_trans la12 la23)))).ext E21).other W22 (Ne.symm (Nat.ne_of_lt (Nat.lt_trans la12 la23)))).ext E23).other W24 (Ne.symm (Nat.ne_of_lt (Nat.lt_trans la12 la23)))).ext E25).other W26 (Ne.symm (Nat.ne_of_lt (Nat.lt_trans la12 la23)))).ext E27).other W28 (Ne.symm (Nat.ne_of_lt (Nat.lt_trans la12 la23)))).ext E29).other W30 (Ne.symm (Nat.ne_of_lt (Nat.lt_trans la12 la23)))).ext E31).other W32 (Ne.symm (Nat.ne_of_lt (Nat.lt_trans la12 la23)))).ext E33).other W34 (Ne.symm (Nat.ne_of_lt (Nat.lt_trans la12 la23)))).ext E35).other W36 (Ne.symm (Nat.ne_of_lt (Nat.lt_trans la12 la23)))).ext E37).other W38 (Ne.symm (Nat.ne_of_lt (Nat.lt_trans la12 la23)))).ext E39).other W40 (Ne.symm (Nat.ne_of_lt (Nat.lt_trans la12 la23)))).ext E41).other W42 (Ne.symm (Nat.ne_of_lt (Nat.lt_trans la12 la23)))).ext E43).other W44 (Ne.symm (Nat.ne_of_lt (Nat.lt_trans la12 la23)))).ext E45).other W46 (Ne.symm (Nat.ne_of_lt (Nat.lt_trans la12 la23)))).ext E47).other W48 (Ne.symm (Nat.ne_of_lt (Nat.lt_trans la12 la23)))).ext E49).other W50 (Ne.symm (Nat.ne_of_lt (Nat.lt_trans la12 la23)))).ext E51).other W52 (Ne.symm (Nat.ne_of_lt (Nat.lt_trans la12 la23))))
  have Z_16 := f74
  have f75 := (((((((((((((((((((((((((((((((((V19.other W20 (Nat.ne_of_gt (Nat.lt_of_lt_of_le ha1 sz_b19))).ext E21).other W22 (Nat.ne_of_gt (Nat.lt_of_lt_of_le ha1 sz_b19))).ext E23).other W24 (Nat.ne_of_gt (Nat.lt_of_lt_of_le ha1 sz_b19))).ext E25).other W26 (Nat.ne_of_gt (Nat.lt_of_lt_of_le ha1 sz_b19))).ext E27).other W28 (Nat.ne_of_gt (Nat.lt_of_lt_of_le ha1 sz_b19))).ext E29).other W30 (Nat.ne_of_gt (Nat.lt_of_lt_of_le ha1 sz_b19))).ext E31).other W32 (Nat.ne_of_gt (Nat.lt_of_lt_of_le ha1 sz_b19))).ext E33).other W34 (Nat.ne_of_gt (Nat.lt_of_lt_of_le ha1 sz_b19))).ext E35).other W36 (Nat.ne_of_gt (Nat.lt_of_lt_of_le ha1 sz_b19))).ext E37).other W38 (Nat.ne_of_gt (Nat.lt_of_lt_of_le ha1 sz_b19))).ext E39).other W40 (Nat.ne_of_gt (Nat.lt_of_lt_of_le ha1 sz_b19))).ext E41).other W42 (Nat.ne_of_gt (Nat.lt_of_lt_of_le ha1 sz_b19))).ext E43).other W44 (Nat.ne_of_gt (Nat.lt_of_lt_of_le ha1 sz_b19))).ext E45).other W46 (Nat.ne_of_gt (Nat.lt_of_lt_of_le ha1 sz_b19))).ext E47).other W48 (Nat.ne_of_gt (Nat.lt_of_lt_of_le ha1 sz_b19))).ext E49).other W50 (Nat.ne_of_gt (Nat.lt_of_lt_of_le ha1 sz_b19))).ext E51).other W52 (Nat.ne_of_gt (Nat.lt_of_lt_of_le ha1 sz_b19)))
  have Z_17 := f75
  have f76 := (((((((((((((((((((((((((((((((V21.other W22 (Nat.ne_of_gt (Nat.lt_of_lt_of_le ha1 sz_b21))).ext E23).other W24 (Nat.ne_of_gt (Nat.lt_of_lt_of_le ha1 sz_b21))).ext E25).other W26 (Nat.ne_of_gt (Nat.lt_of_lt_of_le ha1 sz_b21))).ext E27).other W28 (Nat.ne_of_gt (Nat.lt_of_lt_of_le ha1 sz_b21))).ext E29).other W30 (Nat.ne_of_gt (Nat.lt_of_lt_of_le ha1 sz_b21))).ext E31).other W32 (Nat.ne_of_gt (Nat.lt_of_lt_of_le ha1 sz_b21))).ext E33).other W34 (Nat.ne_of_gt (Nat.lt_of_lt_of_le ha1 sz_b21))).ext E35).other W36 (Nat.ne_of_gt (Nat.lt_of_lt_of_le ha1 sz_b21))).ext E37).other W38 (Nat.ne_of_gt (Nat.lt_of_lt_of_le ha1 sz_b21))).ext E39).other W40 (Nat.ne_of_gt (Nat.lt_of_lt_of_le ha1 sz_b21))).ext E41).other W42 (Nat.ne_of_gt (Nat.lt_of_lt_of_le ha1 sz_b21))).ext E43).other W44 (Nat.ne_of_gt (Nat.lt_of_lt_of_le ha1 sz_b21))).ext E45).other W46 (Nat.ne_of_gt (Nat.lt_of_lt_of_le ha1 sz_b21))).ext E47).other W48 (Nat.ne_of_gt (Nat.lt_of_lt_of_le ha1 sz_b21))).ext E49).other W50 (Nat.ne_of_gt (Nat.lt_of_lt_of_le ha1 sz_b21))).ext E51).other W52 (Nat.ne_of_gt (Nat.lt_of_lt_of_le ha1 sz_b21)))
  have Z_18 := f76
  have f77 := (((((((((((((((((V35.other W36 (Nat.ne_of_gt (Nat.lt_of_lt_of_le ha1 sz_b35))).ext E37).other W38 (Nat.ne_of_gt (Nat.lt_of_lt_of_le ha1 sz_b35))).ext E39).other W40 (Nat.ne_of_gt (Nat.lt_of_lt_of_le ha1 sz_b35))).ext E41).other W42 (Nat.ne_of_gt (Nat.lt_of_lt_of_le ha1 sz_b35))).ext E43).other W44 (Nat.ne_of_gt (Nat.lt_of_lt_of_le ha1 sz_b35))).ext E45).other W46 (Nat.ne_of_gt (Nat.lt_of_lt_of_le ha1 sz_b35))).ext E47).other W48 (Nat.ne_of_gt (Nat.lt_of_lt_of_le ha1 sz_b35))).ext E49).other W50 (Nat.ne_of_gt (Nat.lt_of_lt_of_le ha1 sz_b35))).ext E51).other W52 (Nat.ne_of_gt (Nat.lt_of_lt_of_le ha1 sz_b35)))
  have Z_19 := f77
  have f78 := (((((((((((((((V37.other W38 (Nat.ne_of_gt (Nat.lt_of_lt_of_le ha1 sz_b37))).ext E39).other W40 (Nat.ne_of_gt (Nat.lt_of_lt_of_le ha1 sz_b37))).ext E41).other W42 (Nat.ne_of_gt (Nat.lt_of_lt_of_le ha1 sz_b37))).ext E43).other W44 (Nat.ne_of_gt (Nat.lt_of_lt_of_le ha1 sz_b37))).ext E45).other W46 (Nat.ne_of_gt (Nat.lt_of_lt_of_le ha1 sz_b37))).ext E47).other W48 (Nat.ne_of_gt (Nat.lt_of_lt_of_le ha1 sz_b37))).ext E49).other W50 (Nat.ne_of_gt (Nat.lt_of_lt_of_le ha1 sz_b37))).ext E51).other W52 (Nat.ne_of_gt (Nat.lt_of_lt_of_le ha1 sz_b37)))
  have Z_20 := f78
  have f79 := (((((((((((((V39.other W40 (Nat.ne_of_gt (Nat.lt_of_lt_of_le ha1 sz_b39))).ext E41).other W42 (Nat.ne_of_gt (Nat.lt_of_lt_of_le ha1 sz_b39))).ext E43).other W44 (Nat.ne_of_gt (Nat.lt_of_lt_of_le ha1 sz_b39))).ext E45).other W46 (Nat.ne_of_gt (Nat.lt_of_lt_of_le ha1 sz_b39))).ext E47).other W48 (Nat.ne_of_gt (Nat.lt_of_lt_of_le ha1 sz_b39))).ext E49).other W50 (Nat.ne_of_gt (Nat.lt_of_lt_of_le ha1 sz_b39))).ext E51).other W52 (Nat.ne_of_gt (Nat.lt_of_lt_of_le ha1 sz_b39)))
  have Z_21 := f79
  have f80 := (((((((((((((((((((((((((((((((((((((V15.other W16 (Nat.ne_of_gt (Nat.lt_of_lt_of_le ha1 sz_b15))).ext E17).other W18 (Nat.ne_of_gt (Nat.lt_of_lt_of_le ha1 sz_b15))).ext E19).other W20 (Nat.ne_of_gt (Nat.lt_of_lt_of_le ha1 sz_b15))).ext E21).other W22 (Nat.ne_of_gt (Nat.lt_of_lt_of_le ha1 sz_b15))).ext E23).other W24 (Nat.ne_of_gt (Nat.lt_of_lt_of_le ha1 sz_b15))).ext E25).other W26 (Nat.ne_of_gt (Nat.lt_of_lt_of_le ha1 sz_b15))).ext E27).other W28 (Nat.ne_of_gt (Nat.lt_of_lt_of_le ha1 sz_b15))).ext E29).other W30 (Nat.ne_of_gt (Nat.lt_of_lt_of_le ha1 sz_b15))).ext E31).other W32 (Nat.ne_of_gt (Nat.lt_of_lt_of_le ha1 sz_b15))).ext E33).other W34 (Nat.ne_of_gt (Nat.lt_of_lt_of_le ha1 sz_b15))).ext E35).other W36 (Nat.ne_of_gt (Nat.lt_of_lt_of_le ha1 sz_b15))).ext E37).other W38 (Nat.ne_of_gt (Nat.lt_of_lt_of_le ha1 sz_b15))).ext E39).other W40 (Nat.ne_of_gt (Nat.lt_of_lt_of_le ha1 sz_b15))).ext E41).other W42 (Nat.ne_of_gt (Nat.lt_of_lt_of_le ha1 sz_b15))).ext E43).other W44 (Nat.ne_of_gt (Nat.lt_of_lt_of_le ha1 sz_b15))).ext E45).other W46 (Nat.ne_of_gt (Nat.lt_of_lt_of_le ha1 sz_b15))).ext E47).other W48 (Nat.ne_of_gt (Nat.lt_of_lt_of_le ha1 sz_b15))).ext E49).other W50 (Nat.ne_of_gt (Nat.lt_of_lt_of_le ha1 sz_b15))).ext E51).other W52 (Nat.ne_of_gt (Nat.lt_of_lt_of_le ha1 sz_b15)))
  have Z_22 := f80
  have hrho : ∀ k, k < 23 → ([0, 2, 3, 5, 8, 9, 10, 11, 12, 13, 17, 18, 19, 20, 21, 22, 1, 6, 7, 14, 15, 16, 4].getD k 0 : Nat) < 23 := by decide
  have hri : ∀ k, k < 23 → ∀ k', k' < 23 → ([0, 2, 3, 5, 8, 9, 10, 11, 12, 13, 17, 18, 19, 20, 21, 22, 1, 6, 7, 14, 15, 16, 4].getD k 0 : Nat) = [0, 2, 3, 5, 8, 9, 10, 11, 12, 13, 17, 18, 19, 20, 21, 22, 1, 6, 7, 14, 15, 16, 4].getD k' 0 → k = k' := by decide
  · show QrmInit Z a1 a2 a3 h0 n0 _ T52.heap _
    rw [e52]
    have hA : ∀ k, k < 23 → (fun k => (fun i => ([a2, a3, b5, b10, b15, b17, b19, b21, b23, b25, b27, b29, b31, b33, b35, b37, b39, b41, b43, b45, b47, b49, b51].getD i 0 : Nat)) ([0, 2, 3, 5, 8, 9, 10, 11, 12, 13, 17, 18, 19, 20, 21, 22, 1, 6, 7, 14, 15, 16, 4].getD k 0)) k ≠ a1 ∧ n0 ≤ (fun k => (fun i => ([a2, a3, b5, b10, b15, b17, b19, b21, b23, b25, b27, b29, b31, b33, b35, b37, b39, b41, b43, b45, b47, b49, b51].getD i 0 : Nat)) ([0, 2, 3, 5, 8, 9, 10, 11, 12, 13, 17, 18, 19, 20, 21, 22, 1, 6, 7, 14, 15, 16, 4].getD k 0)) k := fun k hk => match k, hk with
        | 0, _ => ⟨(Nat.ne_of_gt la12), (Nat.le_trans g_a1 (Nat.le_of_lt la12))⟩
        | 1, _ => ⟨(Ne.symm (Nat.ne_of_lt (Nat.lt_of_lt_of_le ha1 sz_b5))), g_b5⟩
        | 2, _ => ⟨(Ne.symm (Nat.ne_of_lt (Nat.lt_of_lt_of_le ha1 sz_b10))), g_b10⟩
        | 3, _ => ⟨(Ne.symm (Nat.ne_of_lt (Nat.lt_of_lt_of_le ha1 sz_b17))), g_b17⟩
        | 4, _ => ⟨(Ne.symm (Nat.ne_of_lt (Nat.lt_of_lt_of_le ha1 sz_b23))), g_b23⟩
        | 5, _ => ⟨(Ne.symm (Nat.ne_of_lt (Nat.lt_of_lt_of_le ha1 sz_b25))), g_b25⟩
        | 6, _ => ⟨(Ne.symm (Nat.ne_of_lt (Nat.lt_of_lt_of_le ha1 sz_b27))), g_b27⟩
        | 7, _ => ⟨(Ne.symm (Nat.ne_of_lt (Nat.lt_of_lt_of_le ha1 sz_b29))), g_b29⟩
        | 8, _ => ⟨(Ne.symm (Nat.ne_of_lt (Nat.lt_of_lt_of_le ha1 sz_b31))), g_b31⟩
        | 9, _ => ⟨(Ne.symm (Nat.ne_of_lt (Nat.lt_of_lt_of_le ha1 sz_b33))), g_b33⟩
        | 10, _ => ⟨(Ne.symm (Nat.ne_of_lt (Nat.lt_of_lt_of_le ha1 sz_b41))), g_b41⟩
        | 11, _ => ⟨(Ne.symm (Nat.ne_of_lt (Nat.lt_of_lt_of_le ha1 sz_b43))), g_b43⟩
        | 12, _ => ⟨(Ne.symm (Nat.ne_of_lt (Nat.lt_of_lt_of_le ha1 sz_b45))), g_b45⟩
        | 13, _ => ⟨(Ne.symm (Nat.ne_of_lt (Nat.lt_of_lt_of_le ha1 sz_b47))), g_b47⟩
        | 14, _ => ⟨(Ne.symm (Nat.ne_of_lt (Nat.lt_of_lt_of_le ha1 sz_b49))), g_b49⟩
        | 15, _ => ⟨(Ne.symm (Nat.ne_of_lt (Nat.lt_of_lt_of_le ha1 sz_b51))), g_b51⟩
        | 16, _ => ⟨(Nat.ne_of_gt (Nat.lt_trans la12 la23)), (Nat.le_trans g_a1 (Nat.le_of_lt (Nat.lt_trans la12 la23)))⟩
        | 17, _ => ⟨(Ne.symm (Nat.ne_of_lt (Nat.lt_of_lt_of_le ha1 sz_b19))), g_b19⟩
        | 18, _ => ⟨(Ne.symm (Nat.ne_of_lt (Nat.lt_of_lt_of_le ha1 sz_b21))), g_b21⟩
        | 19, _ => ⟨(Ne.symm (Nat.ne_of_lt (Nat.lt_of_lt_of_le ha1 sz_b35))), g_b35⟩
        | 20, _ => ⟨(Ne.symm (Nat.ne_of_lt (Nat.lt_of_lt_of_le ha1 sz_b37))), g_b37⟩
        | 21, _ => ⟨(Ne.symm (Nat.ne_of_lt (Nat.lt_of_lt_of_le ha1 sz_b39))), g_b39⟩
        | 22, _ => ⟨(Ne.symm (Nat.ne_of_lt (Nat.lt_of_lt_of_le ha1 sz_b15))), g_b15⟩
        | n + 23, h => absurd h (by omega)
    refine ⟨rfl, N52, K52, (fun k => (fun i => ([a2, a3, b5, b10, b15, b17, b19, b21, b23, b25, b27, b29, b31, b33, b35, b37, b39, b41, b43, b45, b47, b49, b51].getD i 0 : Nat)) ([0, 2, 3, 5, 8, 9, 10, 11, 12, 13, 17, 18, 19, 20, 21, 22, 1, 6, 7, 14, 15, 16, 4].getD k 0)), ?_⟩
    refine ⟨OBz.1, g_a1, fun k hk => match k, hk with
      | 0, _ => ⟨OBz.2 0 (by decide), Z_0⟩
      | 1, _ => ⟨OBz.2 1 (by decide), Z_1⟩
      | 2, _ => ⟨OBz.2 2 (by decide), Z_2⟩
      | 3, _ => ⟨OBz.2 3 (by decide), Z_3⟩
      | 4, _ => ⟨OBz.2 4 (by decide), Z_4⟩
      | 5, _ => ⟨OBz.2 5 (by decide), Z_5⟩
      | 6, _ => ⟨OBz.2 6 (by decide), Z_6⟩
      | 7, _ => ⟨OBz.2 7 (by decide), Z_7⟩
      | 8, _ => ⟨OBz.2 8 (by decide), Z_8⟩
      | 9, _ => ⟨OBz.2 9 (by decide), Z_9⟩
      | 10, _ => ⟨OBz.2 10 (by decide), Z_10⟩
      | 11, _ => ⟨OBz.2 11 (by decide), Z_11⟩
      | 12, _ => ⟨OBz.2 12 (by decide), Z_12⟩
      | 13, _ => ⟨OBz.2 13 (by decide), Z_13⟩
      | 14, _ => ⟨OBz.2 14 (by decide), Z_14⟩
      | 15, _ => ⟨OBz.2 15 (by decide), Z_15⟩
      | n + 16, h => absurd h (by omega)
    , fun k h1 h2 => match k, h1, h2 with
      | 16, _, _ => ⟨OBz.2 16 (by decide), Z_16⟩
      | 17, _, _ => ⟨OBz.2 17 (by decide), Z_17⟩
      | 18, _, _ => ⟨OBz.2 18 (by decide), Z_18⟩
      | 19, _, _ => ⟨OBz.2 19 (by decide), Z_19⟩
      | 20, _, _ => ⟨OBz.2 20 (by decide), Z_20⟩
      | 21, _, _ => ⟨OBz.2 21 (by decide), Z_21⟩
      | n + 22, _, h => absurd h (by omega)
    , ⟨OBz.2 22 (by decide), Z_22⟩, fun k hk => match k, hk with
      | 0, _ => OBz.2 23 (by decide)
      | 1, _ => OBz.2 24 (by decide)
      | 2, _ => OBz.2 25 (by decide)
      | 3, _ => OBz.2 26 (by decide)
      | n + 4, h => absurd h (by omega)
    , fun j b _ q => (by cases q), fun j j' b _ _ q => (by cases q), fun k k' hk hk' e => hri k hk k' hk' (own_minj hG _ _ (hrho k hk) (hrho k' hk') e), hA⟩
theorem own_tn {sz : Nat → Nat} {n k : Nat} (h : tot sz n = k + 1) : 1 ≤ n := by
  cases n with
  | zero => exact absurd (show 0 = k + 1 from h) (by omega)
  | succ n => omega
theorem own_bfk (H K : Nat → Int64) (s t : Nat) : own_bf H K s t = true ↔ bfn (fun s => own_kv (H s) (K s)) s t := by
  unfold own_bf bfn
  by_cases e : H s = H t
  · rw [if_pos e]
    by_cases f : K s = K t
    · rw [if_pos f]
      constructor
      · intro h; right; exact ⟨by show own_kv (H s) (K s) = own_kv (H t) (K t); rw [e, f], of_decide_eq_true h⟩
      · rintro (h | h)
        · have h' : own_kv (H s) (K s) < own_kv (H t) (K t) := h
          rw [e, f] at h'; omega
        · exact decide_eq_true h.2
    · rw [if_neg f, own_xm, own_xm]
      have ne : own_kv (H s) (K s) ≠ own_kv (H t) (K t) := fun q => f (own_kv_inj q).2
      simp only [decide_eq_true_eq, Int64.lt_iff_toInt_lt]
      unfold own_kv at *
      rw [e] at *
      omega
  · rw [if_neg e]
    have ne : own_kv (H s) (K s) ≠ own_kv (H t) (K t) := fun q => e (own_kv_inj q).1
    have ne2 : (H s).toInt ≠ (H t).toInt := fun q => e (Int64.toInt_inj.mp q)
    have l1 := (K s + (-9223372036854775808 : Int64)).le_toInt; have u1 := (K s + (-9223372036854775808 : Int64)).toInt_lt
    have l2 := (K t + (-9223372036854775808 : Int64)).le_toInt; have u2 := (K t + (-9223372036854775808 : Int64)).toInt_lt
    simp only [decide_eq_true_eq, Int64.lt_iff_toInt_lt]
    unfold own_kv at *
    omega
theorem pd__28II_29I : parseMethodDescriptor "(II)I" = some ⟨[.int, .int], some .int⟩ := by decide +kernel
theorem pd__28_5bJ_5bJI_29I : parseMethodDescriptor "([J[JI)I" = some ⟨[(.array .long), (.array .long), .int], some .int⟩ := by decide +kernel
theorem pd__28I_5bI_5bJ_29V : parseMethodDescriptor "(I[I[J)V" = some ⟨[.int, (.array .int), (.array .long)], none⟩ := by decide +kernel
theorem pd__28IIJJ_29V : parseMethodDescriptor "(IIJJ)V" = some ⟨[.int, .int, .long, .long], none⟩ := by decide +kernel
theorem ef_rm0 (m : MethodId) (x0 : Int64) (x1 : Int64) (x2 : Int64) (x3 : Int64) (x4 : Int32) (x5 : Int32) : entryFrame m #[(.long x0), (.long x1), (.long x2), (.long x3), (.int x4), (.int x5)] maxLocals = mkF m 0 #[vJ x0, .second, vJ x1, .second, vJ x2, .second, vJ x3, .second, .val (.int x4), .val (.int x5), uu, uu, uu, uu, uu, uu, uu, uu, uu, uu, uu] [] := by first | (simp [entryFrame, mkF, argsToLocals, Value.category, maxLocals]; done) | rfl
def Qrm0 (Z : State) (q1 q2 q3 q4 : Int64) (p5 p6 : Int32) (h0 : Heap) (n0 : Nat) (v : Option Value) (h : Heap) (L : List Loc) : Prop := v = some (.int 1) ∧ Fr n0 L
set_option maxRecDepth 65536 in
set_option maxHeartbeats 40000000 in
theorem rm0 (l : Launch) (Z : State) (a0 : Array Value) (hw : ∀ d ∈ tables_1, d.before a0 Z = true) (ws : List Jvm.Cond) (q1 q2 q3 q4 : Int64) (p5 p6 : Int32) (h0 : Heap) (n0 : Nat) (Z0 : n0 ≤ h0.size) :
    MetFree l x (head1 (Jvm.Cond.code x code maxLocals ret :: ws) room_1) (fun a U => a = #[(.long q1), (.long q2), (.long q3), (.long q4), (.int p5), (.int p6)] ∧ Z.Warmed39 U.vm ∧ U.heap = h0) (fun _ _ _ _ _ => True) (fun _ U o U' => ∃ v L, o = .returned v ∧ Qrm0 Z q1 q2 q3 q4 p5 p6 h0 n0 v U'.heap L ∧ FrameEnd U o U' L room_1.cells room_1.slots) := by
  refine MetFree.of_bodySF (plainFor_of_name pn_com_example_ebbtide_ebbtide_cluster_LoadTreesAtPinLaw) hisR ?_
  intro p e s m args below meth c s₁ Bd hml0 hP hK
  obtain ⟨rfl, hZ, hh⟩ := hP
  have hx := Bd.exec
  have hby := Bd.bytes
  have hml : c.maxLocals = 21 := hml0
  have hown : s.vm.findClass "com/example/ebbtide/ebbtide/cluster/LoadTreesAtPinLaw" = some m.cls := findClass_of_methodNamed Bd.named
  have hnm := (name_of_methodNamed Bd.named Bd.method).1
  have X0 : Stand p l e room_1 s m #[(.long q1), (.long q2), (.long q3), (.long q4), (.int p5), (.int p6)] below meth c s₁ [] 0 0 := Stand.of_body Bd
  have e0 : s₁.heap = h0 := by rw [← hh, Bd.state]; rfl
  have N0 := Fr.nil n0
  have pre0 : ∀ t, Steps p.tables e below (s₁.setTop (mkF m 0 #[vJ q1, .second, vJ q2, .second, vJ q3, .second, vJ q4, .second, .val (.int p5), .val (.int p6), uu, uu, uu, uu, uu, uu, uu, uu, uu, uu, uu] [])) t → Steps p.tables e below (s₁.setTop (entryFrame m #[(.long q1), (.long q2), (.long q3), (.long q4), (.int p5), (.int p6)] maxLocals)) t := fun t k => castTop (ef_rm0 m q1 q2 q3 q4 p5 p6) k
  obtain ⟨T1, h1, k1, X1, e1, E1, A1, st1⟩ := newP X0 hx hZ (tw hw 0 rfl) e0 (g := (mkF m 1 #[vJ q1, .second, vJ q2, .second, vJ q3, .second, vJ q4, .second, .val (.int p5), .val (.int p6), uu, uu, uu, uu, uu, uu, uu, uu, uu, uu, uu] [(.int (3 : Int32))])) rfl (hb hby at_1) rfl (by decide) (cap := 3) (by decide) (by decide) (by decide) (by decide)
  obtain ⟨b1, g1⟩ : ∃ z, z = h0.size := ⟨_, rfl⟩
  rw [← g1] at A1 st1
  have g_b1 : n0 ≤ b1 := Nat.le_trans Z0 (Nat.le_of_eq g1.symm)
  have sz_b1 : h0.size ≤ b1 := (Nat.le_trans (KN.refl n0 h0).1 (Nat.le_of_eq g1.symm))
  have V1 : AR Z h1 b1 .long 3 (fun _ => (.long (0 : Int64))) := (AR.new A1 (by decide) rfl)
  have K1 : KN n0 h0 h1 := (KN.refl n0 h0).trans (KN.ext E1)
  have Z1 : n0 ≤ h1.size := Nat.le_trans Z0 E1.1
  obtain ⟨T2, h2, k2, X2, e2, E2, A2, st2⟩ := newP X1 hx hZ (tw hw 0 rfl) e1 (g := (mkF m 6 #[vJ q1, .second, vJ q2, .second, vJ q3, .second, vJ q4, .second, .val (.int p5), .val (.int p6), vR b1, uu, uu, uu, uu, uu, uu, uu, uu, uu, uu] [(.int (3 : Int32))])) rfl (hb hby at_6) rfl (by decide) (cap := 3) (by decide) (by decide) (by decide) (by decide)
  obtain ⟨b2, g2⟩ : ∃ z, z = h1.size := ⟨_, rfl⟩
  rw [← g2] at A2 st2
  have g_b2 : n0 ≤ b2 := Nat.le_trans Z1 (Nat.le_of_eq g2.symm)
  have sz_b2 : h0.size ≤ b2 := (Nat.le_trans K1.1 (Nat.le_of_eq g2.symm))
  have V2 : AR Z h2 b2 .long 3 (fun _ => (.long (0 : Int64))) := (AR.new A2 (by decide) rfl)
  have K2 : KN n0 h0 h2 := K1.trans (KN.ext E2)
  have Z2 : n0 ≤ h2.size := Nat.le_trans Z1 E2.1
  have ne3 : b1 ≠ b2 := (Nat.ne_of_lt (Nat.lt_of_lt_of_le V1.lt (Nat.le_of_eq g2.symm)))
  have c4 : ∀ t, Steps p.tables e below (T2.setTop (mkF m 17 #[vJ q1, .second, vJ q2, .second, vJ q3, .second, vJ q4, .second, .val (.int p5), .val (.int p6), vR b1, vR b2, uu, uu, uu, uu, uu, uu, uu, uu, uu] [(.int (p5 &&& (1 : Int32))), (.int (0 : Int32)), (.ref b1)])) t → Steps p.tables e below (s₁.setTop (mkF m 0 #[vJ q1, .second, vJ q2, .second, vJ q3, .second, vJ q4, .second, .val (.int p5), .val (.int p6), uu, uu, uu, uu, uu, uu, uu, uu, uu, uu, uu] [])) t := by
    intro t kt
    show Steps p.tables e below (s₁.setTop (mkF m 0 #[vJ q1, .second, vJ q2, .second, vJ q3, .second, vJ q4, .second, .val (.int p5), .val (.int p6), uu, uu, uu, uu, uu, uu, uu, uu, uu, uu, uu] [])) _
    refine XS.iconst X0.here hx rfl (hb hby at_0) ?_
    refine st1 _ ?_
    refine XS.astore X1.here hx rfl (hb hby at_3) rfl rfl (l' := #[vJ q1, .second, vJ q2, .second, vJ q3, .second, vJ q4, .second, .val (.int p5), .val (.int p6), vR b1, uu, uu, uu, uu, uu, uu, uu, uu, uu, uu]) rfl ?_
    refine XS.iconst X1.here hx rfl (hb hby at_5) ?_
    refine st2 _ ?_
    refine XS.astore X2.here hx rfl (hb hby at_8) rfl rfl (l' := #[vJ q1, .second, vJ q2, .second, vJ q3, .second, vJ q4, .second, .val (.int p5), .val (.int p6), vR b1, vR b2, uu, uu, uu, uu, uu, uu, uu, uu, uu]) rfl ?_
    refine XS.aload X2.here hx rfl (hb hby at_10) rfl rfl ?_
    refine XS.iconst X2.here hx rfl (hb hby at_12) ?_
    refine XS.iload X2.here hx rfl (hb hby at_13) rfl ?_
    refine XS.iconst X2.here hx rfl (hb hby at_15) ?_
    refine XS.iand X2.here hx rfl (hb hby at_16) rfl ?_
    exact kt
  obtain ⟨v6, hv6⟩ : ∃ z, z = (if (p5 &&& (1 : Int32)) = (0 : Int32) then ((q4.toUInt64 >>> ((1 : Int32) &&& 0x3f).toInt64.toUInt64).toInt64) else ((q1.toUInt64 >>> ((1 : Int32) &&& 0x3f).toInt64.toUInt64).toInt64)) := ⟨_, rfl⟩
  have c7 : ∀ t, Steps p.tables e below (T2.setTop (mkF m 30 #[vJ q1, .second, vJ q2, .second, vJ q3, .second, vJ q4, .second, .val (.int p5), .val (.int p6), vR b1, vR b2, uu, uu, uu, uu, uu, uu, uu, uu, uu] [(.long v6), (.int (0 : Int32)), (.ref b1)])) t → Steps p.tables e below (T2.setTop (mkF m 17 #[vJ q1, .second, vJ q2, .second, vJ q3, .second, vJ q4, .second, .val (.int p5), .val (.int p6), vR b1, vR b2, uu, uu, uu, uu, uu, uu, uu, uu, uu] [(.int (p5 &&& (1 : Int32))), (.int (0 : Int32)), (.ref b1)])) t := by
    intro t kt
    by_cases j17_5 : (p5 &&& (1 : Int32)) = (0 : Int32)
    · show Steps p.tables e below (T2.setTop (mkF m 17 #[vJ q1, .second, vJ q2, .second, vJ q3, .second, vJ q4, .second, .val (.int p5), .val (.int p6), vR b1, vR b2, uu, uu, uu, uu, uu, uu, uu, uu, uu] [(.int (p5 &&& (1 : Int32))), (.int (0 : Int32)), (.ref b1)])) _
      refine XS.ifYes X2.here hx rfl (pc0 := 17) (pc' := 26) rfl (hb hby at_17) rfl ((if0 _ _).trans (teq j17_5).1) (by decide) (by decide) ?_
      refine XS.lload X2.here hx rfl (hb hby at_26) rfl ?_
      refine XS.iconst X2.here hx rfl (hb hby at_28) ?_
      refine XS.lushr X2.here hx rfl (hb hby at_29) rfl ?_
      obtain rfl : v6 = ((q4.toUInt64 >>> ((1 : Int32) &&& 0x3f).toInt64.toUInt64).toInt64) := by rw [hv6, if_pos j17_5]
      exact kt
    · show Steps p.tables e below (T2.setTop (mkF m 17 #[vJ q1, .second, vJ q2, .second, vJ q3, .second, vJ q4, .second, .val (.int p5), .val (.int p6), vR b1, vR b2, uu, uu, uu, uu, uu, uu, uu, uu, uu] [(.int (p5 &&& (1 : Int32))), (.int (0 : Int32)), (.ref b1)])) _
      refine XS.ifNo X2.here hx rfl (hb hby at_17) rfl ((if0 _ _).trans (feq j17_5).1) ?_
      refine XS.lloadN X2.here hx rfl (hb hby at_20) rfl ?_
      refine XS.iconst X2.here hx rfl (hb hby at_21) ?_
      refine XS.lushr X2.here hx rfl (hb hby at_22) rfl ?_
      refine XS.goto X2.here hx rfl (pc0 := 23) (pc' := 30) rfl (hb hby at_23) (by decide) (by decide) ?_
      obtain rfl : v6 = ((q1.toUInt64 >>> ((1 : Int32) &&& 0x3f).toInt64.toUInt64).toInt64) := by rw [hv6, if_neg j17_5]
      exact kt
  have f9 := (V1.ext E2)
  obtain ⟨T8, h8, X8, e8, W8, V8, st8⟩ := own_stJ X2 hx hZ e2 f9 (j := (0 : Int32)) (by decide) (g := (mkF m 30 #[vJ q1, .second, vJ q2, .second, vJ q3, .second, vJ q4, .second, .val (.int p5), .val (.int p6), vR b1, vR b2, uu, uu, uu, uu, uu, uu, uu, uu, uu] [(.long v6), (.int (0 : Int32)), (.ref b1)])) rfl rfl (hb hby at_30)
  have K8 : KN n0 h0 h8 := K2.trans (KN.wr W8 g_b1)
  have N8 := Fr.snoc X8 N0 g_b1
  have Z8 : n0 ≤ h8.size := Nat.le_trans Z2 (Keep.of_wr W8).1
  have c10 : ∀ t, Steps p.tables e below (T8.setTop (mkF m 38 #[vJ q1, .second, vJ q2, .second, vJ q3, .second, vJ q4, .second, .val (.int p5), .val (.int p6), vR b1, vR b2, uu, uu, uu, uu, uu, uu, uu, uu, uu] [(.int (p5 &&& (2 : Int32))), (.int (0 : Int32)), (.ref b2)])) t → Steps p.tables e below (T2.setTop (mkF m 30 #[vJ q1, .second, vJ q2, .second, vJ q3, .second, vJ q4, .second, .val (.int p5), .val (.int p6), vR b1, vR b2, uu, uu, uu, uu, uu, uu, uu, uu, uu] [(.long v6), (.int (0 : Int32)), (.ref b1)])) t := by
    intro t kt
    show Steps p.tables e below (T2.setTop (mkF m 30 #[vJ q1, .second, vJ q2, .second, vJ q3, .second, vJ q4, .second, .val (.int p5), .val (.int p6), vR b1, vR b2, uu, uu, uu, uu, uu, uu, uu, uu, uu] [(.long v6), (.int (0 : Int32)), (.ref b1)])) _
    refine st8 _ ?_
    refine XS.aload X8.here hx rfl (hb hby at_31) rfl rfl ?_
    refine XS.iconst X8.here hx rfl (hb hby at_33) ?_
    refine XS.iload X8.here hx rfl (hb hby at_34) rfl ?_
    refine XS.iconst X8.here hx rfl (hb hby at_36) ?_
    refine XS.iand X8.here hx rfl (hb hby at_37) rfl ?_
    exact kt
  obtain ⟨v12, hv12⟩ : ∃ z, z = (if (p5 &&& (2 : Int32)) = (0 : Int32) then q4 else q1) := ⟨_, rfl⟩
  have c13 : ∀ t, Steps p.tables e below (T8.setTop (mkF m 47 #[vJ q1, .second, vJ q2, .second, vJ q3, .second, vJ q4, .second, .val (.int p5), .val (.int p6), vR b1, vR b2, uu, uu, uu, uu, uu, uu, uu, uu, uu] [(.long v12), (.int (0 : Int32)), (.ref b2)])) t → Steps p.tables e below (T8.setTop (mkF m 38 #[vJ q1, .second, vJ q2, .second, vJ q3, .second, vJ q4, .second, .val (.int p5), .val (.int p6), vR b1, vR b2, uu, uu, uu, uu, uu, uu, uu, uu, uu] [(.int (p5 &&& (2 : Int32))), (.int (0 : Int32)), (.ref b2)])) t := by
    intro t kt
    by_cases j38_11 : (p5 &&& (2 : Int32)) = (0 : Int32)
    · show Steps p.tables e below (T8.setTop (mkF m 38 #[vJ q1, .second, vJ q2, .second, vJ q3, .second, vJ q4, .second, .val (.int p5), .val (.int p6), vR b1, vR b2, uu, uu, uu, uu, uu, uu, uu, uu, uu] [(.int (p5 &&& (2 : Int32))), (.int (0 : Int32)), (.ref b2)])) _
      refine XS.ifYes X8.here hx rfl (pc0 := 38) (pc' := 45) rfl (hb hby at_38) rfl ((if0 _ _).trans (teq j38_11).1) (by decide) (by decide) ?_
      refine XS.lload X8.here hx rfl (hb hby at_45) rfl ?_
      obtain rfl : v12 = q4 := by rw [hv12, if_pos j38_11]
      exact kt
    · show Steps p.tables e below (T8.setTop (mkF m 38 #[vJ q1, .second, vJ q2, .second, vJ q3, .second, vJ q4, .second, .val (.int p5), .val (.int p6), vR b1, vR b2, uu, uu, uu, uu, uu, uu, uu, uu, uu] [(.int (p5 &&& (2 : Int32))), (.int (0 : Int32)), (.ref b2)])) _
      refine XS.ifNo X8.here hx rfl (hb hby at_38) rfl ((if0 _ _).trans (feq j38_11).1) ?_
      refine XS.lloadN X8.here hx rfl (hb hby at_41) rfl ?_
      refine XS.goto X8.here hx rfl (pc0 := 42) (pc' := 47) rfl (hb hby at_42) (by decide) (by decide) ?_
      obtain rfl : v12 = q1 := by rw [hv12, if_neg j38_11]
      exact kt
  have f15 := (V2.other W8 (Ne.symm ne3))
  obtain ⟨T14, h14, X14, e14, W14, V14, st14⟩ := own_stJ X8 hx hZ e8 f15 (j := (0 : Int32)) (by decide) (g := (mkF m 47 #[vJ q1, .second, vJ q2, .second, vJ q3, .second, vJ q4, .second, .val (.int p5), .val (.int p6), vR b1, vR b2, uu, uu, uu, uu, uu, uu, uu, uu, uu] [(.long v12), (.int (0 : Int32)), (.ref b2)])) rfl rfl (hb hby at_47)
  have K14 : KN n0 h0 h14 := K8.trans (KN.wr W14 g_b2)
  have N14 := Fr.snoc X14 N8 g_b2
  have Z14 : n0 ≤ h14.size := Nat.le_trans Z8 (Keep.of_wr W14).1
  have c16 : ∀ t, Steps p.tables e below (T14.setTop (mkF m 55 #[vJ q1, .second, vJ q2, .second, vJ q3, .second, vJ q4, .second, .val (.int p5), .val (.int p6), vR b1, vR b2, uu, uu, uu, uu, uu, uu, uu, uu, uu] [(.int (p5 &&& (4 : Int32))), (.int (1 : Int32)), (.ref b1)])) t → Steps p.tables e below (T8.setTop (mkF m 47 #[vJ q1, .second, vJ q2, .second, vJ q3, .second, vJ q4, .second, .val (.int p5), .val (.int p6), vR b1, vR b2, uu, uu, uu, uu, uu, uu, uu, uu, uu] [(.long v12), (.int (0 : Int32)), (.ref b2)])) t := by
    intro t kt
    show Steps p.tables e below (T8.setTop (mkF m 47 #[vJ q1, .second, vJ q2, .second, vJ q3, .second, vJ q4, .second, .val (.int p5), .val (.int p6), vR b1, vR b2, uu, uu, uu, uu, uu, uu, uu, uu, uu] [(.long v12), (.int (0 : Int32)), (.ref b2)])) _
    refine st14 _ ?_
    refine XS.aload X14.here hx rfl (hb hby at_48) rfl rfl ?_
    refine XS.iconst X14.here hx rfl (hb hby at_50) ?_
    refine XS.iload X14.here hx rfl (hb hby at_51) rfl ?_
    refine XS.iconst X14.here hx rfl (hb hby at_53) ?_
    refine XS.iand X14.here hx rfl (hb hby at_54) rfl ?_
    exact kt
  obtain ⟨v18, hv18⟩ : ∃ z, z = (if (p5 &&& (4 : Int32)) = (0 : Int32) then ((q4.toUInt64 >>> ((1 : Int32) &&& 0x3f).toInt64.toUInt64).toInt64) else ((q2.toUInt64 >>> ((1 : Int32) &&& 0x3f).toInt64.toUInt64).toInt64)) := ⟨_, rfl⟩
  have c19 : ∀ t, Steps p.tables e below (T14.setTop (mkF m 68 #[vJ q1, .second, vJ q2, .second, vJ q3, .second, vJ q4, .second, .val (.int p5), .val (.int p6), vR b1, vR b2, uu, uu, uu, uu, uu, uu, uu, uu, uu] [(.long v18), (.int (1 : Int32)), (.ref b1)])) t → Steps p.tables e below (T14.setTop (mkF m 55 #[vJ q1, .second, vJ q2, .second, vJ q3, .second, vJ q4, .second, .val (.int p5), .val (.int p6), vR b1, vR b2, uu, uu, uu, uu, uu, uu, uu, uu, uu] [(.int (p5 &&& (4 : Int32))), (.int (1 : Int32)), (.ref b1)])) t := by
    intro t kt
    by_cases j55_17 : (p5 &&& (4 : Int32)) = (0 : Int32)
    · show Steps p.tables e below (T14.setTop (mkF m 55 #[vJ q1, .second, vJ q2, .second, vJ q3, .second, vJ q4, .second, .val (.int p5), .val (.int p6), vR b1, vR b2, uu, uu, uu, uu, uu, uu, uu, uu, uu] [(.int (p5 &&& (4 : Int32))), (.int (1 : Int32)), (.ref b1)])) _
      refine XS.ifYes X14.here hx rfl (pc0 := 55) (pc' := 64) rfl (hb hby at_55) rfl ((if0 _ _).trans (teq j55_17).1) (by decide) (by decide) ?_
      refine XS.lload X14.here hx rfl (hb hby at_64) rfl ?_
      refine XS.iconst X14.here hx rfl (hb hby at_66) ?_
      refine XS.lushr X14.here hx rfl (hb hby at_67) rfl ?_
      obtain rfl : v18 = ((q4.toUInt64 >>> ((1 : Int32) &&& 0x3f).toInt64.toUInt64).toInt64) := by rw [hv18, if_pos j55_17]
      exact kt
    · show Steps p.tables e below (T14.setTop (mkF m 55 #[vJ q1, .second, vJ q2, .second, vJ q3, .second, vJ q4, .second, .val (.int p5), .val (.int p6), vR b1, vR b2, uu, uu, uu, uu, uu, uu, uu, uu, uu] [(.int (p5 &&& (4 : Int32))), (.int (1 : Int32)), (.ref b1)])) _
      refine XS.ifNo X14.here hx rfl (hb hby at_55) rfl ((if0 _ _).trans (feq j55_17).1) ?_
      refine XS.lloadN X14.here hx rfl (hb hby at_58) rfl ?_
      refine XS.iconst X14.here hx rfl (hb hby at_59) ?_
      refine XS.lushr X14.here hx rfl (hb hby at_60) rfl ?_
      refine XS.goto X14.here hx rfl (pc0 := 61) (pc' := 68) rfl (hb hby at_61) (by decide) (by decide) ?_
      obtain rfl : v18 = ((q2.toUInt64 >>> ((1 : Int32) &&& 0x3f).toInt64.toUInt64).toInt64) := by rw [hv18, if_neg j55_17]
      exact kt
  have f21 := (V8.other W14 ne3)
  obtain ⟨T20, h20, X20, e20, W20, V20, st20⟩ := own_stJ X14 hx hZ e14 f21 (j := (1 : Int32)) (by decide) (g := (mkF m 68 #[vJ q1, .second, vJ q2, .second, vJ q3, .second, vJ q4, .second, .val (.int p5), .val (.int p6), vR b1, vR b2, uu, uu, uu, uu, uu, uu, uu, uu, uu] [(.long v18), (.int (1 : Int32)), (.ref b1)])) rfl rfl (hb hby at_68)
  have K20 : KN n0 h0 h20 := K14.trans (KN.wr W20 g_b1)
  have N20 := Fr.snoc X20 N14 g_b1
  have Z20 : n0 ≤ h20.size := Nat.le_trans Z14 (Keep.of_wr W20).1
  have c22 : ∀ t, Steps p.tables e below (T20.setTop (mkF m 77 #[vJ q1, .second, vJ q2, .second, vJ q3, .second, vJ q4, .second, .val (.int p5), .val (.int p6), vR b1, vR b2, uu, uu, uu, uu, uu, uu, uu, uu, uu] [(.int (p5 &&& (8 : Int32))), (.int (1 : Int32)), (.ref b2)])) t → Steps p.tables e below (T14.setTop (mkF m 68 #[vJ q1, .second, vJ q2, .second, vJ q3, .second, vJ q4, .second, .val (.int p5), .val (.int p6), vR b1, vR b2, uu, uu, uu, uu, uu, uu, uu, uu, uu] [(.long v18), (.int (1 : Int32)), (.ref b1)])) t := by
    intro t kt
    show Steps p.tables e below (T14.setTop (mkF m 68 #[vJ q1, .second, vJ q2, .second, vJ q3, .second, vJ q4, .second, .val (.int p5), .val (.int p6), vR b1, vR b2, uu, uu, uu, uu, uu, uu, uu, uu, uu] [(.long v18), (.int (1 : Int32)), (.ref b1)])) _
    refine st20 _ ?_
    refine XS.aload X20.here hx rfl (hb hby at_69) rfl rfl ?_
    refine XS.iconst X20.here hx rfl (hb hby at_71) ?_
    refine XS.iload X20.here hx rfl (hb hby at_72) rfl ?_
    refine XS.bipush X20.here hx rfl (hb hby at_74) ?_
    refine XS.iand X20.here hx rfl (hb hby at_76) rfl ?_
    exact kt
  obtain ⟨v24, hv24⟩ : ∃ z, z = (if (p5 &&& (8 : Int32)) = (0 : Int32) then q4 else q2) := ⟨_, rfl⟩
  have c25 : ∀ t, Steps p.tables e below (T20.setTop (mkF m 86 #[vJ q1, .second, vJ q2, .second, vJ q3, .second, vJ q4, .second, .val (.int p5), .val (.int p6), vR b1, vR b2, uu, uu, uu, uu, uu, uu, uu, uu, uu] [(.long v24), (.int (1 : Int32)), (.ref b2)])) t → Steps p.tables e below (T20.setTop (mkF m 77 #[vJ q1, .second, vJ q2, .second, vJ q3, .second, vJ q4, .second, .val (.int p5), .val (.int p6), vR b1, vR b2, uu, uu, uu, uu, uu, uu, uu, uu, uu] [(.int (p5 &&& (8 : Int32))), (.int (1 : Int32)), (.ref b2)])) t := by
    intro t kt
    by_cases j77_23 : (p5 &&& (8 : Int32)) = (0 : Int32)
    · show Steps p.tables e below (T20.setTop (mkF m 77 #[vJ q1, .second, vJ q2, .second, vJ q3, .second, vJ q4, .second, .val (.int p5), .val (.int p6), vR b1, vR b2, uu, uu, uu, uu, uu, uu, uu, uu, uu] [(.int (p5 &&& (8 : Int32))), (.int (1 : Int32)), (.ref b2)])) _
      refine XS.ifYes X20.here hx rfl (pc0 := 77) (pc' := 84) rfl (hb hby at_77) rfl ((if0 _ _).trans (teq j77_23).1) (by decide) (by decide) ?_
      refine XS.lload X20.here hx rfl (hb hby at_84) rfl ?_
      obtain rfl : v24 = q4 := by rw [hv24, if_pos j77_23]
      exact kt
    · show Steps p.tables e below (T20.setTop (mkF m 77 #[vJ q1, .second, vJ q2, .second, vJ q3, .second, vJ q4, .second, .val (.int p5), .val (.int p6), vR b1, vR b2, uu, uu, uu, uu, uu, uu, uu, uu, uu] [(.int (p5 &&& (8 : Int32))), (.int (1 : Int32)), (.ref b2)])) _
      refine XS.ifNo X20.here hx rfl (hb hby at_77) rfl ((if0 _ _).trans (feq j77_23).1) ?_
      refine XS.lloadN X20.here hx rfl (hb hby at_80) rfl ?_
      refine XS.goto X20.here hx rfl (pc0 := 81) (pc' := 86) rfl (hb hby at_81) (by decide) (by decide) ?_
      obtain rfl : v24 = q2 := by rw [hv24, if_neg j77_23]
      exact kt
  have f27 := (V14.other W20 (Ne.symm ne3))
  obtain ⟨T26, h26, X26, e26, W26, V26, st26⟩ := own_stJ X20 hx hZ e20 f27 (j := (1 : Int32)) (by decide) (g := (mkF m 86 #[vJ q1, .second, vJ q2, .second, vJ q3, .second, vJ q4, .second, .val (.int p5), .val (.int p6), vR b1, vR b2, uu, uu, uu, uu, uu, uu, uu, uu, uu] [(.long v24), (.int (1 : Int32)), (.ref b2)])) rfl rfl (hb hby at_86)
  have K26 : KN n0 h0 h26 := K20.trans (KN.wr W26 g_b2)
  have N26 := Fr.snoc X26 N20 g_b2
  have Z26 : n0 ≤ h26.size := Nat.le_trans Z20 (Keep.of_wr W26).1
  have c28 : ∀ t, Steps p.tables e below (T26.setTop (mkF m 95 #[vJ q1, .second, vJ q2, .second, vJ q3, .second, vJ q4, .second, .val (.int p5), .val (.int p6), vR b1, vR b2, uu, uu, uu, uu, uu, uu, uu, uu, uu] [(.int (p5 &&& (16 : Int32))), (.int (2 : Int32)), (.ref b1)])) t → Steps p.tables e below (T20.setTop (mkF m 86 #[vJ q1, .second, vJ q2, .second, vJ q3, .second, vJ q4, .second, .val (.int p5), .val (.int p6), vR b1, vR b2, uu, uu, uu, uu, uu, uu, uu, uu, uu] [(.long v24), (.int (1 : Int32)), (.ref b2)])) t := by
    intro t kt
    show Steps p.tables e below (T20.setTop (mkF m 86 #[vJ q1, .second, vJ q2, .second, vJ q3, .second, vJ q4, .second, .val (.int p5), .val (.int p6), vR b1, vR b2, uu, uu, uu, uu, uu, uu, uu, uu, uu] [(.long v24), (.int (1 : Int32)), (.ref b2)])) _
    refine st26 _ ?_
    refine XS.aload X26.here hx rfl (hb hby at_87) rfl rfl ?_
    refine XS.iconst X26.here hx rfl (hb hby at_89) ?_
    refine XS.iload X26.here hx rfl (hb hby at_90) rfl ?_
    refine XS.bipush X26.here hx rfl (hb hby at_92) ?_
    refine XS.iand X26.here hx rfl (hb hby at_94) rfl ?_
    exact kt
  obtain ⟨v30, hv30⟩ : ∃ z, z = (if (p5 &&& (16 : Int32)) = (0 : Int32) then ((q4.toUInt64 >>> ((1 : Int32) &&& 0x3f).toInt64.toUInt64).toInt64) else ((q3.toUInt64 >>> ((1 : Int32) &&& 0x3f).toInt64.toUInt64).toInt64)) := ⟨_, rfl⟩
  have c31 : ∀ t, Steps p.tables e below (T26.setTop (mkF m 109 #[vJ q1, .second, vJ q2, .second, vJ q3, .second, vJ q4, .second, .val (.int p5), .val (.int p6), vR b1, vR b2, uu, uu, uu, uu, uu, uu, uu, uu, uu] [(.long v30), (.int (2 : Int32)), (.ref b1)])) t → Steps p.tables e below (T26.setTop (mkF m 95 #[vJ q1, .second, vJ q2, .second, vJ q3, .second, vJ q4, .second, .val (.int p5), .val (.int p6), vR b1, vR b2, uu, uu, uu, uu, uu, uu, uu, uu, uu] [(.int (p5 &&& (16 : Int32))), (.int (2 : Int32)), (.ref b1)])) t := by
    intro t kt
    by_cases j95_29 : (p5 &&& (16 : Int32)) = (0 : Int32)
    · show Steps p.tables e below (T26.setTop (mkF m 95 #[vJ q1, .second, vJ q2, .second, vJ q3, .second, vJ q4, .second, .val (.int p5), .val (.int p6), vR b1, vR b2, uu, uu, uu, uu, uu, uu, uu, uu, uu] [(.int (p5 &&& (16 : Int32))), (.int (2 : Int32)), (.ref b1)])) _
      refine XS.ifYes X26.here hx rfl (pc0 := 95) (pc' := 105) rfl (hb hby at_95) rfl ((if0 _ _).trans (teq j95_29).1) (by decide) (by decide) ?_
      refine XS.lload X26.here hx rfl (hb hby at_105) rfl ?_
      refine XS.iconst X26.here hx rfl (hb hby at_107) ?_
      refine XS.lushr X26.here hx rfl (hb hby at_108) rfl ?_
      obtain rfl : v30 = ((q4.toUInt64 >>> ((1 : Int32) &&& 0x3f).toInt64.toUInt64).toInt64) := by rw [hv30, if_pos j95_29]
      exact kt
    · show Steps p.tables e below (T26.setTop (mkF m 95 #[vJ q1, .second, vJ q2, .second, vJ q3, .second, vJ q4, .second, .val (.int p5), .val (.int p6), vR b1, vR b2, uu, uu, uu, uu, uu, uu, uu, uu, uu] [(.int (p5 &&& (16 : Int32))), (.int (2 : Int32)), (.ref b1)])) _
      refine XS.ifNo X26.here hx rfl (hb hby at_95) rfl ((if0 _ _).trans (feq j95_29).1) ?_
      refine XS.lload X26.here hx rfl (hb hby at_98) rfl ?_
      refine XS.iconst X26.here hx rfl (hb hby at_100) ?_
      refine XS.lushr X26.here hx rfl (hb hby at_101) rfl ?_
      refine XS.goto X26.here hx rfl (pc0 := 102) (pc' := 109) rfl (hb hby at_102) (by decide) (by decide) ?_
      obtain rfl : v30 = ((q3.toUInt64 >>> ((1 : Int32) &&& 0x3f).toInt64.toUInt64).toInt64) := by rw [hv30, if_neg j95_29]
      exact kt
  have f33 := (V20.other W26 ne3)
  obtain ⟨T32, h32, X32, e32, W32, V32, st32⟩ := own_stJ X26 hx hZ e26 f33 (j := (2 : Int32)) (by decide) (g := (mkF m 109 #[vJ q1, .second, vJ q2, .second, vJ q3, .second, vJ q4, .second, .val (.int p5), .val (.int p6), vR b1, vR b2, uu, uu, uu, uu, uu, uu, uu, uu, uu] [(.long v30), (.int (2 : Int32)), (.ref b1)])) rfl rfl (hb hby at_109)
  have K32 : KN n0 h0 h32 := K26.trans (KN.wr W32 g_b1)
  have N32 := Fr.snoc X32 N26 g_b1
  have Z32 : n0 ≤ h32.size := Nat.le_trans Z26 (Keep.of_wr W32).1
  have c34 : ∀ t, Steps p.tables e below (T32.setTop (mkF m 118 #[vJ q1, .second, vJ q2, .second, vJ q3, .second, vJ q4, .second, .val (.int p5), .val (.int p6), vR b1, vR b2, uu, uu, uu, uu, uu, uu, uu, uu, uu] [(.int (p5 &&& (32 : Int32))), (.int (2 : Int32)), (.ref b2)])) t → Steps p.tables e below (T26.setTop (mkF m 109 #[vJ q1, .second, vJ q2, .second, vJ q3, .second, vJ q4, .second, .val (.int p5), .val (.int p6), vR b1, vR b2, uu, uu, uu, uu, uu, uu, uu, uu, uu] [(.long v30), (.int (2 : Int32)), (.ref b1)])) t := by
    intro t kt
    show Steps p.tables e below (T26.setTop (mkF m 109 #[vJ q1, .second, vJ q2, .second, vJ q3, .second, vJ q4, .second, .val (.int p5), .val (.int p6), vR b1, vR b2, uu, uu, uu, uu, uu, uu, uu, uu, uu] [(.long v30), (.int (2 : Int32)), (.ref b1)])) _
    refine st32 _ ?_
    refine XS.aload X32.here hx rfl (hb hby at_110) rfl rfl ?_
    refine XS.iconst X32.here hx rfl (hb hby at_112) ?_
    refine XS.iload X32.here hx rfl (hb hby at_113) rfl ?_
    refine XS.bipush X32.here hx rfl (hb hby at_115) ?_
    refine XS.iand X32.here hx rfl (hb hby at_117) rfl ?_
    exact kt
  obtain ⟨v36, hv36⟩ : ∃ z, z = (if (p5 &&& (32 : Int32)) = (0 : Int32) then q4 else q3) := ⟨_, rfl⟩
  have c37 : ∀ t, Steps p.tables e below (T32.setTop (mkF m 128 #[vJ q1, .second, vJ q2, .second, vJ q3, .second, vJ q4, .second, .val (.int p5), .val (.int p6), vR b1, vR b2, uu, uu, uu, uu, uu, uu, uu, uu, uu] [(.long v36), (.int (2 : Int32)), (.ref b2)])) t → Steps p.tables e below (T32.setTop (mkF m 118 #[vJ q1, .second, vJ q2, .second, vJ q3, .second, vJ q4, .second, .val (.int p5), .val (.int p6), vR b1, vR b2, uu, uu, uu, uu, uu, uu, uu, uu, uu] [(.int (p5 &&& (32 : Int32))), (.int (2 : Int32)), (.ref b2)])) t := by
    intro t kt
    by_cases j118_35 : (p5 &&& (32 : Int32)) = (0 : Int32)
    · show Steps p.tables e below (T32.setTop (mkF m 118 #[vJ q1, .second, vJ q2, .second, vJ q3, .second, vJ q4, .second, .val (.int p5), .val (.int p6), vR b1, vR b2, uu, uu, uu, uu, uu, uu, uu, uu, uu] [(.int (p5 &&& (32 : Int32))), (.int (2 : Int32)), (.ref b2)])) _
      refine XS.ifYes X32.here hx rfl (pc0 := 118) (pc' := 126) rfl (hb hby at_118) rfl ((if0 _ _).trans (teq j118_35).1) (by decide) (by decide) ?_
      refine XS.lload X32.here hx rfl (hb hby at_126) rfl ?_
      obtain rfl : v36 = q4 := by rw [hv36, if_pos j118_35]
      exact kt
    · show Steps p.tables e below (T32.setTop (mkF m 118 #[vJ q1, .second, vJ q2, .second, vJ q3, .second, vJ q4, .second, .val (.int p5), .val (.int p6), vR b1, vR b2, uu, uu, uu, uu, uu, uu, uu, uu, uu] [(.int (p5 &&& (32 : Int32))), (.int (2 : Int32)), (.ref b2)])) _
      refine XS.ifNo X32.here hx rfl (hb hby at_118) rfl ((if0 _ _).trans (feq j118_35).1) ?_
      refine XS.lload X32.here hx rfl (hb hby at_121) rfl ?_
      refine XS.goto X32.here hx rfl (pc0 := 123) (pc' := 128) rfl (hb hby at_123) (by decide) (by decide) ?_
      obtain rfl : v36 = q3 := by rw [hv36, if_neg j118_35]
      exact kt
  have f39 := (V26.other W32 (Ne.symm ne3))
  obtain ⟨T38, h38, X38, e38, W38, V38, st38⟩ := own_stJ X32 hx hZ e32 f39 (j := (2 : Int32)) (by decide) (g := (mkF m 128 #[vJ q1, .second, vJ q2, .second, vJ q3, .second, vJ q4, .second, .val (.int p5), .val (.int p6), vR b1, vR b2, uu, uu, uu, uu, uu, uu, uu, uu, uu] [(.long v36), (.int (2 : Int32)), (.ref b2)])) rfl rfl (hb hby at_128)
  have K38 : KN n0 h0 h38 := K32.trans (KN.wr W38 g_b2)
  have N38 := Fr.snoc X38 N32 g_b2
  have Z38 : n0 ≤ h38.size := Nat.le_trans Z32 (Keep.of_wr W38).1
  have f40 := (V32.other W38 ne3)
  obtain ⟨H, hH⟩ : ∃ F : Nat → Int64, F = (fun i => if i = 0 then v6 else if i = 1 then v18 else v30) := ⟨_, rfl⟩
  have VH : AR Z h38 b1 .long 3 (fun i => .long (H i)) := f40.eq fun i hi => by
    subst hH
    match i, hi with
    | 0, _ => rfl
    | 1, _ => rfl
    | 2, _ => rfl
  obtain ⟨K, hK⟩ : ∃ F : Nat → Int64, F = (fun i => if i = 0 then v12 else if i = 1 then v24 else v36) := ⟨_, rfl⟩
  have VK : AR Z h38 b2 .long 3 (fun i => .long (K i)) := V38.eq fun i hi => by
    subst hK
    match i, hi with
    | 0, _ => rfl
    | 1, _ => rfl
    | 2, _ => rfl
  obtain ⟨tr, htr, etr⟩ := own_bit ((p5.toUInt32 >>> ((6 : Int32) &&& 31).toUInt32).toInt32)
  have c41 : ∀ t, Steps p.tables e below (T38.setTop (mkF m 138 #[vJ q1, .second, vJ q2, .second, vJ q3, .second, vJ q4, .second, .val (.int p5), .val (.int p6), vR b1, vR b2, vN (tr), uu, uu, uu, uu, uu, uu, uu, uu] [])) t → Steps p.tables e below (T32.setTop (mkF m 128 #[vJ q1, .second, vJ q2, .second, vJ q3, .second, vJ q4, .second, .val (.int p5), .val (.int p6), vR b1, vR b2, uu, uu, uu, uu, uu, uu, uu, uu, uu] [(.long v36), (.int (2 : Int32)), (.ref b2)])) t := by
    intro t kt
    unfold vN at kt
    rw [← etr] at kt
    show Steps p.tables e below (T32.setTop (mkF m 128 #[vJ q1, .second, vJ q2, .second, vJ q3, .second, vJ q4, .second, .val (.int p5), .val (.int p6), vR b1, vR b2, uu, uu, uu, uu, uu, uu, uu, uu, uu] [(.long v36), (.int (2 : Int32)), (.ref b2)])) _
    refine st38 _ ?_
    refine XS.iload X38.here hx rfl (hb hby at_129) rfl ?_
    refine XS.bipush X38.here hx rfl (hb hby at_131) ?_
    refine XS.iushr X38.here hx rfl (hb hby at_133) rfl ?_
    refine XS.iconst X38.here hx rfl (hb hby at_134) ?_
    refine XS.iand X38.here hx rfl (hb hby at_135) rfl ?_
    refine XS.istore X38.here hx rfl (hb hby at_136) rfl (l' := #[vJ q1, .second, vJ q2, .second, vJ q3, .second, vJ q4, .second, .val (.int p5), .val (.int p6), vR b1, vR b2, .val (.int (((p5.toUInt32 >>> ((6 : Int32) &&& 31).toUInt32).toInt32) &&& (1 : Int32))), uu, uu, uu, uu, uu, uu, uu, uu]) rfl ?_
    exact kt
  obtain ⟨pn, hpn, epn⟩ := own_six p6
  have c42 : ∀ t, Steps p.tables e below (T38.setTop (mkF m 148 #[vJ q1, .second, vJ q2, .second, vJ q3, .second, vJ q4, .second, .val (.int p5), .val (.int p6), vR b1, vR b2, vN (tr), vN (pn), uu, uu, uu, uu, uu, uu, uu] [])) t → Steps p.tables e below (T38.setTop (mkF m 138 #[vJ q1, .second, vJ q2, .second, vJ q3, .second, vJ q4, .second, .val (.int p5), .val (.int p6), vR b1, vR b2, vN (tr), uu, uu, uu, uu, uu, uu, uu, uu] [])) t := by
    intro t kt
    unfold vN at kt
    rw [← epn] at kt
    show Steps p.tables e below (T38.setTop (mkF m 138 #[vJ q1, .second, vJ q2, .second, vJ q3, .second, vJ q4, .second, .val (.int p5), .val (.int p6), vR b1, vR b2, vN (tr), uu, uu, uu, uu, uu, uu, uu, uu] [])) _
    refine XS.iload X38.here hx rfl (hb hby at_138) rfl ?_
    refine X38.ldcInt hx hown (mvT hZ (tw hw 1 rfl)) (g := (mkF m 140 #[vJ q1, .second, vJ q2, .second, vJ q3, .second, vJ q4, .second, .val (.int p5), .val (.int p6), vR b1, vR b2, vN (tr), uu, uu, uu, uu, uu, uu, uu, uu] [(.int p6)])) rfl (hb hby at_140) _ ?_
    refine XS.iand X38.here hx rfl (hb hby at_142) rfl ?_
    refine XS.bipush X38.here hx rfl (hb hby at_143) ?_
    refine Jvm.RoadKit.iremM (g := (mkF m 145 #[vJ q1, .second, vJ q2, .second, vJ q3, .second, vJ q4, .second, .val (.int p5), .val (.int p6), vR b1, vR b2, vN (tr), uu, uu, uu, uu, uu, uu, uu, uu] [(.int (6 : Int32)), (.int (p6 &&& (2147483647 : Int32)))])) X38 hx rfl (hb hby at_145) rfl (by decide) ?_
    refine XS.istore X38.here hx rfl (hb hby at_146) rfl (l' := #[vJ q1, .second, vJ q2, .second, vJ q3, .second, vJ q4, .second, .val (.int p5), .val (.int p6), vR b1, vR b2, vN (tr), .val (.int ((p6 &&& (2147483647 : Int32)) % (6 : Int32))), uu, uu, uu, uu, uu, uu, uu]) rfl ?_
    exact kt
  obtain ⟨_, _, ⟨T43, L43, k43, n43⟩, -, X43, ⟨Lc43, hQ43, l43, y43, z43⟩, st43⟩ := Jvm.LawKit.callS X38 hx (y := (⟨"com/example/ebbtide/ebbtide/cluster/LoadTreesAtPinLaw", "nth", "(II)I"⟩ : MethodName)) hown (mvT hZ (tw hw 2 rfl)) (mvT hZ (tw hw 3 rfl)) (mvT hZ (tw hw 4 rfl)) (mvT hZ (tw hw 5 rfl)) (by decide) (backOf (W := 0) (rmNth0 l Z a0 hw [] (Int32.ofNat (pn)) h38 n0 Z38) hZ (tw hw 5 rfl) (tw hw 4 rfl) (by decide) (by decide)) (g := (mkF m 151 #[vJ q1, .second, vJ q2, .second, vJ q3, .second, vJ q4, .second, .val (.int p5), .val (.int p6), vR b1, vR b2, vN (tr), vN (pn), uu, uu, uu, uu, uu, uu, uu] [(.int (0 : Int32)), (.int (Int32.ofNat (pn)))])) rfl (by rw [hml]; rfl) (argsL := [(.int (Int32.ofNat (pn))), (.int (0 : Int32))]) (rest := []) (lenOf pd__28II_29I rfl) rfl (by show 2 * 0 + _ ≤ _; exact Nat.le_of_eq rfl) (hb hby at_151) (fun _ _ => ⟨rfl, e38, (by decide : 2 + 0 ≤ _), (by decide : 6 + 0 ≤ _)⟩)
  dsimp only [Pt.U, Pt.locs, Pt.cells, Pt.slots] at X43 l43 y43 z43 st43 hQ43
  subst l43 y43 z43
  obtain ⟨rfl, N43q, e43⟩ := hQ43
  have N43 := Fr.app N38 N43q
  obtain ⟨_, _, ⟨T44, L44, k44, n44⟩, -, X44, ⟨Lc44, hQ44, l44, y44, z44⟩, st44⟩ := Jvm.LawKit.callS X43 hx (y := (⟨"com/example/ebbtide/ebbtide/cluster/LoadTreesAtPinLaw", "nth", "(II)I"⟩ : MethodName)) hown (mvT hZ (tw hw 2 rfl)) (mvT hZ (tw hw 3 rfl)) (mvT hZ (tw hw 4 rfl)) (mvT hZ (tw hw 5 rfl)) (by decide) (backOf (W := 0) (rmNth1 l Z a0 hw [] (Int32.ofNat (pn)) h38 n0 Z38) hZ (tw hw 5 rfl) (tw hw 4 rfl) (by decide) (by decide)) (g := (mkF m 159 #[vJ q1, .second, vJ q2, .second, vJ q3, .second, vJ q4, .second, .val (.int p5), .val (.int p6), vR b1, vR b2, vN (tr), vN (pn), .val (.int (own_nth (Int32.ofNat (pn)) 0)), uu, uu, uu, uu, uu, uu] [(.int (1 : Int32)), (.int (Int32.ofNat (pn)))])) rfl (by rw [hml]; rfl) (argsL := [(.int (Int32.ofNat (pn))), (.int (1 : Int32))]) (rest := []) (lenOf pd__28II_29I rfl) rfl (by show 2 * 0 + _ ≤ _; exact Nat.le_of_eq rfl) (hb hby at_159) (fun _ _ => ⟨rfl, e43, (by decide : 2 + 0 ≤ _), (by decide : 6 + 0 ≤ _)⟩)
  dsimp only [Pt.U, Pt.locs, Pt.cells, Pt.slots] at X44 l44 y44 z44 st44 hQ44
  subst l44 y44 z44
  obtain ⟨rfl, N44q, e44⟩ := hQ44
  have N44 := Fr.app N43 N44q
  obtain ⟨_, _, ⟨T45, L45, k45, n45⟩, -, X45, ⟨Lc45, hQ45, l45, y45, z45⟩, st45⟩ := Jvm.LawKit.callS X44 hx (y := (⟨"com/example/ebbtide/ebbtide/cluster/LoadTreesAtPinLaw", "nth", "(II)I"⟩ : MethodName)) hown (mvT hZ (tw hw 2 rfl)) (mvT hZ (tw hw 3 rfl)) (mvT hZ (tw hw 4 rfl)) (mvT hZ (tw hw 5 rfl)) (by decide) (backOf (W := 0) (rmNth2 l Z a0 hw [] (Int32.ofNat (pn)) h38 n0 Z38) hZ (tw hw 5 rfl) (tw hw 4 rfl) (by decide) (by decide)) (g := (mkF m 167 #[vJ q1, .second, vJ q2, .second, vJ q3, .second, vJ q4, .second, .val (.int p5), .val (.int p6), vR b1, vR b2, vN (tr), vN (pn), .val (.int (own_nth (Int32.ofNat (pn)) 0)), .val (.int (own_nth (Int32.ofNat (pn)) 1)), uu, uu, uu, uu, uu] [(.int (2 : Int32)), (.int (Int32.ofNat (pn)))])) rfl (by rw [hml]; rfl) (argsL := [(.int (Int32.ofNat (pn))), (.int (2 : Int32))]) (rest := []) (lenOf pd__28II_29I rfl) rfl (by show 2 * 0 + _ ≤ _; exact Nat.le_of_eq rfl) (hb hby at_167) (fun _ _ => ⟨rfl, e44, (by decide : 2 + 0 ≤ _), (by decide : 6 + 0 ≤ _)⟩)
  dsimp only [Pt.U, Pt.locs, Pt.cells, Pt.slots] at X45 l45 y45 z45 st45 hQ45
  subst l45 y45 z45
  obtain ⟨rfl, N45q, e45⟩ := hQ45
  have N45 := Fr.app N44 N45q
  obtain ⟨p0, p1, p2, ⟨hp0, hp1, hp2, n01, n12, n02⟩, ep0, ep1, ep2⟩ := own_nth3 pn hpn
  have c46 : ∀ t, Steps p.tables e below (T45.setTop (mkF m 172 #[vJ q1, .second, vJ q2, .second, vJ q3, .second, vJ q4, .second, .val (.int p5), .val (.int p6), vR b1, vR b2, vN (tr), vN (pn), vN (p0), vN (p1), vN (p2), uu, uu, uu, uu] [])) t → Steps p.tables e below (T38.setTop (mkF m 148 #[vJ q1, .second, vJ q2, .second, vJ q3, .second, vJ q4, .second, .val (.int p5), .val (.int p6), vR b1, vR b2, vN (tr), vN (pn), uu, uu, uu, uu, uu, uu, uu] [])) t := by
    intro t kt
    unfold vN at kt
    rw [← ep0, ← ep1, ← ep2] at kt
    show Steps p.tables e below (T38.setTop (mkF m 148 #[vJ q1, .second, vJ q2, .second, vJ q3, .second, vJ q4, .second, .val (.int p5), .val (.int p6), vR b1, vR b2, vN (tr), vN (pn), uu, uu, uu, uu, uu, uu, uu] [])) _
    refine XS.iload X38.here hx rfl (hb hby at_148) rfl ?_
    refine XS.iconst X38.here hx rfl (hb hby at_150) ?_
    refine st43 _ ?_
    refine XS.istore X43.here hx rfl (hb hby at_154) rfl (l' := #[vJ q1, .second, vJ q2, .second, vJ q3, .second, vJ q4, .second, .val (.int p5), .val (.int p6), vR b1, vR b2, vN (tr), vN (pn), .val (.int (own_nth (Int32.ofNat (pn)) 0)), uu, uu, uu, uu, uu, uu]) rfl ?_
    refine XS.iload X43.here hx rfl (hb hby at_156) rfl ?_
    refine XS.iconst X43.here hx rfl (hb hby at_158) ?_
    refine st44 _ ?_
    refine XS.istore X44.here hx rfl (hb hby at_162) rfl (l' := #[vJ q1, .second, vJ q2, .second, vJ q3, .second, vJ q4, .second, .val (.int p5), .val (.int p6), vR b1, vR b2, vN (tr), vN (pn), .val (.int (own_nth (Int32.ofNat (pn)) 0)), .val (.int (own_nth (Int32.ofNat (pn)) 1)), uu, uu, uu, uu, uu]) rfl ?_
    refine XS.iload X44.here hx rfl (hb hby at_164) rfl ?_
    refine XS.iconst X44.here hx rfl (hb hby at_166) ?_
    refine st45 _ ?_
    refine XS.istore X45.here hx rfl (hb hby at_170) rfl (l' := #[vJ q1, .second, vJ q2, .second, vJ q3, .second, vJ q4, .second, .val (.int p5), .val (.int p6), vR b1, vR b2, vN (tr), vN (pn), .val (.int (own_nth (Int32.ofNat (pn)) 0)), .val (.int (own_nth (Int32.ofNat (pn)) 1)), .val (.int (own_nth (Int32.ofNat (pn)) 2)), uu, uu, uu, uu]) rfl ?_
    exact kt
  obtain ⟨_, _, ⟨T47, L47, k47, n47⟩, -, X47, ⟨Lc47, hQ47, l47, y47, z47⟩, st47⟩ := Jvm.LawKit.callS X45 hx (y := (⟨"com/example/ebbtide/ebbtide/cluster/LoadTreesAtPinLaw", "rank", "([J[JI)I"⟩ : MethodName)) hown (mvT hZ (tw hw 6 rfl)) (mvT hZ (tw hw 7 rfl)) (mvT hZ (tw hw 4 rfl)) (mvT hZ (tw hw 8 rfl)) (by decide) (backOf (W := 0) (rmRk0 l Z a0 hw [] b1 b2 H K h38 n0 Z38 VH VK) hZ (tw hw 8 rfl) (tw hw 4 rfl) (by decide) (by decide)) (g := (mkF m 177 #[vJ q1, .second, vJ q2, .second, vJ q3, .second, vJ q4, .second, .val (.int p5), .val (.int p6), vR b1, vR b2, vN (tr), vN (pn), vN (p0), vN (p1), vN (p2), uu, uu, uu, uu] [(.int (0 : Int32)), (.ref b2), (.ref b1)])) rfl (by rw [hml]; rfl) (argsL := [(.ref b1), (.ref b2), (.int (0 : Int32))]) (rest := []) (lenOf pd__28_5bJ_5bJI_29I rfl) rfl (by show 2 * 0 + _ ≤ _; exact Nat.le_of_eq rfl) (hb hby at_177) (fun _ _ => ⟨rfl, e45, (by decide : 2 + 0 ≤ _), (by decide : 6 + 0 ≤ _)⟩)
  dsimp only [Pt.U, Pt.locs, Pt.cells, Pt.slots] at X47 l47 y47 z47 st47 hQ47
  subst l47 y47 z47
  obtain ⟨rfl, N47q, e47⟩ := hQ47
  have N47 := Fr.app N45 N47q
  obtain ⟨_, _, ⟨T48, L48, k48, n48⟩, -, X48, ⟨Lc48, hQ48, l48, y48, z48⟩, st48⟩ := Jvm.LawKit.callS X47 hx (y := (⟨"com/example/ebbtide/ebbtide/cluster/LoadTreesAtPinLaw", "rank", "([J[JI)I"⟩ : MethodName)) hown (mvT hZ (tw hw 6 rfl)) (mvT hZ (tw hw 7 rfl)) (mvT hZ (tw hw 4 rfl)) (mvT hZ (tw hw 8 rfl)) (by decide) (backOf (W := 0) (rmRk1 l Z a0 hw [] b1 b2 H K h38 n0 Z38 VH VK) hZ (tw hw 8 rfl) (tw hw 4 rfl) (by decide) (by decide)) (g := (mkF m 187 #[vJ q1, .second, vJ q2, .second, vJ q3, .second, vJ q4, .second, .val (.int p5), .val (.int p6), vR b1, vR b2, vN (tr), vN (pn), vN (p0), vN (p1), vN (p2), vN (rkn (own_bf H K) 0), uu, uu, uu] [(.int (1 : Int32)), (.ref b2), (.ref b1)])) rfl (by rw [hml]; rfl) (argsL := [(.ref b1), (.ref b2), (.int (1 : Int32))]) (rest := []) (lenOf pd__28_5bJ_5bJI_29I rfl) rfl (by show 2 * 0 + _ ≤ _; exact Nat.le_of_eq rfl) (hb hby at_187) (fun _ _ => ⟨rfl, e47, (by decide : 2 + 0 ≤ _), (by decide : 6 + 0 ≤ _)⟩)
  dsimp only [Pt.U, Pt.locs, Pt.cells, Pt.slots] at X48 l48 y48 z48 st48 hQ48
  subst l48 y48 z48
  obtain ⟨rfl, N48q, e48⟩ := hQ48
  have N48 := Fr.app N47 N48q
  obtain ⟨_, _, ⟨T49, L49, k49, n49⟩, -, X49, ⟨Lc49, hQ49, l49, y49, z49⟩, st49⟩ := Jvm.LawKit.callS X48 hx (y := (⟨"com/example/ebbtide/ebbtide/cluster/LoadTreesAtPinLaw", "rank", "([J[JI)I"⟩ : MethodName)) hown (mvT hZ (tw hw 6 rfl)) (mvT hZ (tw hw 7 rfl)) (mvT hZ (tw hw 4 rfl)) (mvT hZ (tw hw 8 rfl)) (by decide) (backOf (W := 0) (rmRk2 l Z a0 hw [] b1 b2 H K h38 n0 Z38 VH VK) hZ (tw hw 8 rfl) (tw hw 4 rfl) (by decide) (by decide)) (g := (mkF m 197 #[vJ q1, .second, vJ q2, .second, vJ q3, .second, vJ q4, .second, .val (.int p5), .val (.int p6), vR b1, vR b2, vN (tr), vN (pn), vN (p0), vN (p1), vN (p2), vN (rkn (own_bf H K) 0), vN (rkn (own_bf H K) 1), uu, uu] [(.int (2 : Int32)), (.ref b2), (.ref b1)])) rfl (by rw [hml]; rfl) (argsL := [(.ref b1), (.ref b2), (.int (2 : Int32))]) (rest := []) (lenOf pd__28_5bJ_5bJI_29I rfl) rfl (by show 2 * 0 + _ ≤ _; exact Nat.le_of_eq rfl) (hb hby at_197) (fun _ _ => ⟨rfl, e48, (by decide : 2 + 0 ≤ _), (by decide : 6 + 0 ≤ _)⟩)
  dsimp only [Pt.U, Pt.locs, Pt.cells, Pt.slots] at X49 l49 y49 z49 st49 hQ49
  subst l49 y49 z49
  obtain ⟨rfl, N49q, e49⟩ := hQ49
  have N49 := Fr.app N48 N49q
  obtain ⟨T50, h50, X50, e50, E50, A50, D50, -, st50⟩ := newO X49 hx hZ hown (tw hw 12 rfl) (tw hw 13 rfl) (tw hw 14 rfl) e49 (g := (mkF m 202 #[vJ q1, .second, vJ q2, .second, vJ q3, .second, vJ q4, .second, .val (.int p5), .val (.int p6), vR b1, vR b2, vN (tr), vN (pn), vN (p0), vN (p1), vN (p2), vN (rkn (own_bf H K) 0), vN (rkn (own_bf H K) 1), vN (rkn (own_bf H K) 2), uu] [])) rfl (hb hby at_202) (by decide) (by decide)
  obtain ⟨b50, g50⟩ : ∃ z, z = h38.size := ⟨_, rfl⟩
  rw [← g50] at A50 D50 st50
  have g_b50 : n0 ≤ b50 := Nat.le_trans Z38 (Nat.le_of_eq g50.symm)
  have sz_b50 : h0.size ≤ b50 := (Nat.le_trans K38.1 (Nat.le_of_eq g50.symm))
  have OB50 := OB.new hw A50 (fun L q => D50 L q)
  have K50 : KN n0 h0 h50 := K38.trans (KN.ext E50)
  have Z50 : n0 ≤ h50.size := Nat.le_trans Z38 E50.1
  obtain ⟨T51, h51, k51, X51, e51, E51, A51, st51⟩ := newP X50 hx hZ (tw hw 15 rfl) e50 (g := (mkF m 208 #[vJ q1, .second, vJ q2, .second, vJ q3, .second, vJ q4, .second, .val (.int p5), .val (.int p6), vR b1, vR b2, vN (tr), vN (pn), vN (p0), vN (p1), vN (p2), vN (rkn (own_bf H K) 0), vN (rkn (own_bf H K) 1), vN (rkn (own_bf H K) 2), uu] [(.int (3 : Int32)), (.int (2 : Int32)), (.ref b50), (.ref b50)])) rfl (hb hby at_208) rfl (by decide) (cap := 3) (by decide) (by decide) (by decide) (by decide)
  obtain ⟨b51, g51⟩ : ∃ z, z = h50.size := ⟨_, rfl⟩
  rw [← g51] at A51 st51
  have g_b51 : n0 ≤ b51 := Nat.le_trans Z50 (Nat.le_of_eq g51.symm)
  have sz_b51 : h0.size ≤ b51 := (Nat.le_trans K50.1 (Nat.le_of_eq g51.symm))
  have V51 : AR Z h51 b51 .int 3 (fun _ => (.int (0 : Int32))) := (AR.new A51 (by decide) rfl)
  have K51 : KN n0 h0 h51 := K50.trans (KN.ext E51)
  have Z51 : n0 ≤ h51.size := Nat.le_trans Z50 E51.1
  obtain ⟨T52, h52, k52, X52, e52, E52, A52, st52⟩ := newP X51 hx hZ (tw hw 0 rfl) e51 (g := (mkF m 211 #[vJ q1, .second, vJ q2, .second, vJ q3, .second, vJ q4, .second, .val (.int p5), .val (.int p6), vR b1, vR b2, vN (tr), vN (pn), vN (p0), vN (p1), vN (p2), vN (rkn (own_bf H K) 0), vN (rkn (own_bf H K) 1), vN (rkn (own_bf H K) 2), uu] [(.int (3 : Int32)), (.ref b51), (.int (2 : Int32)), (.ref b50), (.ref b50)])) rfl (hb hby at_211) rfl (by decide) (cap := 3) (by decide) (by decide) (by decide) (by decide)
  obtain ⟨b52, g52⟩ : ∃ z, z = h51.size := ⟨_, rfl⟩
  rw [← g52] at A52 st52
  have g_b52 : n0 ≤ b52 := Nat.le_trans Z51 (Nat.le_of_eq g52.symm)
  have sz_b52 : h0.size ≤ b52 := (Nat.le_trans K51.1 (Nat.le_of_eq g52.symm))
  have V52 : AR Z h52 b52 .long 3 (fun _ => (.long (0 : Int64))) := (AR.new A52 (by decide) rfl)
  have K52 : KN n0 h0 h52 := K51.trans (KN.ext E52)
  have Z52 : n0 ≤ h52.size := Nat.le_trans Z51 E52.1
  have OBn := ((OB50.ext E51).ext E52)
  have l12 : b50 < b51 := Nat.lt_of_lt_of_le A50.lt (Nat.le_of_eq g51.symm)
  have l23 : b51 < b52 := Nat.lt_of_lt_of_le V51.lt (Nat.le_of_eq g52.symm)
  have lt1_b1 : b1 < b50 := Nat.lt_of_lt_of_le VH.lt (Nat.le_of_eq g50.symm)
  have lt1_b2 : b2 < b50 := Nat.lt_of_lt_of_le VK.lt (Nat.le_of_eq g50.symm)
  have f54 := (V51.ext E52)
  obtain ⟨_, _, ⟨T53, L53, k53, n53⟩, -, X53, ⟨Lc53, hQ53, l53, y53, z53⟩, st53⟩ := X52.specialBack hx (y := (⟨"com/example/ebbtide/ebbtide/cluster/LoadTrees", "<init>", "(I[I[J)V"⟩ : MethodName)) rfl hown (mvT hZ (tw hw 16 rfl)) (mvT hZ (tw hw 17 rfl)) (mvT hZ (tw hw 18 rfl)) (by decide) (backOf (W := 1) (rmInit l Z a0 hw [] b50 b51 b52 h52 b50 (Nat.le_of_lt OBn.1.lt) OBn (Nat.le_refl _) f54 V52 l12 l23 OBn.1.lt) hZ (tw hw 18 rfl) (tw hw 14 rfl) (by decide) (by decide)) (g := (mkF m 213 #[vJ q1, .second, vJ q2, .second, vJ q3, .second, vJ q4, .second, .val (.int p5), .val (.int p6), vR b1, vR b2, vN (tr), vN (pn), vN (p0), vN (p1), vN (p2), vN (rkn (own_bf H K) 0), vN (rkn (own_bf H K) 1), vN (rkn (own_bf H K) 2), uu] [(.ref b52), (.ref b51), (.int (2 : Int32)), (.ref b50), (.ref b50)])) rfl (by rw [hml]; rfl) (Steps.refl _) (a := b50) (argsL := [(.int (2 : Int32)), (.ref b51), (.ref b52)]) (rest := [(.ref b50)]) (lenOf pd__28I_5bI_5bJ_29V rfl) rfl (by show 2 * 0 + _ ≤ _; exact Nat.le_of_eq rfl) (hb hby at_213) (fun _ _ => ⟨rfl, e52, (by decide : 5 + 21 ≤ _), (by decide : 42 + 486 ≤ _)⟩)
  dsimp only [Pt.U, Pt.locs, Pt.cells, Pt.slots] at X53 l53 y53 z53 st53 hQ53
  subst l53 y53 z53
  obtain ⟨h53, e53⟩ : ∃ h', T53.heap = h' := ⟨_, rfl⟩
  rw [e53] at hQ53
  obtain ⟨rfl, N53q, K53q, A53, Lq53⟩ := hQ53
  have K53d := K53q
  replace N53q := own_frd N53q g_b50
  replace K53q := K53q.down g_b50
  have K53 : KN n0 h0 h53 := K52.trans K53q
  have Z53 : n0 ≤ h53.size := Nat.le_trans Z52 K53q.1
  have N53 := Fr.app N49 N53q
  have f55 := ((((VH.ext E50).ext E51).ext E52).kn K53d lt1_b1)
  have f56 := ((((VK.ext E50).ext E51).ext E52).kn K53d lt1_b2)
  obtain ⟨cq57, kq57, q57a, q57b, q57c⟩ := isOf hZ e53 Lq53.E
  obtain ⟨_, _, ⟨T57, L57, k57, n57⟩, -, X57, ⟨Lc57, hQ57, l57, y57, z57⟩, st57⟩ := X53.virtualBack hx (y := (⟨"com/example/ebbtide/ebbtide/cluster/LoadTrees", "insert", "(IIJJ)V"⟩ : MethodName)) (z := (⟨"com/example/ebbtide/ebbtide/cluster/LoadTrees", "insert", "(IIJJ)V"⟩ : MethodName)) hown (mvT hZ (tw hw 74 rfl)) (mvT hZ (tw hw 75 rfl)) (notFace_of_selects (args := #[]) (mvT hZ (tw hw 77 rfl))) (mvT hZ (tw hw 77 rfl)) (mvT hZ (tw hw 76 rfl)) (by decide) (backOf (W := 0) (rmIns0 l Z a0 hw [] b50 A53 NN1 II1 (fun _ _ => 0) (fun _ => 0) (fun _ => none) (fun _ _ => 0) 1 0 tr p0 (H p0) (K p0) 0 (fun _ => 0) (fun _ => 0) (fun _ => 0) (fun _ => 0) (fun _ _ => 0) (fun s => own_kv (H s) (K s)) (fun _ => False) h53 b50 (Nat.le_of_lt Lq53.E.lt) Lq53 own_SZ1 (by decide) (by decide) hp0 htr rfl rfl rfl rfl rfl rfl rfl (fun _ => rfl) (fun _ _ => ⟨rfl, rfl⟩)) hZ (tw hw 78 rfl) (tw hw 14 rfl) (by decide) (by decide)) q57a q57c (g := (mkF m 234 #[vJ q1, .second, vJ q2, .second, vJ q3, .second, vJ q4, .second, .val (.int p5), .val (.int p6), vR b1, vR b2, vN (tr), vN (pn), vN (p0), vN (p1), vN (p2), vN (rkn (own_bf H K) 0), vN (rkn (own_bf H K) 1), vN (rkn (own_bf H K) 2), vR b50] [(.long (K p0)), (.long (H p0)), (.int (Int32.ofNat (p0))), (.int (Int32.ofNat (tr))), (.ref b50)])) rfl (by rw [hml]; rfl) (Steps.refl _) (argsL := [(.int (Int32.ofNat (tr))), (.int (Int32.ofNat (p0))), (.long (H p0)), (.long (K p0))]) (rest := []) (lenOf pd__28IIJJ_29V rfl) rfl (by show 2 * 0 + _ ≤ _; exact Nat.le_of_eq rfl) (hb hby at_234) (fun _ _ => ⟨rfl, e53, (by decide : 26 + 1 ≤ _), (by decide : 528 + 4 ≤ _)⟩)
  dsimp only [Pt.U, Pt.locs, Pt.cells, Pt.slots] at X57 l57 y57 z57 st57 hQ57
  subst l57 y57 z57
  obtain ⟨h57, e57⟩ : ∃ h', T57.heap = h' := ⟨_, rfl⟩
  rw [e57] at hQ57
  obtain ⟨rfl, N57q, K57q, iI57, iJ57, icc57, iM57, iB57, in57, ich57, ikf57, ilf57, isz57, imb57, Lq57, HT57, HI57, tt57⟩ := hQ57
  have K57d := K57q
  replace N57q := own_frd N57q g_b50
  replace K57q := K57q.down g_b50
  have K57 : KN n0 h0 h57 := K53.trans K57q
  have Z57 : n0 ≤ h57.size := Nat.le_trans Z53 K57q.1
  have N57 := Fr.app N53 N57q
  replace tt57 : tot isz57 in57 = 1 := tt57
  have f58 := (f55.kn K57d lt1_b1)
  have f59 := (f56.kn K57d lt1_b2)
  obtain ⟨cq60, kq60, q60a, q60b, q60c⟩ := isOf hZ e57 Lq57.E
  obtain ⟨_, _, ⟨T60, L60, k60, n60⟩, -, X60, ⟨Lc60, hQ60, l60, y60, z60⟩, st60⟩ := X57.virtualBack hx (y := (⟨"com/example/ebbtide/ebbtide/cluster/LoadTrees", "insert", "(IIJJ)V"⟩ : MethodName)) (z := (⟨"com/example/ebbtide/ebbtide/cluster/LoadTrees", "insert", "(IIJJ)V"⟩ : MethodName)) hown (mvT hZ (tw hw 74 rfl)) (mvT hZ (tw hw 75 rfl)) (notFace_of_selects (args := #[]) (mvT hZ (tw hw 77 rfl))) (mvT hZ (tw hw 77 rfl)) (mvT hZ (tw hw 76 rfl)) (by decide) (backOf (W := 0) (rmIns l Z a0 hw [] b50 A53 NN1 iI57 iJ57 icc57 iM57 iB57 1 0 tr p1 (H p1) (K p1) in57 ich57 ikf57 ilf57 isz57 imb57 (fun s => own_kv (H s) (K s)) (fun x => False ∨ x = p0) h57 b50 (Nat.le_of_lt Lq57.E.lt) Lq57 own_SZ1 (by decide) (by decide) hp1 htr rfl HI57 (by rintro (h | h); exact h; omega) (by omega) HT57 (own_tn tt57)) hZ (tw hw 78 rfl) (tw hw 14 rfl) (by decide) (by decide)) q60a q60c (g := (mkF m 253 #[vJ q1, .second, vJ q2, .second, vJ q3, .second, vJ q4, .second, .val (.int p5), .val (.int p6), vR b1, vR b2, vN (tr), vN (pn), vN (p0), vN (p1), vN (p2), vN (rkn (own_bf H K) 0), vN (rkn (own_bf H K) 1), vN (rkn (own_bf H K) 2), vR b50] [(.long (K p1)), (.long (H p1)), (.int (Int32.ofNat (p1))), (.int (Int32.ofNat (tr))), (.ref b50)])) rfl (by rw [hml]; rfl) (Steps.refl _) (argsL := [(.int (Int32.ofNat (tr))), (.int (Int32.ofNat (p1))), (.long (H p1)), (.long (K p1))]) (rest := []) (lenOf pd__28IIJJ_29V rfl) rfl (by show 2 * 0 + _ ≤ _; exact Nat.le_of_eq rfl) (hb hby at_253) (fun _ _ => ⟨rfl, e57, (by decide : 27 + 1 ≤ _), (by decide : 532 + 4 ≤ _)⟩)
  dsimp only [Pt.U, Pt.locs, Pt.cells, Pt.slots] at X60 l60 y60 z60 st60 hQ60
  subst l60 y60 z60
  obtain ⟨h60, e60⟩ : ∃ h', T60.heap = h' := ⟨_, rfl⟩
  rw [e60] at hQ60
  obtain ⟨rfl, N60q, K60q, iI60, iJ60, icc60, iM60, iB60, in60, ich60, ikf60, ilf60, isz60, imb60, Lq60, HT60, HI60, tt60⟩ := hQ60
  have K60d := K60q
  replace N60q := own_frd N60q g_b50
  replace K60q := K60q.down g_b50
  have K60 : KN n0 h0 h60 := K57.trans K60q
  have Z60 : n0 ≤ h60.size := Nat.le_trans Z57 K60q.1
  have N60 := Fr.app N57 N60q
  replace tt60 : tot isz60 in60 = 2 := tt60.trans (congrArg (· + 1) tt57)
  have f61 := (f58.kn K60d lt1_b1)
  have f62 := (f59.kn K60d lt1_b2)
  obtain ⟨cq63, kq63, q63a, q63b, q63c⟩ := isOf hZ e60 Lq60.E
  obtain ⟨_, _, ⟨T63, L63, k63, n63⟩, -, X63, ⟨Lc63, hQ63, l63, y63, z63⟩, st63⟩ := X60.virtualBack hx (y := (⟨"com/example/ebbtide/ebbtide/cluster/LoadTrees", "insert", "(IIJJ)V"⟩ : MethodName)) (z := (⟨"com/example/ebbtide/ebbtide/cluster/LoadTrees", "insert", "(IIJJ)V"⟩ : MethodName)) hown (mvT hZ (tw hw 74 rfl)) (mvT hZ (tw hw 75 rfl)) (notFace_of_selects (args := #[]) (mvT hZ (tw hw 77 rfl))) (mvT hZ (tw hw 77 rfl)) (mvT hZ (tw hw 76 rfl)) (by decide) (backOf (W := 0) (rmIns l Z a0 hw [] b50 A53 NN1 iI60 iJ60 icc60 iM60 iB60 1 0 tr p2 (H p2) (K p2) in60 ich60 ikf60 ilf60 isz60 imb60 (fun s => own_kv (H s) (K s)) (fun x => (False ∨ x = p0) ∨ x = p1) h60 b50 (Nat.le_of_lt Lq60.E.lt) Lq60 own_SZ1 (by decide) (by decide) hp2 htr rfl HI60 (by rintro ((h | h) | h); exact h; omega; omega) (by omega) HT60 (own_tn tt60)) hZ (tw hw 78 rfl) (tw hw 14 rfl) (by decide) (by decide)) q63a q63c (g := (mkF m 272 #[vJ q1, .second, vJ q2, .second, vJ q3, .second, vJ q4, .second, .val (.int p5), .val (.int p6), vR b1, vR b2, vN (tr), vN (pn), vN (p0), vN (p1), vN (p2), vN (rkn (own_bf H K) 0), vN (rkn (own_bf H K) 1), vN (rkn (own_bf H K) 2), vR b50] [(.long (K p2)), (.long (H p2)), (.int (Int32.ofNat (p2))), (.int (Int32.ofNat (tr))), (.ref b50)])) rfl (by rw [hml]; rfl) (Steps.refl _) (argsL := [(.int (Int32.ofNat (tr))), (.int (Int32.ofNat (p2))), (.long (H p2)), (.long (K p2))]) (rest := []) (lenOf pd__28IIJJ_29V rfl) rfl (by show 2 * 0 + _ ≤ _; exact Nat.le_of_eq rfl) (hb hby at_272) (fun _ _ => ⟨rfl, e60, (by decide : 28 + 1 ≤ _), (by decide : 536 + 4 ≤ _)⟩)
  dsimp only [Pt.U, Pt.locs, Pt.cells, Pt.slots] at X63 l63 y63 z63 st63 hQ63
  subst l63 y63 z63
  obtain ⟨h63, e63⟩ : ∃ h', T63.heap = h' := ⟨_, rfl⟩
  rw [e63] at hQ63
  obtain ⟨rfl, N63q, K63q, iI63, iJ63, icc63, iM63, iB63, in63, ich63, ikf63, ilf63, isz63, imb63, Lq63, HT63, HI63, tt63⟩ := hQ63
  have K63d := K63q
  replace N63q := own_frd N63q g_b50
  replace K63q := K63q.down g_b50
  have K63 : KN n0 h0 h63 := K60.trans K63q
  have Z63 : n0 ≤ h63.size := Nat.le_trans Z60 K63q.1
  have N63 := Fr.app N60 N63q
  replace tt63 : tot isz63 in63 = 3 := tt63.trans (congrArg (· + 1) tt60)
  obtain ⟨f3, b01, b12, b02⟩ := own_flt HI63 tt63
  have rk := own_rank (own_bfk H K) f3 b01 b12 b02
  obtain ⟨cq64, kq64, q64a, q64b, q64c⟩ := isOf hZ e63 Lq63.E
  obtain ⟨_, _, ⟨T64, L64, k64, n64⟩, -, X64, ⟨Lc64, hQ64, l64, y64, z64⟩, st64⟩ := X63.virtualBack hx (y := (⟨"com/example/ebbtide/ebbtide/cluster/LoadTrees", "at", "(II)I"⟩ : MethodName)) (z := (⟨"com/example/ebbtide/ebbtide/cluster/LoadTrees", "at", "(II)I"⟩ : MethodName)) hown (mvT hZ (tw hw 134 rfl)) (mvT hZ (tw hw 135 rfl)) (notFace_of_selects (args := #[]) (mvT hZ (tw hw 137 rfl))) (mvT hZ (tw hw 137 rfl)) (mvT hZ (tw hw 136 rfl)) (by decide) (backOf (W := 0) (rmAT l Z a0 hw [] b50 A53 NN1 iI63 iJ63 icc63 iM63 iB63 1 0 tr (rkn (own_bf H K) 0) in63 ich63 ikf63 ilf63 isz63 imb63 (fun s => own_kv (H s) (K s)) (fun x => ((False ∨ x = p0) ∨ x = p1) ∨ x = p2) h63 b50 (Nat.le_of_lt Lq63.E.lt) Lq63 own_SZ1 (by decide) (by decide) htr HT63 HI63 tt63 (rk 0 (by decide)).1) hZ (tw hw 138 rfl) (tw hw 14 rfl) (by decide) (by decide)) q64a q64c (g := (mkF m 281 #[vJ q1, .second, vJ q2, .second, vJ q3, .second, vJ q4, .second, .val (.int p5), .val (.int p6), vR b1, vR b2, vN (tr), vN (pn), vN (p0), vN (p1), vN (p2), vN (rkn (own_bf H K) 0), vN (rkn (own_bf H K) 1), vN (rkn (own_bf H K) 2), vR b50] [(.int (Int32.ofNat (rkn (own_bf H K) 0))), (.int (Int32.ofNat (tr))), (.ref b50)])) rfl (by rw [hml]; rfl) (Steps.refl _) (argsL := [(.int (Int32.ofNat (tr))), (.int (Int32.ofNat (rkn (own_bf H K) 0)))]) (rest := []) (lenOf pd__28II_29I rfl) rfl (by show 2 * 0 + _ ≤ _; exact Nat.le_of_eq rfl) (hb hby at_281) (fun _ _ => ⟨rfl, e63, (by decide : 29 + 0 ≤ _), (by decide : 540 + 0 ≤ _)⟩)
  dsimp only [Pt.U, Pt.locs, Pt.cells, Pt.slots] at X64 l64 y64 z64 st64 hQ64
  subst l64 y64 z64
  obtain ⟨rfl, N64q, e64⟩ := hQ64
  replace N64q := own_frd N64q g_b50
  have N64 := Fr.app N63 N64q
  obtain ⟨cq65, kq65, q65a, q65b, q65c⟩ := isOf hZ e64 Lq63.E
  obtain ⟨_, _, ⟨T65, L65, k65, n65⟩, -, X65, ⟨Lc65, hQ65, l65, y65, z65⟩, st65⟩ := X64.virtualBack hx (y := (⟨"com/example/ebbtide/ebbtide/cluster/LoadTrees", "at", "(II)I"⟩ : MethodName)) (z := (⟨"com/example/ebbtide/ebbtide/cluster/LoadTrees", "at", "(II)I"⟩ : MethodName)) hown (mvT hZ (tw hw 134 rfl)) (mvT hZ (tw hw 135 rfl)) (notFace_of_selects (args := #[]) (mvT hZ (tw hw 137 rfl))) (mvT hZ (tw hw 137 rfl)) (mvT hZ (tw hw 136 rfl)) (by decide) (backOf (W := 0) (rmAT l Z a0 hw [] b50 A53 NN1 iI63 iJ63 icc63 iM63 iB63 1 0 tr (rkn (own_bf H K) 1) in63 ich63 ikf63 ilf63 isz63 imb63 (fun s => own_kv (H s) (K s)) (fun x => ((False ∨ x = p0) ∨ x = p1) ∨ x = p2) h63 b50 (Nat.le_of_lt Lq63.E.lt) Lq63 own_SZ1 (by decide) (by decide) htr HT63 HI63 tt63 (rk 1 (by decide)).1) hZ (tw hw 138 rfl) (tw hw 14 rfl) (by decide) (by decide)) q65a q65c (g := (mkF m 293 #[vJ q1, .second, vJ q2, .second, vJ q3, .second, vJ q4, .second, .val (.int p5), .val (.int p6), vR b1, vR b2, vN (tr), vN (pn), vN (p0), vN (p1), vN (p2), vN (rkn (own_bf H K) 0), vN (rkn (own_bf H K) 1), vN (rkn (own_bf H K) 2), vR b50] [(.int (Int32.ofNat (rkn (own_bf H K) 1))), (.int (Int32.ofNat (tr))), (.ref b50)])) rfl (by rw [hml]; rfl) (Steps.refl _) (argsL := [(.int (Int32.ofNat (tr))), (.int (Int32.ofNat (rkn (own_bf H K) 1)))]) (rest := []) (lenOf pd__28II_29I rfl) rfl (by show 2 * 0 + _ ≤ _; exact Nat.le_of_eq rfl) (hb hby at_293) (fun _ _ => ⟨rfl, e64, (by decide : 29 + 0 ≤ _), (by decide : 540 + 0 ≤ _)⟩)
  dsimp only [Pt.U, Pt.locs, Pt.cells, Pt.slots] at X65 l65 y65 z65 st65 hQ65
  subst l65 y65 z65
  obtain ⟨rfl, N65q, e65⟩ := hQ65
  replace N65q := own_frd N65q g_b50
  have N65 := Fr.app N64 N65q
  obtain ⟨cq66, kq66, q66a, q66b, q66c⟩ := isOf hZ e65 Lq63.E
  obtain ⟨_, _, ⟨T66, L66, k66, n66⟩, -, X66, ⟨Lc66, hQ66, l66, y66, z66⟩, st66⟩ := X65.virtualBack hx (y := (⟨"com/example/ebbtide/ebbtide/cluster/LoadTrees", "at", "(II)I"⟩ : MethodName)) (z := (⟨"com/example/ebbtide/ebbtide/cluster/LoadTrees", "at", "(II)I"⟩ : MethodName)) hown (mvT hZ (tw hw 134 rfl)) (mvT hZ (tw hw 135 rfl)) (notFace_of_selects (args := #[]) (mvT hZ (tw hw 137 rfl))) (mvT hZ (tw hw 137 rfl)) (mvT hZ (tw hw 136 rfl)) (by decide) (backOf (W := 0) (rmAT l Z a0 hw [] b50 A53 NN1 iI63 iJ63 icc63 iM63 iB63 1 0 tr (rkn (own_bf H K) 2) in63 ich63 ikf63 ilf63 isz63 imb63 (fun s => own_kv (H s) (K s)) (fun x => ((False ∨ x = p0) ∨ x = p1) ∨ x = p2) h63 b50 (Nat.le_of_lt Lq63.E.lt) Lq63 own_SZ1 (by decide) (by decide) htr HT63 HI63 tt63 (rk 2 (by decide)).1) hZ (tw hw 138 rfl) (tw hw 14 rfl) (by decide) (by decide)) q66a q66c (g := (mkF m 306 #[vJ q1, .second, vJ q2, .second, vJ q3, .second, vJ q4, .second, .val (.int p5), .val (.int p6), vR b1, vR b2, vN (tr), vN (pn), vN (p0), vN (p1), vN (p2), vN (rkn (own_bf H K) 0), vN (rkn (own_bf H K) 1), vN (rkn (own_bf H K) 2), vR b50] [(.int (Int32.ofNat (rkn (own_bf H K) 2))), (.int (Int32.ofNat (tr))), (.ref b50)])) rfl (by rw [hml]; rfl) (Steps.refl _) (argsL := [(.int (Int32.ofNat (tr))), (.int (Int32.ofNat (rkn (own_bf H K) 2)))]) (rest := []) (lenOf pd__28II_29I rfl) rfl (by show 2 * 0 + _ ≤ _; exact Nat.le_of_eq rfl) (hb hby at_306) (fun _ _ => ⟨rfl, e65, (by decide : 29 + 0 ≤ _), (by decide : 540 + 0 ≤ _)⟩)
  dsimp only [Pt.U, Pt.locs, Pt.cells, Pt.slots] at X66 l66 y66 z66 st66 hQ66
  subst l66 y66 z66
  obtain ⟨rfl, N66q, e66⟩ := hQ66
  replace N66q := own_frd N66q g_b50
  have N66 := Fr.app N65 N66q
  obtain ⟨fs, hr, hrun, hended, hW, hsame⟩ := X66.leave (v := some (.int (1 : Int32))) (fun h => by rw [Bd.returns] at h; cases h)
  refine ⟨_, _, pre0 _ (c4 _ (c7 _ (c10 _ (c13 _ (c16 _ (c19 _ (c22 _ (c25 _ (c28 _ (c31 _ (c34 _ (c37 _ (c41 _ (c42 _ (c46 _ (?_)))))))))))))))), hrun, hended, _, _, rfl, ?_, ⟨_, rfl⟩, hW, hsame.mono (by decide) (by decide)⟩
  · show Steps p.tables e below (T45.setTop (mkF m 172 #[vJ q1, .second, vJ q2, .second, vJ q3, .second, vJ q4, .second, .val (.int p5), .val (.int p6), vR b1, vR b2, vN (tr), vN (pn), vN (p0), vN (p1), vN (p2), uu, uu, uu, uu] [])) _
    refine XS.aload X45.here hx rfl (hb hby at_172) rfl rfl ?_
    refine XS.aload X45.here hx rfl (hb hby at_174) rfl rfl ?_
    refine XS.iconst X45.here hx rfl (hb hby at_176) ?_
    refine st47 _ ?_
    refine XS.istore X47.here hx rfl (hb hby at_180) rfl (l' := #[vJ q1, .second, vJ q2, .second, vJ q3, .second, vJ q4, .second, .val (.int p5), .val (.int p6), vR b1, vR b2, vN (tr), vN (pn), vN (p0), vN (p1), vN (p2), vN (rkn (own_bf H K) 0), uu, uu, uu]) rfl ?_
    refine XS.aload X47.here hx rfl (hb hby at_182) rfl rfl ?_
    refine XS.aload X47.here hx rfl (hb hby at_184) rfl rfl ?_
    refine XS.iconst X47.here hx rfl (hb hby at_186) ?_
    refine st48 _ ?_
    refine XS.istore X48.here hx rfl (hb hby at_190) rfl (l' := #[vJ q1, .second, vJ q2, .second, vJ q3, .second, vJ q4, .second, .val (.int p5), .val (.int p6), vR b1, vR b2, vN (tr), vN (pn), vN (p0), vN (p1), vN (p2), vN (rkn (own_bf H K) 0), vN (rkn (own_bf H K) 1), uu, uu]) rfl ?_
    refine XS.aload X48.here hx rfl (hb hby at_192) rfl rfl ?_
    refine XS.aload X48.here hx rfl (hb hby at_194) rfl rfl ?_
    show Steps p.tables e below (T48.setTop (mkF m 196 #[vJ q1, .second, vJ q2, .second, vJ q3, .second, vJ q4, .second, .val (.int p5), .val (.int p6), vR b1, vR b2, vN (tr), vN (pn), vN (p0), vN (p1), vN (p2), vN (rkn (own_bf H K) 0), vN (rkn (own_bf H K) 1), uu, uu] [(.ref b2), (.ref b1)])) _
    refine XS.iconst X48.here hx rfl (hb hby at_196) ?_
    refine st49 _ ?_
    refine XS.istore X49.here hx rfl (hb hby at_200) rfl (l' := #[vJ q1, .second, vJ q2, .second, vJ q3, .second, vJ q4, .second, .val (.int p5), .val (.int p6), vR b1, vR b2, vN (tr), vN (pn), vN (p0), vN (p1), vN (p2), vN (rkn (own_bf H K) 0), vN (rkn (own_bf H K) 1), vN (rkn (own_bf H K) 2), uu]) rfl ?_
    refine st50 _ ?_
    refine XS.dup X50.here hx rfl (hb hby at_205) rfl rfl ?_
    refine XS.iconst X50.here hx rfl (hb hby at_206) ?_
    refine XS.iconst X50.here hx rfl (hb hby at_207) ?_
    refine st51 _ ?_
    refine XS.iconst X51.here hx rfl (hb hby at_210) ?_
    refine st52 _ ?_
    refine st53.trans ?_
    refine XS.astore X53.here hx rfl (hb hby at_216) rfl rfl (l' := #[vJ q1, .second, vJ q2, .second, vJ q3, .second, vJ q4, .second, .val (.int p5), .val (.int p6), vR b1, vR b2, vN (tr), vN (pn), vN (p0), vN (p1), vN (p2), vN (rkn (own_bf H K) 0), vN (rkn (own_bf H K) 1), vN (rkn (own_bf H K) 2), vR b50]) rfl ?_
    show Steps p.tables e below (T53.setTop (mkF m 218 #[vJ q1, .second, vJ q2, .second, vJ q3, .second, vJ q4, .second, .val (.int p5), .val (.int p6), vR b1, vR b2, vN (tr), vN (pn), vN (p0), vN (p1), vN (p2), vN (rkn (own_bf H K) 0), vN (rkn (own_bf H K) 1), vN (rkn (own_bf H K) 2), vR b50] [])) _
    refine XS.aload X53.here hx rfl (hb hby at_218) rfl rfl ?_
    refine XS.iload X53.here hx rfl (hb hby at_220) rfl ?_
    refine XS.iload X53.here hx rfl (hb hby at_222) rfl ?_
    refine XS.aload X53.here hx rfl (hb hby at_224) rfl rfl ?_
    refine XS.iload X53.here hx rfl (hb hby at_226) rfl ?_
    refine own_ldJN X53 hx hZ e53 f55 (i := p0) (x := (H (p0))) hp0 rfl (g := (mkF m 228 #[vJ q1, .second, vJ q2, .second, vJ q3, .second, vJ q4, .second, .val (.int p5), .val (.int p6), vR b1, vR b2, vN (tr), vN (pn), vN (p0), vN (p1), vN (p2), vN (rkn (own_bf H K) 0), vN (rkn (own_bf H K) 1), vN (rkn (own_bf H K) 2), vR b50] [(.int (Int32.ofNat (p0))), (.ref b1), (.int (Int32.ofNat (p0))), (.int (Int32.ofNat (tr))), (.ref b50)])) rfl rfl (hb hby at_228) _ ?_
    refine XS.aload X53.here hx rfl (hb hby at_229) rfl rfl ?_
    refine XS.iload X53.here hx rfl (hb hby at_231) rfl ?_
    refine own_ldJN X53 hx hZ e53 f56 (i := p0) (x := (K (p0))) hp0 rfl (g := (mkF m 233 #[vJ q1, .second, vJ q2, .second, vJ q3, .second, vJ q4, .second, .val (.int p5), .val (.int p6), vR b1, vR b2, vN (tr), vN (pn), vN (p0), vN (p1), vN (p2), vN (rkn (own_bf H K) 0), vN (rkn (own_bf H K) 1), vN (rkn (own_bf H K) 2), vR b50] [(.int (Int32.ofNat (p0))), (.ref b2), (.long (H p0)), (.int (Int32.ofNat (p0))), (.int (Int32.ofNat (tr))), (.ref b50)])) rfl rfl (hb hby at_233) _ ?_
    refine st57.trans ?_
    refine XS.aload X57.here hx rfl (hb hby at_237) rfl rfl ?_
    refine XS.iload X57.here hx rfl (hb hby at_239) rfl ?_
    show Steps p.tables e below (T57.setTop (mkF m 241 #[vJ q1, .second, vJ q2, .second, vJ q3, .second, vJ q4, .second, .val (.int p5), .val (.int p6), vR b1, vR b2, vN (tr), vN (pn), vN (p0), vN (p1), vN (p2), vN (rkn (own_bf H K) 0), vN (rkn (own_bf H K) 1), vN (rkn (own_bf H K) 2), vR b50] [(.int (Int32.ofNat (tr))), (.ref b50)])) _
    refine XS.iload X57.here hx rfl (hb hby at_241) rfl ?_
    refine XS.aload X57.here hx rfl (hb hby at_243) rfl rfl ?_
    refine XS.iload X57.here hx rfl (hb hby at_245) rfl ?_
    refine own_ldJN X57 hx hZ e57 f58 (i := p1) (x := (H (p1))) hp1 rfl (g := (mkF m 247 #[vJ q1, .second, vJ q2, .second, vJ q3, .second, vJ q4, .second, .val (.int p5), .val (.int p6), vR b1, vR b2, vN (tr), vN (pn), vN (p0), vN (p1), vN (p2), vN (rkn (own_bf H K) 0), vN (rkn (own_bf H K) 1), vN (rkn (own_bf H K) 2), vR b50] [(.int (Int32.ofNat (p1))), (.ref b1), (.int (Int32.ofNat (p1))), (.int (Int32.ofNat (tr))), (.ref b50)])) rfl rfl (hb hby at_247) _ ?_
    refine XS.aload X57.here hx rfl (hb hby at_248) rfl rfl ?_
    refine XS.iload X57.here hx rfl (hb hby at_250) rfl ?_
    refine own_ldJN X57 hx hZ e57 f59 (i := p1) (x := (K (p1))) hp1 rfl (g := (mkF m 252 #[vJ q1, .second, vJ q2, .second, vJ q3, .second, vJ q4, .second, .val (.int p5), .val (.int p6), vR b1, vR b2, vN (tr), vN (pn), vN (p0), vN (p1), vN (p2), vN (rkn (own_bf H K) 0), vN (rkn (own_bf H K) 1), vN (rkn (own_bf H K) 2), vR b50] [(.int (Int32.ofNat (p1))), (.ref b2), (.long (H p1)), (.int (Int32.ofNat (p1))), (.int (Int32.ofNat (tr))), (.ref b50)])) rfl rfl (hb hby at_252) _ ?_
    refine st60.trans ?_
    refine XS.aload X60.here hx rfl (hb hby at_256) rfl rfl ?_
    refine XS.iload X60.here hx rfl (hb hby at_258) rfl ?_
    refine XS.iload X60.here hx rfl (hb hby at_260) rfl ?_
    refine XS.aload X60.here hx rfl (hb hby at_262) rfl rfl ?_
    show Steps p.tables e below (T60.setTop (mkF m 264 #[vJ q1, .second, vJ q2, .second, vJ q3, .second, vJ q4, .second, .val (.int p5), .val (.int p6), vR b1, vR b2, vN (tr), vN (pn), vN (p0), vN (p1), vN (p2), vN (rkn (own_bf H K) 0), vN (rkn (own_bf H K) 1), vN (rkn (own_bf H K) 2), vR b50] [(.ref b1), (.int (Int32.ofNat (p2))), (.int (Int32.ofNat (tr))), (.ref b50)])) _
    refine XS.iload X60.here hx rfl (hb hby at_264) rfl ?_
    refine own_ldJN X60 hx hZ e60 f61 (i := p2) (x := (H (p2))) hp2 rfl (g := (mkF m 266 #[vJ q1, .second, vJ q2, .second, vJ q3, .second, vJ q4, .second, .val (.int p5), .val (.int p6), vR b1, vR b2, vN (tr), vN (pn), vN (p0), vN (p1), vN (p2), vN (rkn (own_bf H K) 0), vN (rkn (own_bf H K) 1), vN (rkn (own_bf H K) 2), vR b50] [(.int (Int32.ofNat (p2))), (.ref b1), (.int (Int32.ofNat (p2))), (.int (Int32.ofNat (tr))), (.ref b50)])) rfl rfl (hb hby at_266) _ ?_
    refine XS.aload X60.here hx rfl (hb hby at_267) rfl rfl ?_
    refine XS.iload X60.here hx rfl (hb hby at_269) rfl ?_
    refine own_ldJN X60 hx hZ e60 f62 (i := p2) (x := (K (p2))) hp2 rfl (g := (mkF m 271 #[vJ q1, .second, vJ q2, .second, vJ q3, .second, vJ q4, .second, .val (.int p5), .val (.int p6), vR b1, vR b2, vN (tr), vN (pn), vN (p0), vN (p1), vN (p2), vN (rkn (own_bf H K) 0), vN (rkn (own_bf H K) 1), vN (rkn (own_bf H K) 2), vR b50] [(.int (Int32.ofNat (p2))), (.ref b2), (.long (H p2)), (.int (Int32.ofNat (p2))), (.int (Int32.ofNat (tr))), (.ref b50)])) rfl rfl (hb hby at_271) _ ?_
    refine st63.trans ?_
    refine XS.aload X63.here hx rfl (hb hby at_275) rfl rfl ?_
    refine XS.iload X63.here hx rfl (hb hby at_277) rfl ?_
    refine XS.iload X63.here hx rfl (hb hby at_279) rfl ?_
    refine st64.trans ?_
    refine XS.ifNo X64.here hx rfl (hb hby at_284) rfl ((if0 _ _).trans (teq (by rw [(rk 0 (by decide)).2]; rfl)).2) ?_
    refine XS.aload X64.here hx rfl (hb hby at_287) rfl rfl ?_
    show Steps p.tables e below (T64.setTop (mkF m 289 #[vJ q1, .second, vJ q2, .second, vJ q3, .second, vJ q4, .second, .val (.int p5), .val (.int p6), vR b1, vR b2, vN (tr), vN (pn), vN (p0), vN (p1), vN (p2), vN (rkn (own_bf H K) 0), vN (rkn (own_bf H K) 1), vN (rkn (own_bf H K) 2), vR b50] [(.ref b50)])) _
    refine XS.iload X64.here hx rfl (hb hby at_289) rfl ?_
    refine XS.iload X64.here hx rfl (hb hby at_291) rfl ?_
    refine st65.trans ?_
    refine XS.iconst X65.here hx rfl (hb hby at_296) ?_
    refine XS.icmpNo X65.here hx rfl (hb hby at_297) rfl (teq (by rw [(rk 1 (by decide)).2]; rfl)).2 ?_
    refine XS.aload X65.here hx rfl (hb hby at_300) rfl rfl ?_
    refine XS.iload X65.here hx rfl (hb hby at_302) rfl ?_
    refine XS.iload X65.here hx rfl (hb hby at_304) rfl ?_
    refine st66.trans ?_
    refine XS.iconst X66.here hx rfl (hb hby at_309) ?_
    refine XS.icmpNo X66.here hx rfl (hb hby at_310) rfl (teq (by rw [(rk 2 (by decide)).2]; rfl)).2 ?_
    refine XS.iconst X66.here hx rfl (hb hby at_313) ?_
    show Steps p.tables e below (T66.setTop (mkF m 314 #[vJ q1, .second, vJ q2, .second, vJ q3, .second, vJ q4, .second, .val (.int p5), .val (.int p6), vR b1, vR b2, vN (tr), vN (pn), vN (p0), vN (p1), vN (p2), vN (rkn (own_bf H K) 0), vN (rkn (own_bf H K) 1), vN (rkn (own_bf H K) 2), vR b50] [(.int (1 : Int32))])) _
    refine XS.goto X66.here hx rfl (pc0 := 314) (pc' := 318) rfl (hb hby at_314) (by decide) (by decide) ?_
    show Steps p.tables e below (T66.setTop (mkF m 318 #[vJ q1, .second, vJ q2, .second, vJ q3, .second, vJ q4, .second, .val (.int p5), .val (.int p6), vR b1, vR b2, vN (tr), vN (pn), vN (p0), vN (p1), vN (p2), vN (rkn (own_bf H K) 0), vN (rkn (own_bf H K) 1), vN (rkn (own_bf H K) 2), vR b50] [(.int (1 : Int32))])) _
    exact retN X66 hx (t := .boolean) Bd.returns (by simp) (hb hby at_318) hr
  · show Qrm0 Z q1 q2 q3 q4 p5 p6 h0 n0 _ T66.heap _
    rw [e66]
    exact ⟨rfl, N66⟩
set_option maxRecDepth 65536 in
set_option maxHeartbeats 40000000 in
theorem comes_1 {Post : Tables → Env → Array Value → State → Outcome → State → Prop} (hpost : ∀ tb e args s v u, (limb_1_1.after args s (.returned v) u = true ∧ limb_1_2.after args s (.returned v) u = true ∧ True) → FrameEnd s (.returned v) u (Jvm.fieldLocs frame_1_writes args s ++ Jvm.arrayLocs frame_1_arrays args s ++ Jvm.staticLocs frame_1_statics s) 72 1152 → Post tb e args s (.returned v) u) :
    ArmFor flags0 classFile x code maxLocals ret World_1 tables_1 room_1 Calls_1 rest_1 Pre_1 Post := by
  intro l hfl _ _ p e ha hc hk s m args below hf hA hF happ hP
  obtain ⟨hcalls, hrest, hpre⟩ := hP
  obtain ⟨-, -, -, hnamed, -, -, -, hat⟩ := (Spec.applies_iff hf).mp happ
  obtain ⟨hg, hn⟩ := and_e (Cond.before_iff.mp (show (Jvm.Cond.and given_1 narrow_1).before args s = true from hpre))
  obtain ⟨gc, r0⟩ := and_e hg
  obtain ⟨g0, r1⟩ := and_e r0
  obtain ⟨g1, r2⟩ := and_e r1
  obtain ⟨g2, r3⟩ := and_e r2
  obtain ⟨g3, r4⟩ := and_e r3
  obtain ⟨g4, r5⟩ := and_e r4
  have g5 := r5
  obtain ⟨w0, w1, w2, w3, w4, w5, rfl⟩ : ∃ w0 w1 w2 w3 w4 w5 : Value, args = #[w0, w1, w2, w3, w4, w5] := by
    have hs : args.size = 6 := by simpa [Cond.value, given_1] using gc
    obtain ⟨L⟩ := args
    match L, hs with
    | [w0, w1, w2, w3, w4, w5], _ => exact ⟨w0, w1, w2, w3, w4, w5, rfl⟩
  have hw := fun d (hd : d ∈ tables_1) => atoms_spec (ws := Jvm.Cond.code x code maxLocals ret :: tables_1) hat d (List.mem_cons_of_mem _ hd)
  have hfit : Fit s := fun {y c} hc i hi => by
    obtain ⟨ha, rfl⟩ := Array.getElem?_eq_some_iff.mp hc
    have q := List.all_eq_true.mp ((Array.all_eq_true_iff_forall_mem.mp hF) _ (Array.getElem_mem ha)) i (List.mem_range.mpr hi)
    simpa [Array.getElem?_eq_getElem hi] using q
  obtain ⟨i0, ei0⟩ := isL_v g0
  obtain rfl : w0 = (.long i0) := Option.some.inj ei0
  obtain ⟨i1, ei1⟩ := isL_v g1
  obtain rfl : w1 = (.long i1) := Option.some.inj ei1
  obtain ⟨i2, ei2⟩ := isL_v g2
  obtain rfl : w2 = (.long i2) := Option.some.inj ei2
  obtain ⟨i3, ei3⟩ := isL_v g3
  obtain rfl : w3 = (.long i3) := Option.some.inj ei3
  obtain ⟨i4, ei4⟩ := is_v g4
  obtain rfl : w4 = (.int i4) := Option.some.inj ei4
  obtain ⟨i5, ei5⟩ := is_v g5
  obtain rfl : w5 = (.int i5) := Option.some.inj ei5
  obtain ⟨n, o, h1, h2, h3, _, L, rfl, ⟨rfl, N⟩, hq⟩ := rm0 l s _ hw tables_1 i0 i1 i2 i3 i4 i5 s.heap s.heap.size (Nat.le_refl _) p e ha hc hk s m _ below hf ((Spec.applies_iff_loose hf).mp happ).1 ⟨rfl, State.Warmed39.refl s, rfl⟩ trivial
  refine ⟨n, _, h1, h2, h3, hpost _ _ _ _ _ _ ⟨Cond.after_iff.mpr rfl, Cond.after_iff.mpr (eq_i res_at (Term.int_eval (1)) rfl), trivial⟩ ⟨hq.1, hq.2.1, (hq.2.2.sift fun y hy => Or.inr (N y hy)).mono (by decide) (by decide)⟩⟩
theorem main_1_1 : Claimed_1_1 := comes_1 fun _ _ _ _ _ _ h hF => ⟨h.1, hF⟩
theorem main_1_2 : Claimed_1_2 := comes_1 fun _ _ _ _ _ _ h hF => ⟨h.2.1, hF⟩
end Jvm.Pilot.@@N@@
namespace Jvm.Pilot.@@N@@
open Jvm Jvm.ClassFile Sem Op Lib Jvm.Free Jvm.Stand Jvm.Pilot.@@N@@.Jvm.D
/-! MADE BY PROGRAM (witnessworld.py) out of the Statement's table words and the real class files: 19 classes; the members and pool entries that the words name. The judged class is class 1, her method 1. -/
namespace start1
open Jvm.ClassFile
def u (s : String) : CpInfo := .utf8 (stringToUtf16 s)
/-- a pool by its gaps: so many unusable entries, then the entry; so many at the end -/
def gap : Nat → List CpInfo → List CpInfo
  | 0, r => r
  | n + 1, r => .unusable :: gap n r
def poolList (es : List (Nat × CpInfo)) (last : Nat) : List CpInfo := es.foldr (fun e r => gap e.1 (e.2 :: r)) (gap last [])
def pool (es : List (Nat × CpInfo)) (last : Nat) : Array CpInfo := ⟨poolList es last⟩
def fileOf (pool : Array CpInfo) (this : Nat) (attrs : Array Attribute := #[]) (ms : Array MethodInfo := #[]) (fl : Nat := 33) (sup : Nat := 0) (ifs : Array Nat := #[]) (fds : Array FieldInfo := #[]) : ClassFile where
  minorVersion := 0
  majorVersion := 65
  constantPool := pool
  accessFlags := fl
  thisClass := this
  superClass := sup
  interfaces := ifs
  fields := fds
  methods := ms
  attributes := attrs
def plain (name : String) (sup : Option ClassId) : Class where
  name := name
  kind := .ordinary
  loader := none
  accessFlags := 33
  super := sup
  interfaces := #[]
  cf := none
  fields := #[]
  methods := #[]
  instanceTypes := #[]
  staticTypes := #[]
  resolved := #[]
  callSites := []
  init := .initialized
  statics := none
  mirror := none

def pool0 : Array CpInfo := pool [(5, u "<init>"), (0, u "()V"), (1, .class_ 10), (1, u "java/lang/Object")] 113

def k0c0 : Code := { maxStack := 0, maxLocals := 1, code := object_method_1_code, exceptionTable := #[], attributes := #[] }
def k0m0 : Method := { name := "<init>", desc := "()V", sig := { parameters := [], returnType := none }, accessFlags := 1, code := some k0c0 }
/-- java/lang/Object -/
def k0 : Class := { plain "java/lang/Object" none with
  accessFlags := 33
  interfaces := #[]
  cf := some (fileOf pool0 8 #[] #[{ accessFlags := 1, nameIndex := 5, descriptorIndex := 6, attributes := #[] }] 33 0 #[] #[])
  fields := #[]
  methods := #[k0m0]
  instanceTypes := #[]
  staticTypes := #[]
  resolved := Array.replicate 124 none
  statics := none }

def pool1 : Array CpInfo := pool [(2, .class_ 4), (1, u "java/lang/Object"), (0, u "<init>"), (0, u "()V"), (0, .integer 2147483647), (0, .methodref 9 10), (0, .class_ 11), (0, .nameAndType 12 13), (0, u "com/example/ebbtide/ebbtide/cluster/LoadTreesAtPinLaw"), (0, u "nth"), (0, u "(II)I"), (0, .methodref 9 15), (0, .nameAndType 16 17), (0, u "rank"), (0, u "([J[JI)I"), (0, .class_ 19), (0, u "com/example/ebbtide/ebbtide/cluster/LoadTrees"), (0, .methodref 18 21), (0, .nameAndType 5 22), (0, u "(I[I[J)V"), (0, .methodref 18 24), (0, .nameAndType 25 26), (0, u "insert"), (0, u "(IIJJ)V"), (0, .methodref 18 28), (0, .nameAndType 29 13), (0, u "at"), (0, .long 9223372036854775808), (1, .methodref 9 33), (0, .nameAndType 34 35), (0, u "before"), (0, u "([J[JII)Z"), (2, u "law"), (0, u "(JJJJII)Z")] 5

def k1m0 : Method := { name := "<init>", desc := "()V", sig := { parameters := [], returnType := none }, accessFlags := 1, code := none }
def k1c1 : Code := { maxStack := 7, maxLocals := 21, code := code, exceptionTable := #[], attributes := #[] }
def k1m1 : Method := { name := "law", desc := "(JJJJII)Z", sig := { parameters := [.long, .long, .long, .long, .int, .int], returnType := some .boolean }, accessFlags := 9, code := some k1c1 }
def k1c2 : Code := { maxStack := 2, maxLocals := 6, code := method_3_code, exceptionTable := #[], attributes := #[] }
def k1m2 : Method := { name := "nth", desc := "(II)I", sig := { parameters := [.int, .int], returnType := some .int }, accessFlags := 10, code := some k1c2 }
def k1c3 : Code := { maxStack := 6, maxLocals := 4, code := method_4_code, exceptionTable := #[], attributes := #[] }
def k1m3 : Method := { name := "before", desc := "([J[JII)Z", sig := { parameters := [(.array .long), (.array .long), .int, .int], returnType := some .boolean }, accessFlags := 10, code := some k1c3 }
def k1c4 : Code := { maxStack := 4, maxLocals := 4, code := method_5_code, exceptionTable := #[], attributes := #[] }
def k1m4 : Method := { name := "rank", desc := "([J[JI)I", sig := { parameters := [(.array .long), (.array .long), .int], returnType := some .int }, accessFlags := 10, code := some k1c4 }
/-- com/example/ebbtide/ebbtide/cluster/LoadTreesAtPinLaw -/
def k1 : Class := { plain "com/example/ebbtide/ebbtide/cluster/LoadTreesAtPinLaw" (some 0) with
  accessFlags := 49
  interfaces := #[]
  cf := some (fileOf pool1 9 #[] #[{ accessFlags := 1, nameIndex := 5, descriptorIndex := 6, attributes := #[] }, { accessFlags := 9, nameIndex := 38, descriptorIndex := 39, attributes := #[] }, { accessFlags := 10, nameIndex := 12, descriptorIndex := 13, attributes := #[] }, { accessFlags := 10, nameIndex := 34, descriptorIndex := 35, attributes := #[] }, { accessFlags := 10, nameIndex := 16, descriptorIndex := 17, attributes := #[] }] 49 2 #[] #[])
  fields := #[]
  methods := #[k1m0, k1m1, k1m2, k1m3, k1m4]
  instanceTypes := #[]
  staticTypes := #[]
  resolved := Array.replicate 45 none
  statics := none }

def pool2 : Array CpInfo := pool [(1, .class_ 2), (0, u "com/example/ebbtide/ebbtide/cluster/LoadTrees"), (0, .methodref 4 5), (0, .class_ 6), (0, .nameAndType 7 8), (0, u "java/lang/Object"), (0, u "<init>"), (0, u "()V"), (0, .fieldref 1 10), (0, .nameAndType 11 12), (0, u "cpu"), (0, u "[I"), (0, .fieldref 1 14), (0, .nameAndType 15 16), (0, u "memory"), (0, u "[J"), (0, .fieldref 1 18), (0, .nameAndType 19 12), (0, u "place"), (0, .methodref 21 22), (0, .class_ 23), (0, .nameAndType 24 25), (0, u "java/util/Arrays"), (0, u "fill"), (0, u "([II)V"), (0, .fieldref 1 27), (0, .nameAndType 28 12), (0, u "rootOf"), (0, .class_ 12), (0, .fieldref 1 31), (0, .nameAndType 32 33), (0, u "members"), (0, u "[[I"), (0, .fieldref 1 35), (0, .nameAndType 36 12), (0, u "leafSize"), (0, .fieldref 1 38), (0, .nameAndType 39 16), (0, u "leafHigh"), (0, .fieldref 1 41), (0, .nameAndType 42 16), (0, u "leafLow"), (0, .fieldref 1 44), (0, .nameAndType 45 12), (0, u "leafParent"), (0, .fieldref 1 47), (0, .nameAndType 48 12), (0, u "leafSlot"), (0, .fieldref 1 50), (0, .nameAndType 51 12), (0, u "freeLeaves"), (0, .fieldref 1 53), (0, .nameAndType 54 12), (0, u "child"), (0, .fieldref 1 56), (0, .nameAndType 57 12), (0, u "below"), (0, .fieldref 1 59), (0, .nameAndType 60 12), (0, u "mostCpu"), (0, .fieldref 1 62), (0, .nameAndType 63 16), (0, u "mostMemory"), (0, .fieldref 1 65), (0, .nameAndType 66 16), (0, u "fromHigh"), (0, .fieldref 1 68), (0, .nameAndType 69 16), (0, u "fromLow"), (0, .fieldref 1 71), (0, .nameAndType 72 12), (0, u "fromServer"), (0, .fieldref 1 74), (0, .nameAndType 75 12), (0, u "branchSize"), (0, .fieldref 1 77), (0, .nameAndType 78 12), (0, u "branchHeight"), (0, .fieldref 1 80), (0, .nameAndType 81 12), (0, u "branchParent"), (0, .fieldref 1 83), (0, .nameAndType 84 12), (0, u "branchSlot"), (0, .fieldref 1 86), (0, .nameAndType 87 12), (0, u "freeBranches"), (0, .methodref 1 89), (0, .nameAndType 90 91), (0, u "newBranch"), (0, u "(I)I"), (0, .methodref 1 93), (0, .nameAndType 94 95), (0, u "slotFor"), (0, u "(IJJI)I"), (0, .methodref 1 97), (0, .nameAndType 98 99), (0, u "newLeaf"), (0, u "(JJ)I"), (0, .methodref 1 101), (0, .nameAndType 102 103), (0, u "addSlot"), (0, u "(IIIJJI)V"), (0, .methodref 1 105), (0, .nameAndType 106 107), (0, u "less"), (0, u "(JJJJ)Z"), (0, .methodref 1 109), (0, .nameAndType 110 91), (0, u "nextLeaf"), (0, .methodref 1 112), (0, .nameAndType 113 114), (0, u "setFrom"), (0, u "(IJJI)V"), (0, .methodref 1 116), (0, .nameAndType 117 91), (0, u "previousLeaf"), (8, u "(II)I"), (7, u "(II)V"), (0, .fieldref 1 136), (0, .nameAndType 137 138), (0, u "freeLeafCount"), (0, u "I"), (4, .fieldref 1 144), (0, .nameAndType 145 138), (0, u "freeBranchCount"), (9, u "foundLeaf"), (2, u "foundIndex"), (8, u "searched"), (0, u "J"), (0, .methodref 1 170), (0, .nameAndType 171 172), (0, u "before"), (0, u "(JJIJJI)Z"), (3, .methodref 1 177), (0, .nameAndType 178 179), (0, u "moveSlots"), (0, u "(III)V"), (0, .methodref 1 181), (0, .nameAndType 182 134), (0, u "numberSlots"), (0, .methodref 1 184), (0, .nameAndType 185 134), (0, u "sum"), (0, .methodref 187 188), (0, .class_ 189), (0, .nameAndType 190 191), (0, u "java/lang/System"), (0, u "arraycopy"), (0, u "(Ljava/lang/Object;ILjava/lang/Object;II)V"), (7, .fieldref 1 200), (0, .nameAndType 201 138), (0, u "leaves"), (7, .fieldref 1 210), (0, .nameAndType 211 138), (0, u "branches"), (0, .methodref 213 214), (0, .class_ 215), (0, .nameAndType 216 99), (0, u "java/lang/Long"), (0, u "compare"), (0, .methodref 213 218), (0, .nameAndType 219 99), (0, u "compareUnsigned"), (0, .methodref 1 221), (0, .nameAndType 216 222), (0, u "(JJJJ)I"), (0, u "WIDTH"), (2, u "FEWEST"), (1, u "(I[I[J)V"), (2, u "insert"), (0, u "(IIJJ)V"), (2, u "at")] 14

def k2c0 : Code := { maxStack := 2, maxLocals := 4, code := prog_74_method_1_code, exceptionTable := #[], attributes := #[] }
def k2m0 : Method := { name := "<init>", desc := "(I[I[J)V", sig := { parameters := [.int, (.array .int), (.array .long)], returnType := none }, accessFlags := 0, code := some k2c0 }
def k2c1 : Code := { maxStack := 10, maxLocals := 16, code := prog_74_method_2_code, exceptionTable := #[], attributes := #[] }
def k2m1 : Method := { name := "insert", desc := "(IIJJ)V", sig := { parameters := [.int, .int, .long, .long], returnType := none }, accessFlags := 0, code := some k2c1 }
def k2c2 : Code := { maxStack := 3, maxLocals := 6, code := prog_74_method_4_code, exceptionTable := #[], attributes := #[] }
def k2m2 : Method := { name := "at", desc := "(II)I", sig := { parameters := [.int, .int], returnType := some .int }, accessFlags := 0, code := some k2c2 }
def k2c3 : Code := { maxStack := 12, maxLocals := 11, code := prog_74_method_14_code, exceptionTable := #[], attributes := #[] }
def k2m3 : Method := { name := "slotFor", desc := "(IJJI)I", sig := { parameters := [.int, .long, .long, .int], returnType := some .int }, accessFlags := 2, code := some k2c3 }
def k2c4 : Code := { maxStack := 3, maxLocals := 6, code := prog_74_method_15_code, exceptionTable := #[], attributes := #[] }
def k2m4 : Method := { name := "nextLeaf", desc := "(I)I", sig := { parameters := [.int], returnType := some .int }, accessFlags := 2, code := some k2c4 }
def k2c5 : Code := { maxStack := 4, maxLocals := 6, code := prog_74_method_16_code, exceptionTable := #[], attributes := #[] }
def k2m5 : Method := { name := "previousLeaf", desc := "(I)I", sig := { parameters := [.int], returnType := some .int }, accessFlags := 2, code := some k2c5 }
def k2c6 : Code := { maxStack := 4, maxLocals := 10, code := prog_74_method_17_code, exceptionTable := #[], attributes := #[] }
def k2m6 : Method := { name := "setFrom", desc := "(IJJI)V", sig := { parameters := [.int, .long, .long, .int], returnType := none }, accessFlags := 2, code := some k2c6 }
def k2c7 : Code := { maxStack := 5, maxLocals := 11, code := prog_74_method_18_code, exceptionTable := #[], attributes := #[] }
def k2m7 : Method := { name := "sum", desc := "(II)V", sig := { parameters := [.int, .int], returnType := none }, accessFlags := 2, code := some k2c7 }
def k2c8 : Code := { maxStack := 5, maxLocals := 10, code := prog_74_method_19_code, exceptionTable := #[], attributes := #[] }
def k2m8 : Method := { name := "addSlot", desc := "(IIIJJI)V", sig := { parameters := [.int, .int, .int, .long, .long, .int], returnType := none }, accessFlags := 2, code := some k2c8 }
def k2c9 : Code := { maxStack := 5, maxLocals := 4, code := prog_74_method_21_code, exceptionTable := #[], attributes := #[] }
def k2m9 : Method := { name := "moveSlots", desc := "(III)V", sig := { parameters := [.int, .int, .int], returnType := none }, accessFlags := 2, code := some k2c9 }
def k2c10 : Code := { maxStack := 4, maxLocals := 5, code := prog_74_method_22_code, exceptionTable := #[], attributes := #[] }
def k2m10 : Method := { name := "numberSlots", desc := "(II)V", sig := { parameters := [.int, .int], returnType := none }, accessFlags := 2, code := some k2c10 }
def k2c11 : Code := { maxStack := 4, maxLocals := 7, code := prog_74_method_29_code, exceptionTable := #[], attributes := #[] }
def k2m11 : Method := { name := "newLeaf", desc := "(JJ)I", sig := { parameters := [.long, .long], returnType := some .int }, accessFlags := 2, code := some k2c11 }
def k2c12 : Code := { maxStack := 4, maxLocals := 4, code := prog_74_method_30_code, exceptionTable := #[], attributes := #[] }
def k2m12 : Method := { name := "newBranch", desc := "(I)I", sig := { parameters := [.int], returnType := some .int }, accessFlags := 2, code := some k2c12 }
def k2c13 : Code := { maxStack := 4, maxLocals := 8, code := prog_74_method_31_code, exceptionTable := #[], attributes := #[] }
def k2m13 : Method := { name := "compare", desc := "(JJJJ)I", sig := { parameters := [.long, .long, .long, .long], returnType := some .int }, accessFlags := 8, code := some k2c13 }
def k2c14 : Code := { maxStack := 8, maxLocals := 8, code := prog_74_method_32_code, exceptionTable := #[], attributes := #[] }
def k2m14 : Method := { name := "less", desc := "(JJJJ)Z", sig := { parameters := [.long, .long, .long, .long], returnType := some .boolean }, accessFlags := 10, code := some k2c14 }
def k2c15 : Code := { maxStack := 8, maxLocals := 10, code := prog_74_method_33_code, exceptionTable := #[], attributes := #[] }
def k2m15 : Method := { name := "before", desc := "(JJIJJI)Z", sig := { parameters := [.long, .long, .int, .long, .long, .int], returnType := some .boolean }, accessFlags := 10, code := some k2c15 }
/-- com/example/ebbtide/ebbtide/cluster/LoadTrees -/
def k2 : Class := { plain "com/example/ebbtide/ebbtide/cluster/LoadTrees" (some 0) with
  accessFlags := 48
  interfaces := #[]
  cf := some (fileOf pool2 1 #[] #[{ accessFlags := 0, nameIndex := 7, descriptorIndex := 228, attributes := #[] }, { accessFlags := 0, nameIndex := 231, descriptorIndex := 232, attributes := #[] }, { accessFlags := 0, nameIndex := 235, descriptorIndex := 126, attributes := #[] }, { accessFlags := 2, nameIndex := 94, descriptorIndex := 95, attributes := #[] }, { accessFlags := 2, nameIndex := 110, descriptorIndex := 91, attributes := #[] }, { accessFlags := 2, nameIndex := 117, descriptorIndex := 91, attributes := #[] }, { accessFlags := 2, nameIndex := 113, descriptorIndex := 114, attributes := #[] }, { accessFlags := 2, nameIndex := 185, descriptorIndex := 134, attributes := #[] }, { accessFlags := 2, nameIndex := 102, descriptorIndex := 103, attributes := #[] }, { accessFlags := 2, nameIndex := 178, descriptorIndex := 179, attributes := #[] }, { accessFlags := 2, nameIndex := 182, descriptorIndex := 134, attributes := #[] }, { accessFlags := 2, nameIndex := 98, descriptorIndex := 99, attributes := #[] }, { accessFlags := 2, nameIndex := 90, descriptorIndex := 91, attributes := #[] }, { accessFlags := 8, nameIndex := 216, descriptorIndex := 222, attributes := #[] }, { accessFlags := 10, nameIndex := 106, descriptorIndex := 107, attributes := #[] }, { accessFlags := 10, nameIndex := 171, descriptorIndex := 172, attributes := #[] }] 48 4 #[] #[{ accessFlags := 26, nameIndex := 223, descriptorIndex := 138, attributes := #[] }, { accessFlags := 26, nameIndex := 226, descriptorIndex := 138, attributes := #[] }, { accessFlags := 18, nameIndex := 11, descriptorIndex := 12, attributes := #[] }, { accessFlags := 18, nameIndex := 15, descriptorIndex := 16, attributes := #[] }, { accessFlags := 18, nameIndex := 19, descriptorIndex := 12, attributes := #[] }, { accessFlags := 18, nameIndex := 28, descriptorIndex := 12, attributes := #[] }, { accessFlags := 2, nameIndex := 32, descriptorIndex := 33, attributes := #[] }, { accessFlags := 2, nameIndex := 36, descriptorIndex := 12, attributes := #[] }, { accessFlags := 2, nameIndex := 39, descriptorIndex := 16, attributes := #[] }, { accessFlags := 2, nameIndex := 42, descriptorIndex := 16, attributes := #[] }, { accessFlags := 2, nameIndex := 45, descriptorIndex := 12, attributes := #[] }, { accessFlags := 2, nameIndex := 48, descriptorIndex := 12, attributes := #[] }, { accessFlags := 2, nameIndex := 201, descriptorIndex := 138, attributes := #[] }, { accessFlags := 2, nameIndex := 51, descriptorIndex := 12, attributes := #[] }, { accessFlags := 2, nameIndex := 137, descriptorIndex := 138, attributes := #[] }, { accessFlags := 2, nameIndex := 54, descriptorIndex := 12, attributes := #[] }, { accessFlags := 2, nameIndex := 57, descriptorIndex := 12, attributes := #[] }, { accessFlags := 2, nameIndex := 60, descriptorIndex := 12, attributes := #[] }, { accessFlags := 2, nameIndex := 63, descriptorIndex := 16, attributes := #[] }, { accessFlags := 2, nameIndex := 66, descriptorIndex := 16, attributes := #[] }, { accessFlags := 2, nameIndex := 69, descriptorIndex := 16, attributes := #[] }, { accessFlags := 2, nameIndex := 72, descriptorIndex := 12, attributes := #[] }, { accessFlags := 2, nameIndex := 75, descriptorIndex := 12, attributes := #[] }, { accessFlags := 2, nameIndex := 78, descriptorIndex := 12, attributes := #[] }, { accessFlags := 2, nameIndex := 81, descriptorIndex := 12, attributes := #[] }, { accessFlags := 2, nameIndex := 84, descriptorIndex := 12, attributes := #[] }, { accessFlags := 2, nameIndex := 211, descriptorIndex := 138, attributes := #[] }, { accessFlags := 2, nameIndex := 87, descriptorIndex := 12, attributes := #[] }, { accessFlags := 2, nameIndex := 145, descriptorIndex := 138, attributes := #[] }, { accessFlags := 2, nameIndex := 155, descriptorIndex := 138, attributes := #[] }, { accessFlags := 2, nameIndex := 158, descriptorIndex := 138, attributes := #[] }, { accessFlags := 2, nameIndex := 167, descriptorIndex := 168, attributes := #[] }])
  fields := #[{ name := "WIDTH", type := .int, accessFlags := 26, slot := 0, constantValue := 0 }, { name := "FEWEST", type := .int, accessFlags := 26, slot := 1, constantValue := 0 }, { name := "cpu", type := (.array .int), accessFlags := 18, slot := 0, constantValue := 0 }, { name := "memory", type := (.array .long), accessFlags := 18, slot := 1, constantValue := 0 }, { name := "place", type := (.array .int), accessFlags := 18, slot := 2, constantValue := 0 }, { name := "rootOf", type := (.array .int), accessFlags := 18, slot := 3, constantValue := 0 }, { name := "members", type := (.array (.array .int)), accessFlags := 2, slot := 4, constantValue := 0 }, { name := "leafSize", type := (.array .int), accessFlags := 2, slot := 5, constantValue := 0 }, { name := "leafHigh", type := (.array .long), accessFlags := 2, slot := 6, constantValue := 0 }, { name := "leafLow", type := (.array .long), accessFlags := 2, slot := 7, constantValue := 0 }, { name := "leafParent", type := (.array .int), accessFlags := 2, slot := 8, constantValue := 0 }, { name := "leafSlot", type := (.array .int), accessFlags := 2, slot := 9, constantValue := 0 }, { name := "leaves", type := .int, accessFlags := 2, slot := 10, constantValue := 0 }, { name := "freeLeaves", type := (.array .int), accessFlags := 2, slot := 11, constantValue := 0 }, { name := "freeLeafCount", type := .int, accessFlags := 2, slot := 12, constantValue := 0 }, { name := "child", type := (.array .int), accessFlags := 2, slot := 13, constantValue := 0 }, { name := "below", type := (.array .int), accessFlags := 2, slot := 14, constantValue := 0 }, { name := "mostCpu", type := (.array .int), accessFlags := 2, slot := 15, constantValue := 0 }, { name := "mostMemory", type := (.array .long), accessFlags := 2, slot := 16, constantValue := 0 }, { name := "fromHigh", type := (.array .long), accessFlags := 2, slot := 17, constantValue := 0 }, { name := "fromLow", type := (.array .long), accessFlags := 2, slot := 18, constantValue := 0 }, { name := "fromServer", type := (.array .int), accessFlags := 2, slot := 19, constantValue := 0 }, { name := "branchSize", type := (.array .int), accessFlags := 2, slot := 20, constantValue := 0 }, { name := "branchHeight", type := (.array .int), accessFlags := 2, slot := 21, constantValue := 0 }, { name := "branchParent", type := (.array .int), accessFlags := 2, slot := 22, constantValue := 0 }, { name := "branchSlot", type := (.array .int), accessFlags := 2, slot := 23, constantValue := 0 }, { name := "branches", type := .int, accessFlags := 2, slot := 24, constantValue := 0 }, { name := "freeBranches", type := (.array .int), accessFlags := 2, slot := 25, constantValue := 0 }, { name := "freeBranchCount", type := .int, accessFlags := 2, slot := 26, constantValue := 0 }, { name := "foundLeaf", type := .int, accessFlags := 2, slot := 27, constantValue := 0 }, { name := "foundIndex", type := .int, accessFlags := 2, slot := 28, constantValue := 0 }, { name := "searched", type := .long, accessFlags := 2, slot := 29, constantValue := 0 }]
  methods := #[k2m0, k2m1, k2m2, k2m3, k2m4, k2m5, k2m6, k2m7, k2m8, k2m9, k2m10, k2m11, k2m12, k2m13, k2m14, k2m15]
  instanceTypes := #[(.array .int), (.array .long), (.array .int), (.array .int), (.array (.array .int)), (.array .int), (.array .long), (.array .long), (.array .int), (.array .int), .int, (.array .int), .int, (.array .int), (.array .int), (.array .int), (.array .long), (.array .long), (.array .long), (.array .int), (.array .int), (.array .int), (.array .int), (.array .int), .int, (.array .int), .int, .int, .int, .long]
  staticTypes := #[.int, .int]
  resolved := Array.replicate 250 none
  statics := none }

def pool3 : Array CpInfo := pool [(2, .class_ 4), (1, u "java/lang/Object"), (0, u "<init>"), (0, u "()V"), (7, .class_ 16), (1, u "java/util/Arrays"), (57, .class_ 76), (1, u "java/util/Arrays$NaturalOrder"), (36, .class_ 115), (1, u "java/util/Arrays$LegacyMergeSort"), (1, u "Z"), (257, .class_ 376), (0, u "java/util/Arrays$ArrayList"), (68, u "$assertionsDisabled"), (269, u "MIN_ARRAY_SORT_GRAN"), (0, u "I"), (2, u "INSERTIONSORT_THRESHOLD"), (120, u "fill"), (4, u "([II)V"), (129, .class_ 976), (0, u "java/util/Arrays$ArrayItr")] 52

def k3m0 : Method := { name := "<init>", desc := "()V", sig := { parameters := [], returnType := none }, accessFlags := 2, code := none }
def k3c1 : Code := { maxStack := 3, maxLocals := 4, code := jdk_65_method_103_code, exceptionTable := #[], attributes := #[] }
def k3m1 : Method := { name := "fill", desc := "([II)V", sig := { parameters := [(.array .int), .int], returnType := none }, accessFlags := 9, code := some k3c1 }
/-- java/util/Arrays -/
def k3 : Class := { plain "java/util/Arrays" (some 0) with
  accessFlags := 49
  interfaces := #[]
  cf := some (fileOf pool3 14 #[.nestMembers #[975, 375, 113, 74]] #[{ accessFlags := 2, nameIndex := 5, descriptorIndex := 6, attributes := #[] }, { accessFlags := 9, nameIndex := 840, descriptorIndex := 845, attributes := #[] }] 49 2 #[] #[{ accessFlags := 26, nameIndex := 715, descriptorIndex := 716, attributes := #[] }, { accessFlags := 26, nameIndex := 719, descriptorIndex := 716, attributes := #[] }, { accessFlags := 4120, nameIndex := 445, descriptorIndex := 117, attributes := #[] }])
  fields := #[{ name := "MIN_ARRAY_SORT_GRAN", type := .int, accessFlags := 26, slot := 0, constantValue := 0 }, { name := "INSERTIONSORT_THRESHOLD", type := .int, accessFlags := 26, slot := 1, constantValue := 0 }, { name := "$assertionsDisabled", type := .boolean, accessFlags := 4120, slot := 2, constantValue := 0 }]
  methods := #[k3m0, k3m1]
  instanceTypes := #[]
  staticTypes := #[.int, .int, .boolean]
  resolved := Array.replicate 1029 none
  statics := none }

def pool4 : Array CpInfo := pool [(2, .class_ 4), (1, u "java/lang/Object"), (0, u "<init>"), (0, u "()V"), (1, .class_ 10), (1, u "java/lang/System"), (0, u "allowSecurityManager"), (0, u "I"), (16, u "cons"), (0, u "Ljava/io/Console;"), (77, .class_ 110), (1, u "java/lang/System$CallersHolder"), (43, u "initialErrStream"), (0, u "Ljava/io/PrintStream;"), (19, u "security"), (0, u "Ljava/lang/SecurityManager;"), (31, .class_ 209), (0, u "java/lang/System$1"), (7, u "props"), (0, u "Ljava/util/Properties;"), (2, u "lineSeparator"), (0, u "Ljava/lang/String;"), (96, .class_ 321), (1, u "java/lang/System$LoggerFinder"), (5, .class_ 328), (0, u "java/lang/System$Logger"), (67, u "err"), (2, u "out"), (91, u "notSupportedJnuEncoding"), (15, u "in"), (17, u "initialIn"), (0, u "Ljava/io/InputStream;"), (35, u "bootLayer"), (0, u "Ljava/lang/ModuleLayer;"), (99, .class_ 664), (0, u "java/lang/System$2"), (9, u "NEVER"), (2, u "MAYBE"), (49, u "arraycopy"), (0, u "(Ljava/lang/Object;ILjava/lang/Object;II)V"), (72, .class_ 802), (0, u "java/lang/System$Logger$Level")] 31

def k4m0 : Method := { name := "<init>", desc := "()V", sig := { parameters := [], returnType := none }, accessFlags := 2, code := none }
def k4m1 : Method := { name := "arraycopy", desc := "(Ljava/lang/Object;ILjava/lang/Object;II)V", sig := { parameters := [(.object "java/lang/Object"), .int, (.object "java/lang/Object"), .int, .int], returnType := none }, accessFlags := 265, code := none }
/-- java/lang/System -/
def k4 : Class := { plain "java/lang/System" (some 0) with
  accessFlags := 49
  interfaces := #[]
  cf := some (fileOf pool4 8 #[.nestMembers #[319, 327, 801, 108, 663, 208]] #[{ accessFlags := 2, nameIndex := 5, descriptorIndex := 6, attributes := #[] }, { accessFlags := 265, nameIndex := 727, descriptorIndex := 728, attributes := #[] }] 49 2 #[] #[{ accessFlags := 25, nameIndex := 507, descriptorIndex := 526, attributes := #[] }, { accessFlags := 25, nameIndex := 399, descriptorIndex := 155, attributes := #[] }, { accessFlags := 25, nameIndex := 396, descriptorIndex := 155, attributes := #[] }, { accessFlags := 10, nameIndex := 525, descriptorIndex := 526, attributes := #[] }, { accessFlags := 26, nameIndex := 674, descriptorIndex := 12, attributes := #[] }, { accessFlags := 26, nameIndex := 677, descriptorIndex := 12, attributes := #[] }, { accessFlags := 10, nameIndex := 11, descriptorIndex := 12, attributes := #[] }, { accessFlags := 74, nameIndex := 175, descriptorIndex := 176, attributes := #[] }, { accessFlags := 10, nameIndex := 491, descriptorIndex := 222, attributes := #[] }, { accessFlags := 74, nameIndex := 29, descriptorIndex := 30, attributes := #[] }, { accessFlags := 74, nameIndex := 154, descriptorIndex := 155, attributes := #[] }, { accessFlags := 10, nameIndex := 217, descriptorIndex := 218, attributes := #[] }, { accessFlags := 10, nameIndex := 221, descriptorIndex := 222, attributes := #[] }, { accessFlags := 8, nameIndex := 562, descriptorIndex := 563, attributes := #[] }])
  fields := #[{ name := "in", type := (.object "java/io/InputStream"), accessFlags := 25, slot := 0, constantValue := 0 }, { name := "out", type := (.object "java/io/PrintStream"), accessFlags := 25, slot := 1, constantValue := 0 }, { name := "err", type := (.object "java/io/PrintStream"), accessFlags := 25, slot := 2, constantValue := 0 }, { name := "initialIn", type := (.object "java/io/InputStream"), accessFlags := 10, slot := 3, constantValue := 0 }, { name := "NEVER", type := .int, accessFlags := 26, slot := 4, constantValue := 0 }, { name := "MAYBE", type := .int, accessFlags := 26, slot := 5, constantValue := 0 }, { name := "allowSecurityManager", type := .int, accessFlags := 10, slot := 6, constantValue := 0 }, { name := "security", type := (.object "java/lang/SecurityManager"), accessFlags := 74, slot := 7, constantValue := 0 }, { name := "notSupportedJnuEncoding", type := (.object "java/lang/String"), accessFlags := 10, slot := 8, constantValue := 0 }, { name := "cons", type := (.object "java/io/Console"), accessFlags := 74, slot := 9, constantValue := 0 }, { name := "initialErrStream", type := (.object "java/io/PrintStream"), accessFlags := 74, slot := 10, constantValue := 0 }, { name := "props", type := (.object "java/util/Properties"), accessFlags := 10, slot := 11, constantValue := 0 }, { name := "lineSeparator", type := (.object "java/lang/String"), accessFlags := 10, slot := 12, constantValue := 0 }, { name := "bootLayer", type := (.object "java/lang/ModuleLayer"), accessFlags := 8, slot := 13, constantValue := 0 }]
  methods := #[k4m0, k4m1]
  instanceTypes := #[]
  staticTypes := #[(.object "java/io/InputStream"), (.object "java/io/PrintStream"), (.object "java/io/PrintStream"), (.object "java/io/InputStream"), .int, .int, .int, (.object "java/lang/SecurityManager"), (.object "java/lang/String"), (.object "java/io/Console"), (.object "java/io/PrintStream"), (.object "java/util/Properties"), (.object "java/lang/String"), (.object "java/lang/ModuleLayer")]
  resolved := Array.replicate 834 none
  statics := none }

def pool5 : Array CpInfo := pool [(1, .class_ 2), (0, u "java/io/Serializable"), (0, .class_ 4), (0, u "java/lang/Object")] 2

/-- java/io/Serializable -/
def k5 : Class := { plain "java/io/Serializable" (some 0) with
  accessFlags := 1537
  interfaces := #[]
  cf := some (fileOf pool5 1 #[] #[] 1537 3 #[] #[])
  fields := #[]
  methods := #[]
  instanceTypes := #[]
  staticTypes := #[]
  resolved := Array.replicate 7 none
  statics := none }

def pool6 : Array CpInfo := pool [(2, .class_ 4), (1, u "java/lang/Object"), (0, u "<init>"), (0, u "()V"), (1, .class_ 10), (1, u "java/lang/Number"), (2, .class_ 14), (0, u "java/io/Serializable"), (0, u "serialVersionUID"), (0, u "J")] 20

def k6m0 : Method := { name := "<init>", desc := "()V", sig := { parameters := [], returnType := none }, accessFlags := 1, code := none }
/-- java/lang/Number -/
def k6 : Class := { plain "java/lang/Number" (some 0) with
  accessFlags := 1057
  interfaces := #[5]
  cf := some (fileOf pool6 8 #[] #[{ accessFlags := 1, nameIndex := 5, descriptorIndex := 6, attributes := #[] }] 1057 2 #[13] #[{ accessFlags := 26, nameIndex := 15, descriptorIndex := 16, attributes := #[] }])
  fields := #[{ name := "serialVersionUID", type := .long, accessFlags := 26, slot := 0, constantValue := 0 }]
  methods := #[k6m0]
  instanceTypes := #[]
  staticTypes := #[.long]
  resolved := Array.replicate 37 none
  statics := none }

def pool7 : Array CpInfo := pool [(1, .class_ 2), (0, u "java/lang/Comparable"), (0, .class_ 4), (0, u "java/lang/Object")] 7

/-- java/lang/Comparable -/
def k7 : Class := { plain "java/lang/Comparable" (some 0) with
  accessFlags := 1537
  interfaces := #[]
  cf := some (fileOf pool7 1 #[] #[] 1537 3 #[] #[])
  fields := #[]
  methods := #[]
  instanceTypes := #[]
  staticTypes := #[]
  resolved := Array.replicate 12 none
  statics := none }

def pool8 : Array CpInfo := pool [(1, .class_ 2), (0, u "java/lang/constant/Constable"), (0, .class_ 4), (0, u "java/lang/Object")] 6

/-- java/lang/constant/Constable -/
def k8 : Class := { plain "java/lang/constant/Constable" (some 0) with
  accessFlags := 1537
  interfaces := #[]
  cf := some (fileOf pool8 1 #[] #[] 1537 3 #[] #[])
  fields := #[]
  methods := #[]
  instanceTypes := #[]
  staticTypes := #[]
  resolved := Array.replicate 11 none
  statics := none }

def pool9 : Array CpInfo := pool [(1, .class_ 2), (0, u "java/lang/constant/ConstantDesc"), (0, .class_ 4), (0, u "java/lang/Object")] 32

/-- java/lang/constant/ConstantDesc -/
def k9 : Class := { plain "java/lang/constant/ConstantDesc" (some 0) with
  accessFlags := 1537
  interfaces := #[]
  cf := some (fileOf pool9 1 #[] #[] 1537 3 #[] #[])
  fields := #[]
  methods := #[]
  instanceTypes := #[]
  staticTypes := #[]
  resolved := Array.replicate 37 none
  statics := none }

def pool10 : Array CpInfo := pool [(1, .class_ 2), (0, u "java/lang/Long"), (165, .long 9223372036854775808), (66, .class_ 237), (1, u "java/lang/Long$LongCache"), (33, .class_ 272), (0, u "java/lang/Number"), (2, u "value"), (0, u "J"), (25, .methodref 1 303), (0, .nameAndType 304 305), (0, u "compare"), (0, u "(JJ)I"), (55, u "TYPE"), (0, u "Ljava/lang/Class;"), (0, .class_ 364), (0, u "java/lang/Comparable"), (0, .class_ 366), (0, u "java/lang/constant/Constable"), (0, .class_ 368), (0, u "java/lang/constant/ConstantDesc"), (0, u "MIN_VALUE"), (1, u "MAX_VALUE"), (4, u "SIZE"), (0, u "I"), (1, u "BYTES"), (1, u "serialVersionUID"), (87, u "compareUnsigned")] 54

def k10c0 : Code := { maxStack := 4, maxLocals := 4, code := jdk_35_method_42_code, exceptionTable := #[], attributes := #[] }
def k10m0 : Method := { name := "compare", desc := "(JJ)I", sig := { parameters := [.long, .long], returnType := some .int }, accessFlags := 9, code := some k10c0 }
def k10c1 : Code := { maxStack := 6, maxLocals := 4, code := jdk_35_method_43_code, exceptionTable := #[], attributes := #[] }
def k10m1 : Method := { name := "compareUnsigned", desc := "(JJ)I", sig := { parameters := [.long, .long], returnType := some .int }, accessFlags := 9, code := some k10c1 }
/-- java/lang/Long -/
def k10 : Class := { plain "java/lang/Long" (some 6) with
  accessFlags := 49
  interfaces := #[7, 8, 9]
  cf := some (fileOf pool10 1 #[.nestMembers #[235]] #[{ accessFlags := 9, nameIndex := 304, descriptorIndex := 305, attributes := #[] }, { accessFlags := 9, nameIndex := 469, descriptorIndex := 305, attributes := #[] }] 49 271 #[363, 365, 367] #[{ accessFlags := 25, nameIndex := 369, descriptorIndex := 276, attributes := #[] }, { accessFlags := 25, nameIndex := 371, descriptorIndex := 276, attributes := #[] }, { accessFlags := 25, nameIndex := 361, descriptorIndex := 362, attributes := #[] }, { accessFlags := 18, nameIndex := 275, descriptorIndex := 276, attributes := #[] }, { accessFlags := 25, nameIndex := 376, descriptorIndex := 377, attributes := #[] }, { accessFlags := 25, nameIndex := 379, descriptorIndex := 377, attributes := #[] }, { accessFlags := 26, nameIndex := 381, descriptorIndex := 276, attributes := #[] }])
  fields := #[{ name := "MIN_VALUE", type := .long, accessFlags := 25, slot := 0, constantValue := 0 }, { name := "MAX_VALUE", type := .long, accessFlags := 25, slot := 1, constantValue := 0 }, { name := "TYPE", type := (.object "java/lang/Class"), accessFlags := 25, slot := 2, constantValue := 0 }, { name := "value", type := .long, accessFlags := 18, slot := 0, constantValue := 0 }, { name := "SIZE", type := .int, accessFlags := 25, slot := 3, constantValue := 0 }, { name := "BYTES", type := .int, accessFlags := 25, slot := 4, constantValue := 0 }, { name := "serialVersionUID", type := .long, accessFlags := 26, slot := 5, constantValue := 0 }]
  methods := #[k10m0, k10m1]
  instanceTypes := #[.long]
  staticTypes := #[.long, .long, (.object "java/lang/Class"), .int, .int, .long]
  resolved := Array.replicate 524 none
  statics := none }

def pool11 : Array CpInfo := pool [(1, u "java/lang/Cloneable"), (0, .class_ 1), (0, u "java/lang/Object"), (0, .class_ 3)] 3

/-- java/lang/Cloneable -/
def k11 : Class := { plain "java/lang/Cloneable" (some 0) with
  accessFlags := 1537
  interfaces := #[]
  cf := some (fileOf pool11 2 #[] #[] 1537 4 #[] #[])
  fields := #[]
  methods := #[]
  instanceTypes := #[]
  staticTypes := #[]
  resolved := Array.replicate 8 none
  statics := none }

/-- the primitive byte -/
def k12 : Class := { plain "byte" none with kind := .primitive 'B', accessFlags := 0x411 }
/-- [B -/
def k13 : Class := { plain "[B" (some 0) with kind := .array 12 .byte, interfaces := #[11, 5], accessFlags := 1041 }

/-- the primitive int -/
def k14 : Class := { plain "int" none with kind := .primitive 'I', accessFlags := 0x411 }
/-- [I -/
def k15 : Class := { plain "[I" (some 0) with kind := .array 14 .int, interfaces := #[11, 5], accessFlags := 1041 }

/-- the primitive long -/
def k16 : Class := { plain "long" none with kind := .primitive 'J', accessFlags := 0x411 }
/-- [J -/
def k17 : Class := { plain "[J" (some 0) with kind := .array 16 .long, interfaces := #[11, 5], accessFlags := 1041 }

/-- [[I -/
def k18 : Class := { plain "[[I" (some 0) with kind := .array 15 (.array .int), interfaces := #[11, 5], accessFlags := 1041 }

def heap : Heap := #[]
def classes : Array Class := #[k0, k1, k2, k3, k4, k5, k6, k7, k8, k9, k10, k11, k12, k13, k14, k15, k16, k17, k18]
def interned : List (Array UInt16 × Addr) := []
def slotsUsed : Nat := 0
def theMethod : MethodId := ⟨1, 1⟩
def args0 : Array Value := #[.long 5, .long 5, .long 5, .long 5, .int 5, .int 5]
def aboutOver (below : List Frame) : State where
  vm := { classes := classes, interned := interned.toArray }
  heap := heap
  slotsUsed := slotsUsed
  threads := #[{ frames := .invoking theMethod args0 :: below }]
def below0 : List Frame := [.native { method := ⟨0, 0⟩, args := #[] }]
def about1 : State := aboutOver below0
def p0 : Program := .bare "" "" ""
def e0 : Env := launch0.env 0 0 0
theorem w_frames : about1.frames = Frame.invoking theMethod args0 :: below0 := rfl
set_option maxRecDepth 65536 in
theorem w_args : argsFit about1.vm theMethod args0 = true := by decide +kernel
set_option maxRecDepth 65536 in
theorem w_heap : heapFits about1 = true := by decide +kernel
set_option maxRecDepth 65536 in
theorem w_runnable : about1.curStatus? = some .runnable := by decide +kernel
set_option maxRecDepth 65536 in
theorem w_alone : about1.alone = true := by decide +kernel
set_option maxRecDepth 65536 in
theorem w_named : about1.methodNamed? x = some theMethod := by decide +kernel
set_option maxRecDepth 65536 in
theorem w_hears : about1.hears theMethod below0 = true := by decide +kernel
set_option maxRecDepth 65536 in
theorem w_ripe : about1.ripe theMethod args0 below0 = true := by decide +kernel
theorem w_running : about1.status = .running := rfl
set_option maxRecDepth 65536 in
theorem w_room : about1.hasRoom e0.platform room_1 = true :=
  launch0.hasRoom_least _ room_1 (by decide +kernel) (by decide +kernel) (by decide +kernel) (by decide +kernel) (by decide +kernel) (by decide +kernel)
theorem allAtoms_all (ts : List Jvm.Cond) (a : Array Jvm.Value) (st : Jvm.State) : (allAtoms ts).before a st = ts.all (fun c => c.before a st) := by
  induction ts with
  | nil => rfl
  | cons c t ih =>
    show (Jvm.Cond.and c (allAtoms t)).before a st = _
    rw [Jvm.Cond.before_and, ih, List.all_cons]
def words1 : List Jvm.Cond := Jvm.Cond.code x code maxLocals ret :: tables_1
/-- a 'code' word, met by the world's own term for the bytes: nothing is compared byte by byte -/
theorem code_word {y : MethodName} {bytes : ByteArray} {mx : Nat} {rt : Option FieldType} {a : Array Value} {s : State} {m : MethodId} {meth : Method} {c : Code} (h1 : s.methodNamed? y = some m) (h2 : s.vm.method? m = some meth) (h3 : meth.code = some c) (h4 : c.code = bytes)
    (h5 : (c.maxLocals == mx && c.exceptionTable.isEmpty && decide (c.maxStack ≤ mostOperands) && decide (meth.sig.returnType = rt) && !meth.locks && decide (parseMethodDescriptor y.desc = some meth.sig)) = true) : (Jvm.Cond.code y bytes mx rt).before a s = true := by
  simp only [Bool.and_eq_true, beq_iff_eq, Bool.not_eq_true', decide_eq_true_eq] at h5
  obtain ⟨⟨⟨⟨⟨g1, g2⟩, g3⟩, g4⟩, g5⟩, g6⟩ := h5
  simp [Cond.before, Cond.holds, Cond.value, h1, h2, h3, h4, g1, g2, g3, g4, g5, g6]
def isCode : Jvm.Cond → Bool
  | .code _ _ _ _ => true
  | _ => false
theorem all_split {L : List Jvm.Cond} {P : Jvm.Cond → Bool} (h1 : L.all (fun c => isCode c || P c) = true) (h2 : ∀ c ∈ L.filter isCode, P c = true) : L.all P = true := by
  refine List.all_eq_true.mpr fun c hc => ?_
  have h := List.all_eq_true.mp h1 c hc
  rcases Bool.eq_false_or_eq_true (isCode c) with hi | hi
  · exact h2 c (List.mem_filter.mpr ⟨hc, hi⟩)
  · simpa [hi] using h
set_option maxRecDepth 65536 in
theorem w_c0 : (Jvm.Cond.code x code maxLocals ret).before args0 about1 = true := code_word (m := ⟨1, 1⟩) (meth := k1m1) (c := k1c1) (by decide +kernel) rfl rfl rfl (by decide +kernel)
set_option maxRecDepth 65536 in
theorem w_c1 : (Jvm.Cond.code ({ cls := "com/example/ebbtide/ebbtide/cluster/LoadTreesAtPinLaw", name := "nth", desc := "(II)I" } : Jvm.MethodName) method_3_code (6 : Nat) (Option.some Jvm.ClassFile.FieldType.int)).before args0 about1 = true := code_word (m := ⟨1, 2⟩) (meth := k1m2) (c := k1c2) (by decide +kernel) rfl rfl rfl (by decide +kernel)
set_option maxRecDepth 65536 in
theorem w_c2 : (Jvm.Cond.code ({ cls := "com/example/ebbtide/ebbtide/cluster/LoadTreesAtPinLaw", name := "rank", desc := "([J[JI)I" } : Jvm.MethodName) method_5_code (4 : Nat) (Option.some Jvm.ClassFile.FieldType.int)).before args0 about1 = true := code_word (m := ⟨1, 4⟩) (meth := k1m4) (c := k1c4) (by decide +kernel) rfl rfl rfl (by decide +kernel)
set_option maxRecDepth 65536 in
theorem w_c3 : (Jvm.Cond.code ({ cls := "com/example/ebbtide/ebbtide/cluster/LoadTreesAtPinLaw", name := "before", desc := "([J[JII)Z" } : Jvm.MethodName) method_4_code (4 : Nat) (Option.some Jvm.ClassFile.FieldType.boolean)).before args0 about1 = true := code_word (m := ⟨1, 3⟩) (meth := k1m3) (c := k1c3) (by decide +kernel) rfl rfl rfl (by decide +kernel)
set_option maxRecDepth 65536 in
theorem w_c4 : (Jvm.Cond.code ({ cls := "com/example/ebbtide/ebbtide/cluster/LoadTrees", name := "<init>", desc := "(I[I[J)V" } : Jvm.MethodName) prog_74_method_1_code (4 : Nat) (Option.none : Option Jvm.ClassFile.FieldType)).before args0 about1 = true := code_word (m := ⟨2, 0⟩) (meth := k2m0) (c := k2c0) (by decide +kernel) rfl rfl rfl (by decide +kernel)
set_option maxRecDepth 65536 in
theorem w_c5 : (Jvm.Cond.code ({ cls := "java/lang/Object", name := "<init>", desc := "()V" } : Jvm.MethodName) object_method_1_code (1 : Nat) (Option.none : Option Jvm.ClassFile.FieldType)).before args0 about1 = true := code_word (m := ⟨0, 0⟩) (meth := k0m0) (c := k0c0) (by decide +kernel) rfl rfl rfl (by decide +kernel)
set_option maxRecDepth 65536 in
theorem w_c6 : (Jvm.Cond.code ({ cls := "java/util/Arrays", name := "fill", desc := "([II)V" } : Jvm.MethodName) jdk_65_method_103_code (4 : Nat) (Option.none : Option Jvm.ClassFile.FieldType)).before args0 about1 = true := code_word (m := ⟨3, 1⟩) (meth := k3m1) (c := k3c1) (by decide +kernel) rfl rfl rfl (by decide +kernel)
set_option maxRecDepth 65536 in
theorem w_c7 : (Jvm.Cond.code ({ cls := "com/example/ebbtide/ebbtide/cluster/LoadTrees", name := "insert", desc := "(IIJJ)V" } : Jvm.MethodName) prog_74_method_2_code (16 : Nat) (Option.none : Option Jvm.ClassFile.FieldType)).before args0 about1 = true := code_word (m := ⟨2, 1⟩) (meth := k2m1) (c := k2c1) (by decide +kernel) rfl rfl rfl (by decide +kernel)
set_option maxRecDepth 65536 in
theorem w_c8 : (Jvm.Cond.code ({ cls := "com/example/ebbtide/ebbtide/cluster/LoadTrees", name := "newBranch", desc := "(I)I" } : Jvm.MethodName) prog_74_method_30_code (4 : Nat) (Option.some Jvm.ClassFile.FieldType.int)).before args0 about1 = true := code_word (m := ⟨2, 12⟩) (meth := k2m12) (c := k2c12) (by decide +kernel) rfl rfl rfl (by decide +kernel)
set_option maxRecDepth 65536 in
theorem w_c9 : (Jvm.Cond.code ({ cls := "com/example/ebbtide/ebbtide/cluster/LoadTrees", name := "newLeaf", desc := "(JJ)I" } : Jvm.MethodName) prog_74_method_29_code (7 : Nat) (Option.some Jvm.ClassFile.FieldType.int)).before args0 about1 = true := code_word (m := ⟨2, 11⟩) (meth := k2m11) (c := k2c11) (by decide +kernel) rfl rfl rfl (by decide +kernel)
set_option maxRecDepth 65536 in
theorem w_c10 : (Jvm.Cond.code ({ cls := "com/example/ebbtide/ebbtide/cluster/LoadTrees", name := "addSlot", desc := "(IIIJJI)V" } : Jvm.MethodName) prog_74_method_19_code (10 : Nat) (Option.none : Option Jvm.ClassFile.FieldType)).before args0 about1 = true := code_word (m := ⟨2, 8⟩) (meth := k2m8) (c := k2c8) (by decide +kernel) rfl rfl rfl (by decide +kernel)
set_option maxRecDepth 65536 in
theorem w_c11 : (Jvm.Cond.code ({ cls := "com/example/ebbtide/ebbtide/cluster/LoadTrees", name := "moveSlots", desc := "(III)V" } : Jvm.MethodName) prog_74_method_21_code (4 : Nat) (Option.none : Option Jvm.ClassFile.FieldType)).before args0 about1 = true := code_word (m := ⟨2, 9⟩) (meth := k2m9) (c := k2c9) (by decide +kernel) rfl rfl rfl (by decide +kernel)
set_option maxRecDepth 65536 in
theorem w_c12 : (Jvm.Cond.code ({ cls := "com/example/ebbtide/ebbtide/cluster/LoadTrees", name := "numberSlots", desc := "(II)V" } : Jvm.MethodName) prog_74_method_22_code (5 : Nat) (Option.none : Option Jvm.ClassFile.FieldType)).before args0 about1 = true := code_word (m := ⟨2, 10⟩) (meth := k2m10) (c := k2c10) (by decide +kernel) rfl rfl rfl (by decide +kernel)
set_option maxRecDepth 65536 in
theorem w_c13 : (Jvm.Cond.code ({ cls := "com/example/ebbtide/ebbtide/cluster/LoadTrees", name := "sum", desc := "(II)V" } : Jvm.MethodName) prog_74_method_18_code (11 : Nat) (Option.none : Option Jvm.ClassFile.FieldType)).before args0 about1 = true := code_word (m := ⟨2, 7⟩) (meth := k2m7) (c := k2c7) (by decide +kernel) rfl rfl rfl (by decide +kernel)
set_option maxRecDepth 65536 in
theorem w_c14 : (Jvm.Cond.code ({ cls := "com/example/ebbtide/ebbtide/cluster/LoadTrees", name := "slotFor", desc := "(IJJI)I" } : Jvm.MethodName) prog_74_method_14_code (11 : Nat) (Option.some Jvm.ClassFile.FieldType.int)).before args0 about1 = true := code_word (m := ⟨2, 3⟩) (meth := k2m3) (c := k2c3) (by decide +kernel) rfl rfl rfl (by decide +kernel)
set_option maxRecDepth 65536 in
theorem w_c15 : (Jvm.Cond.code ({ cls := "com/example/ebbtide/ebbtide/cluster/LoadTrees", name := "less", desc := "(JJJJ)Z" } : Jvm.MethodName) prog_74_method_32_code (8 : Nat) (Option.some Jvm.ClassFile.FieldType.boolean)).before args0 about1 = true := code_word (m := ⟨2, 14⟩) (meth := k2m14) (c := k2c14) (by decide +kernel) rfl rfl rfl (by decide +kernel)
set_option maxRecDepth 65536 in
theorem w_c16 : (Jvm.Cond.code ({ cls := "com/example/ebbtide/ebbtide/cluster/LoadTrees", name := "compare", desc := "(JJJJ)I" } : Jvm.MethodName) prog_74_method_31_code (8 : Nat) (Option.some Jvm.ClassFile.FieldType.int)).before args0 about1 = true := code_word (m := ⟨2, 13⟩) (meth := k2m13) (c := k2c13) (by decide +kernel) rfl rfl rfl (by decide +kernel)
set_option maxRecDepth 65536 in
theorem w_c17 : (Jvm.Cond.code ({ cls := "java/lang/Long", name := "compareUnsigned", desc := "(JJ)I" } : Jvm.MethodName) jdk_35_method_43_code (4 : Nat) (Option.some Jvm.ClassFile.FieldType.int)).before args0 about1 = true := code_word (m := ⟨10, 1⟩) (meth := k10m1) (c := k10c1) (by decide +kernel) rfl rfl rfl (by decide +kernel)
set_option maxRecDepth 65536 in
theorem w_c18 : (Jvm.Cond.code ({ cls := "java/lang/Long", name := "compare", desc := "(JJ)I" } : Jvm.MethodName) jdk_35_method_42_code (4 : Nat) (Option.some Jvm.ClassFile.FieldType.int)).before args0 about1 = true := code_word (m := ⟨10, 0⟩) (meth := k10m0) (c := k10c0) (by decide +kernel) rfl rfl rfl (by decide +kernel)
set_option maxRecDepth 65536 in
theorem w_c19 : (Jvm.Cond.code ({ cls := "com/example/ebbtide/ebbtide/cluster/LoadTrees", name := "at", desc := "(II)I" } : Jvm.MethodName) prog_74_method_4_code (6 : Nat) (Option.some Jvm.ClassFile.FieldType.int)).before args0 about1 = true := code_word (m := ⟨2, 2⟩) (meth := k2m2) (c := k2c2) (by decide +kernel) rfl rfl rfl (by decide +kernel)
set_option maxRecDepth 65536 in
theorem w_c20 : (Jvm.Cond.code ({ cls := "com/example/ebbtide/ebbtide/cluster/LoadTrees", name := "nextLeaf", desc := "(I)I" } : Jvm.MethodName) prog_74_method_15_code (6 : Nat) (Option.some Jvm.ClassFile.FieldType.int)).before args0 about1 = true := code_word (m := ⟨2, 4⟩) (meth := k2m4) (c := k2c4) (by decide +kernel) rfl rfl rfl (by decide +kernel)
set_option maxRecDepth 65536 in
theorem w_c21 : (Jvm.Cond.code ({ cls := "com/example/ebbtide/ebbtide/cluster/LoadTrees", name := "before", desc := "(JJIJJI)Z" } : Jvm.MethodName) prog_74_method_33_code (10 : Nat) (Option.some Jvm.ClassFile.FieldType.boolean)).before args0 about1 = true := code_word (m := ⟨2, 15⟩) (meth := k2m15) (c := k2c15) (by decide +kernel) rfl rfl rfl (by decide +kernel)
set_option maxRecDepth 65536 in
theorem w_c22 : (Jvm.Cond.code ({ cls := "com/example/ebbtide/ebbtide/cluster/LoadTrees", name := "previousLeaf", desc := "(I)I" } : Jvm.MethodName) prog_74_method_16_code (6 : Nat) (Option.some Jvm.ClassFile.FieldType.int)).before args0 about1 = true := code_word (m := ⟨2, 5⟩) (meth := k2m5) (c := k2c5) (by decide +kernel) rfl rfl rfl (by decide +kernel)
set_option maxRecDepth 65536 in
theorem w_c23 : (Jvm.Cond.code ({ cls := "com/example/ebbtide/ebbtide/cluster/LoadTrees", name := "setFrom", desc := "(IJJI)V" } : Jvm.MethodName) prog_74_method_17_code (10 : Nat) (Option.none : Option Jvm.ClassFile.FieldType)).before args0 about1 = true := code_word (m := ⟨2, 6⟩) (meth := k2m6) (c := k2c6) (by decide +kernel) rfl rfl rfl (by decide +kernel)
def codes1 : List Jvm.Cond := [Jvm.Cond.code x code maxLocals ret, Jvm.Cond.code ({ cls := "com/example/ebbtide/ebbtide/cluster/LoadTreesAtPinLaw", name := "nth", desc := "(II)I" } : Jvm.MethodName) method_3_code (6 : Nat) (Option.some Jvm.ClassFile.FieldType.int), Jvm.Cond.code ({ cls := "com/example/ebbtide/ebbtide/cluster/LoadTreesAtPinLaw", name := "rank", desc := "([J[JI)I" } : Jvm.MethodName) method_5_code (4 : Nat) (Option.some Jvm.ClassFile.FieldType.int), Jvm.Cond.code ({ cls := "com/example/ebbtide/ebbtide/cluster/LoadTreesAtPinLaw", name := "before", desc := "([J[JII)Z" } : Jvm.MethodName) method_4_code (4 : Nat) (Option.some Jvm.ClassFile.FieldType.boolean), Jvm.Cond.code ({ cls := "com/example/ebbtide/ebbtide/cluster/LoadTrees", name := "<init>", desc := "(I[I[J)V" } : Jvm.MethodName) prog_74_method_1_code (4 : Nat) (Option.none : Option Jvm.ClassFile.FieldType), Jvm.Cond.code ({ cls := "java/lang/Object", name := "<init>", desc := "()V" } : Jvm.MethodName) object_method_1_code (1 : Nat) (Option.none : Option Jvm.ClassFile.FieldType), Jvm.Cond.code ({ cls := "java/util/Arrays", name := "fill", desc := "([II)V" } : Jvm.MethodName) jdk_65_method_103_code (4 : Nat) (Option.none : Option Jvm.ClassFile.FieldType), Jvm.Cond.code ({ cls := "com/example/ebbtide/ebbtide/cluster/LoadTrees", name := "insert", desc := "(IIJJ)V" } : Jvm.MethodName) prog_74_method_2_code (16 : Nat) (Option.none : Option Jvm.ClassFile.FieldType), Jvm.Cond.code ({ cls := "com/example/ebbtide/ebbtide/cluster/LoadTrees", name := "newBranch", desc := "(I)I" } : Jvm.MethodName) prog_74_method_30_code (4 : Nat) (Option.some Jvm.ClassFile.FieldType.int), Jvm.Cond.code ({ cls := "com/example/ebbtide/ebbtide/cluster/LoadTrees", name := "newLeaf", desc := "(JJ)I" } : Jvm.MethodName) prog_74_method_29_code (7 : Nat) (Option.some Jvm.ClassFile.FieldType.int), Jvm.Cond.code ({ cls := "com/example/ebbtide/ebbtide/cluster/LoadTrees", name := "addSlot", desc := "(IIIJJI)V" } : Jvm.MethodName) prog_74_method_19_code (10 : Nat) (Option.none : Option Jvm.ClassFile.FieldType), Jvm.Cond.code ({ cls := "com/example/ebbtide/ebbtide/cluster/LoadTrees", name := "moveSlots", desc := "(III)V" } : Jvm.MethodName) prog_74_method_21_code (4 : Nat) (Option.none : Option Jvm.ClassFile.FieldType), Jvm.Cond.code ({ cls := "com/example/ebbtide/ebbtide/cluster/LoadTrees", name := "numberSlots", desc := "(II)V" } : Jvm.MethodName) prog_74_method_22_code (5 : Nat) (Option.none : Option Jvm.ClassFile.FieldType), Jvm.Cond.code ({ cls := "com/example/ebbtide/ebbtide/cluster/LoadTrees", name := "sum", desc := "(II)V" } : Jvm.MethodName) prog_74_method_18_code (11 : Nat) (Option.none : Option Jvm.ClassFile.FieldType), Jvm.Cond.code ({ cls := "com/example/ebbtide/ebbtide/cluster/LoadTrees", name := "slotFor", desc := "(IJJI)I" } : Jvm.MethodName) prog_74_method_14_code (11 : Nat) (Option.some Jvm.ClassFile.FieldType.int), Jvm.Cond.code ({ cls := "com/example/ebbtide/ebbtide/cluster/LoadTrees", name := "less", desc := "(JJJJ)Z" } : Jvm.MethodName) prog_74_method_32_code (8 : Nat) (Option.some Jvm.ClassFile.FieldType.boolean), Jvm.Cond.code ({ cls := "com/example/ebbtide/ebbtide/cluster/LoadTrees", name := "compare", desc := "(JJJJ)I" } : Jvm.MethodName) prog_74_method_31_code (8 : Nat) (Option.some Jvm.ClassFile.FieldType.int), Jvm.Cond.code ({ cls := "java/lang/Long", name := "compareUnsigned", desc := "(JJ)I" } : Jvm.MethodName) jdk_35_method_43_code (4 : Nat) (Option.some Jvm.ClassFile.FieldType.int), Jvm.Cond.code ({ cls := "java/lang/Long", name := "compare", desc := "(JJ)I" } : Jvm.MethodName) jdk_35_method_42_code (4 : Nat) (Option.some Jvm.ClassFile.FieldType.int), Jvm.Cond.code ({ cls := "com/example/ebbtide/ebbtide/cluster/LoadTrees", name := "at", desc := "(II)I" } : Jvm.MethodName) prog_74_method_4_code (6 : Nat) (Option.some Jvm.ClassFile.FieldType.int), Jvm.Cond.code ({ cls := "com/example/ebbtide/ebbtide/cluster/LoadTrees", name := "nextLeaf", desc := "(I)I" } : Jvm.MethodName) prog_74_method_15_code (6 : Nat) (Option.some Jvm.ClassFile.FieldType.int), Jvm.Cond.code ({ cls := "com/example/ebbtide/ebbtide/cluster/LoadTrees", name := "before", desc := "(JJIJJI)Z" } : Jvm.MethodName) prog_74_method_33_code (10 : Nat) (Option.some Jvm.ClassFile.FieldType.boolean), Jvm.Cond.code ({ cls := "com/example/ebbtide/ebbtide/cluster/LoadTrees", name := "previousLeaf", desc := "(I)I" } : Jvm.MethodName) prog_74_method_16_code (6 : Nat) (Option.some Jvm.ClassFile.FieldType.int), Jvm.Cond.code ({ cls := "com/example/ebbtide/ebbtide/cluster/LoadTrees", name := "setFrom", desc := "(IJJI)V" } : Jvm.MethodName) prog_74_method_17_code (10 : Nat) (Option.none : Option Jvm.ClassFile.FieldType)]
set_option maxRecDepth 65536 in
theorem codes_eq : words1.filter isCode = codes1 := rfl
theorem w_codes : ∀ c ∈ words1.filter isCode, c.before args0 about1 = true := by
  rw [codes_eq]
  intro c hc
  simp only [codes1, List.mem_cons, List.not_mem_nil, or_false] at hc
  rcases hc with rfl | rfl | rfl | rfl | rfl | rfl | rfl | rfl | rfl | rfl | rfl | rfl | rfl | rfl | rfl | rfl | rfl | rfl | rfl | rfl | rfl | rfl | rfl | rfl
  · exact w_c0
  · exact w_c1
  · exact w_c2
  · exact w_c3
  · exact w_c4
  · exact w_c5
  · exact w_c6
  · exact w_c7
  · exact w_c8
  · exact w_c9
  · exact w_c10
  · exact w_c11
  · exact w_c12
  · exact w_c13
  · exact w_c14
  · exact w_c15
  · exact w_c16
  · exact w_c17
  · exact w_c18
  · exact w_c19
  · exact w_c20
  · exact w_c21
  · exact w_c22
  · exact w_c23
set_option maxRecDepth 65536 in
theorem w_t1 : (words1.take 24).all (fun c => isCode c || c.before args0 about1) = true := by decide +kernel
set_option maxRecDepth 65536 in
theorem w_t2 : ((words1.drop 24).take 24).all (fun c => isCode c || c.before args0 about1) = true := by decide +kernel
set_option maxRecDepth 65536 in
theorem w_t3 : (((words1.drop 24).drop 24).take 24).all (fun c => isCode c || c.before args0 about1) = true := by decide +kernel
set_option maxRecDepth 65536 in
theorem w_t4 : ((((words1.drop 24).drop 24).drop 24).take 24).all (fun c => isCode c || c.before args0 about1) = true := by decide +kernel
set_option maxRecDepth 65536 in
theorem w_t5 : (((((words1.drop 24).drop 24).drop 24).drop 24).take 24).all (fun c => isCode c || c.before args0 about1) = true := by decide +kernel
set_option maxRecDepth 65536 in
theorem w_t6 : ((((((words1.drop 24).drop 24).drop 24).drop 24).drop 24).take 24).all (fun c => isCode c || c.before args0 about1) = true := by decide +kernel
set_option maxRecDepth 65536 in
theorem w_t7 : ((((((words1.drop 24).drop 24).drop 24).drop 24).drop 24).drop 24).all (fun c => isCode c || c.before args0 about1) = true := by decide +kernel
theorem w_tables : (allAtoms (Jvm.Cond.code x code maxLocals ret :: tables_1)).before args0 about1 = true := by
  rw [allAtoms_all]
  show words1.all (fun c => c.before args0 about1) = true
  refine all_split ?_ w_codes
  rw [← List.take_append_drop 24 words1, List.all_append, w_t1, ← List.take_append_drop 24 (words1.drop 24), List.all_append, w_t2, ← List.take_append_drop 24 ((words1.drop 24).drop 24), List.all_append, w_t3, ← List.take_append_drop 24 (((words1.drop 24).drop 24).drop 24), List.all_append, w_t4, ← List.take_append_drop 24 ((((words1.drop 24).drop 24).drop 24).drop 24), List.all_append, w_t5, ← List.take_append_drop 24 (((((words1.drop 24).drop 24).drop 24).drop 24).drop 24), List.all_append, w_t6, w_t7]
  rfl
set_option maxRecDepth 65536 in
theorem w_case : (Jvm.Cond.and given_1 narrow_1).before args0 about1 = true := by decide +kernel
theorem w_applies : (headSpec (Jvm.Cond.code x code maxLocals ret :: tables_1) room_1).applies x e0.platform about1 = true :=
  (Spec.applies_iff w_frames).mpr ⟨w_running, w_runnable, w_alone, w_named, w_hears, w_ripe, w_room, w_tables⟩
theorem atStart : AtStart classFile x code maxLocals ret World_1 tables_1 room_1 Calls_1 rest_1 Pre_1 launch0 p0 e0 about1 theMethod args0 below0 :=
  ⟨lists_1, trivial, launch0.admits_env _ _ _, launch0.least_env, fairChoices_fair.cas, fairChoices_fair.clock, w_frames, w_args, w_heap, w_applies, trivial, trivial, w_case⟩
end start1
theorem witness_1 : WitnessClaimed_1 := ⟨start1.p0, start1.e0, start1.about1, start1.theMethod, start1.args0, start1.below0, start1.atStart⟩
end Jvm.Pilot.@@N@@
