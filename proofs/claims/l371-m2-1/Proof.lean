import JvmDerived
import JvmDerived.Pilot.@@N@@Statement
import JvmDerived.Pilot.@@N@@Code
set_option linter.unusedVariables false
set_option linter.unusedSimpArgs false
@@BLOCK:NumsL.lean.txt@@
namespace Jvm.RoadKit
open Sem ClassFile Op Lib Jvm.Stand Jvm.Free Jvm.LawKit
section New
variable {p : Program} {l : Launch} {e : Env} {R : Room} {s : State} {m : MethodId} {args : Array Value} {below : List Frame} {meth : Method} {c : Code} {T : State} {locs : List Loc} {cells slots : Nat}
theorem retI (X : Stand p l e R s m args below meth c T locs cells slots) (hx : p.tables.exec = Jvm.exec) {pc : Nat} {Ls : Array Slot} {z : Int32} {rest : List Value} (hret : meth.sig.returnType = some .int) (hd : decode c.code pc = .ok (.ireturn, 1)) {fs : List Frame}
    (hl : ∀ (f : JFrame) (acts : List Action), f.method = m → f.locked = none → f.entered = [] → (doReturn e (T.setTop f) acts (some (.int z))).1 = T.setFrames fs) : Steps p.tables e below (T.setTop (mkF m pc Ls (.int z :: rest))) (T.setFrames fs) := by
  have hm' : T.vm.method? m = some meth := X.method'
  have hn : narrow .int (.int z) = .int z := rfl
  show Steps p.tables e below (T.setTop { method := m, pc := pc, locals := Ls, stack := _ :: rest, locked := none }) _
  jvm_step X.here [X.here.top, hx, hd, hm', hret, hn]
  first | (intro acts; rw [hl _ acts rfl rfl rfl]) | rw [hl _ _ rfl rfl rfl]
  exact Steps.refl _
end New
end Jvm.RoadKit
namespace Jvm.RoadKit
open Sem ClassFile Op Lib Jvm.Stand Jvm.Free Jvm.LawKit
def fup (f : Nat → Value) (j : Nat) (v : Value) : Nat → Value := fun i => if i = j then v else f i
def AR (Z : State) (h : Heap) (a : Addr) (ty : FieldType) (n : Nat) (f : Nat → Value) : Prop := n < 2147483648 ∧ ∃ c : Cell, Arr Z h a c ty ∧ c.slots.size = n ∧ ∀ i, i < n → c.slots[i]? = some (f i)
section Own
variable {p : Program} {l : Launch} {e : Env} {R : Room} {s : State} {m : MethodId} {args : Array Value} {below : List Frame} {meth : Method} {c : Code} {T : State} {locs : List Loc} {cells slots : Nat}
variable {Z : State} {h h' : Heap} {a b : Addr} {ty : FieldType} {n : Nat} {f f' : Nat → Value} {v : Value} {sl : Nat} {ws : List Addr}
theorem AR.lt (F : AR Z h a ty n f) : a < h.size := by obtain ⟨-, c, A, -⟩ := F; exact A.lt
theorem AR.ext (F : AR Z h a ty n f) (E : Ext h h') : AR Z h' a ty n f := by obtain ⟨q, c, A, r⟩ := F; exact ⟨q, c, A.ext E, r⟩
theorem AR.other (F : AR Z h b ty n f) (W : Wr h h' a sl v) (q : b ≠ a) : AR Z h' b ty n f := by obtain ⟨k, c, A, r⟩ := F; exact ⟨k, c, A.other W q, r⟩
theorem AR.keep (F : AR Z h a ty n f) (K : Keep h h' ws) (q : a ∉ ws) : AR Z h' a ty n f := by obtain ⟨k, c, A, r⟩ := F; exact ⟨k, c, ⟨K.2.1 a c A.1 q, A.2⟩, r⟩
theorem AR.same (F : AR Z h a ty n f) (W : Wr h h' a sl v) : AR Z h' a ty n (fup f sl v) := by
  obtain ⟨k, c, A, S, H⟩ := F
  refine ⟨k, c.setSlot sl v, A.same W, by simpa [Cell.setSlot] using S, fun i hi => ?_⟩
  obtain ⟨c', e1, -, -, -, -, e6, e7⟩ := wr_at W A.1
  obtain ⟨e8, e9, -⟩ := e7 rfl
  unfold fup
  by_cases q : i = sl
  · rw [if_pos q, q, ← e8]; exact e9
  · rw [if_neg q, ← e8, e6 i q]; exact H i hi
theorem AR.eq (F : AR Z h a ty n f) (q : ∀ i, i < n → f' i = f i) : AR Z h a ty n f' := by
  obtain ⟨k, c, A, S, H⟩ := F
  exact ⟨k, c, A, S, fun i hi => by rw [q i hi]; exact H i hi⟩
theorem own_fupI {g : Nat → Int32} {i : Nat} {x : Int32} (F : AR Z h a ty n (fup (fun j => .int (g j)) i (.int x))) : AR Z h a ty n (fun j => .int (if j = i then x else g j)) :=
  F.eq fun j _ => by unfold fup; split <;> rfl
theorem AR.new {k : ClassId} {z : Int32} (A : Arr Z h a (newA k ty z) ty) (q : ¬ z < 0) {n : Nat} (hn : z.toNatClampNeg = n) : AR Z h a ty n (fun _ => defaultValue ty) := by
  obtain ⟨c, A', -, S, -, H, -⟩ := Arv.new A q
  subst hn
  refine ⟨?_, c, A', S, fun i hi => ?_⟩
  · have h1 := z.toInt_lt; have h2 := nat_of q; omega
  · have := H i (by rw [S]; exact hi); simpa using this
theorem ar_in {c : Cell} {j : Int32} (S : c.slots.size = n) (q : ¬ j < 0 ∧ j.toNatClampNeg < n) : ¬ (j < 0 ∨ c.slots.size ≤ j.toNatClampNeg) := by
  rintro (u | u)
  · exact q.1 u
  · rw [S] at u; exact absurd q.2 (Nat.not_lt.mpr u)
theorem own_ldI (X : Stand p l e R s m args below meth c T locs cells slots) (hx : p.tables.exec = Jvm.exec) (hZ : Z.Warmed39 s.vm) (eT : T.heap = h) (A : AR Z h a .int n f) {j x : Int32} (hj : ¬ j < 0 ∧ j.toNatClampNeg < n) (hf : f j.toNatClampNeg = .int x) {g : JFrame} (hg : g.method = m) {rest : List Value} (hs : g.stack = .int j :: .ref a :: rest) (hd : decode c.code g.pc = .ok (.iaload, 1)) (target : State)
    (hr : Steps p.tables e below (T.setTop { g with pc := g.pc + 1, stack := .int x :: rest }) target) : Steps p.tables e below (T.setTop g) target := by
  obtain ⟨k, cl, A', S, H⟩ := A
  exact X.iaload hx (j := j) (v := .int x) (by rw [eT]; exact A'.1) (State.isArrayOf_alike hZ.alike A'.2.1) A'.2.2 (ar_in S hj) (by rw [H _ hj.2, hf]) hg hs hd target hr
theorem own_ldJ (X : Stand p l e R s m args below meth c T locs cells slots) (hx : p.tables.exec = Jvm.exec) (hZ : Z.Warmed39 s.vm) (eT : T.heap = h) (A : AR Z h a .long n f) {j : Int32} {x : Int64} (hj : ¬ j < 0 ∧ j.toNatClampNeg < n) (hf : f j.toNatClampNeg = .long x) {g : JFrame} (hg : g.method = m) {rest : List Value} (hs : g.stack = .int j :: .ref a :: rest) (hd : decode c.code g.pc = .ok (.laload, 1)) (target : State)
    (hr : Steps p.tables e below (T.setTop { g with pc := g.pc + 1, stack := .long x :: rest }) target) : Steps p.tables e below (T.setTop g) target := by
  obtain ⟨k, cl, A', S, H⟩ := A
  exact X.laload hx (j := j) (v := .long x) (by rw [eT]; exact A'.1) (State.isArrayOf_alike hZ.alike A'.2.1) A'.2.2 (ar_in S hj) (by rw [H _ hj.2, hf]) hg hs hd target hr
theorem own_ldD (X : Stand p l e R s m args below meth c T locs cells slots) (hx : p.tables.exec = Jvm.exec) (hZ : Z.Warmed39 s.vm) (eT : T.heap = h) (A : AR Z h a .double n f) {j : Int32} {x : UInt64} (hj : ¬ j < 0 ∧ j.toNatClampNeg < n) (hf : f j.toNatClampNeg = .double x) {g : JFrame} (hg : g.method = m) {rest : List Value} (hs : g.stack = .int j :: .ref a :: rest) (hd : decode c.code g.pc = .ok (.daload, 1)) (target : State)
    (hr : Steps p.tables e below (T.setTop { g with pc := g.pc + 1, stack := .double x :: rest }) target) : Steps p.tables e below (T.setTop g) target := by
  obtain ⟨k, cl, A', S, H⟩ := A
  exact X.daload hx (j := j) (v := .double x) (by rw [eT]; exact A'.1) (State.isArrayOf_alike hZ.alike A'.2.1) A'.2.2 (ar_in S hj) (by rw [H _ hj.2, hf]) hg hs hd target hr
theorem own_len (X : Stand p l e R s m args below meth c T locs cells slots) (hx : p.tables.exec = Jvm.exec) (hZ : Z.Warmed39 s.vm) (eT : T.heap = h) (A : AR Z h a ty n f) {z : Int32} (hz : n.toInt32 = z) {g : JFrame} (hg : g.method = m) {rest : List Value} (hs : g.stack = .ref a :: rest) (hd : decode c.code g.pc = .ok (.arraylength, 1)) (target : State)
    (hr : Steps p.tables e below (T.setTop { g with pc := g.pc + 1, stack := .int z :: rest }) target) : Steps p.tables e below (T.setTop g) target := by
  obtain ⟨k, cl, A', S, H⟩ := A
  exact X.arraylength hx (by rw [eT]; exact A'.1) (State.isArrayOf_alike hZ.alike A'.2.1) hg hs hd target (by rw [S, hz]; exact hr)
theorem own_stI (X : Stand p l e R s m args below meth c T locs cells slots) (hx : p.tables.exec = Jvm.exec) (hZ : Z.Warmed39 s.vm) (eT : T.heap = h) (A : AR Z h a .int n f) {j x : Int32} (hj : ¬ j < 0 ∧ j.toNatClampNeg < n) {g : JFrame} (hg : g.method = m) {rest : List Value} (hs : g.stack = .int x :: .int j :: .ref a :: rest) (hd : decode c.code g.pc = .ok (.iastore, 1)) :
    ∃ T' h', Stand p l e R s m args below meth c T' (locs ++ [⟨a, j.toNatClampNeg⟩]) cells slots ∧ T'.heap = h' ∧ Wr h h' a j.toNatClampNeg (.int x) ∧ AR Z h' a .int n (fup f j.toNatClampNeg (.int x)) ∧ ∀ target, Steps p.tables e below (T'.setTop { g with pc := g.pc + 1, stack := rest }) target → Steps p.tables e below (T.setTop g) target := by
  have A0 := A
  obtain ⟨k, cl, A', S, H⟩ := A
  obtain ⟨T', h', X', e', W', st⟩ := stI X hx hZ eT A' (ar_in S hj) hg hs hd
  exact ⟨T', h', X', e', W', A0.same W', st⟩
theorem own_stJ (X : Stand p l e R s m args below meth c T locs cells slots) (hx : p.tables.exec = Jvm.exec) (hZ : Z.Warmed39 s.vm) (eT : T.heap = h) (A : AR Z h a .long n f) {j : Int32} {x : Int64} (hj : ¬ j < 0 ∧ j.toNatClampNeg < n) {g : JFrame} (hg : g.method = m) {rest : List Value} (hs : g.stack = .long x :: .int j :: .ref a :: rest) (hd : decode c.code g.pc = .ok (.lastore, 1)) :
    ∃ T' h', Stand p l e R s m args below meth c T' (locs ++ [⟨a, j.toNatClampNeg⟩]) cells slots ∧ T'.heap = h' ∧ Wr h h' a j.toNatClampNeg (.long x) ∧ AR Z h' a .long n (fup f j.toNatClampNeg (.long x)) ∧ ∀ target, Steps p.tables e below (T'.setTop { g with pc := g.pc + 1, stack := rest }) target → Steps p.tables e below (T.setTop g) target := by
  have A0 := A
  obtain ⟨k, cl, A', S, H⟩ := A
  obtain ⟨T', h', X', e', W', st⟩ := stJ X hx hZ eT A' (ar_in S hj) hg hs hd
  exact ⟨T', h', X', e', W', A0.same W', st⟩
theorem own_stD (X : Stand p l e R s m args below meth c T locs cells slots) (hx : p.tables.exec = Jvm.exec) (hZ : Z.Warmed39 s.vm) (eT : T.heap = h) (A : AR Z h a .double n f) {j : Int32} {x : UInt64} (hj : ¬ j < 0 ∧ j.toNatClampNeg < n) {g : JFrame} (hg : g.method = m) {rest : List Value} (hs : g.stack = .double x :: .int j :: .ref a :: rest) (hd : decode c.code g.pc = .ok (.dastore, 1)) :
    ∃ T' h', Stand p l e R s m args below meth c T' (locs ++ [⟨a, j.toNatClampNeg⟩]) cells slots ∧ T'.heap = h' ∧ Wr h h' a j.toNatClampNeg (.double x) ∧ AR Z h' a .double n (fup f j.toNatClampNeg (.double x)) ∧ ∀ target, Steps p.tables e below (T'.setTop { g with pc := g.pc + 1, stack := rest }) target → Steps p.tables e below (T.setTop g) target := by
  have A0 := A
  obtain ⟨k, cl, A', S, H⟩ := A
  obtain ⟨T', h', X', e', W', st⟩ := stD X hx hZ eT A' (ar_in S hj) hg hs hd
  exact ⟨T', h', X', e', W', A0.same W', st⟩
end Own
end Jvm.RoadKit
namespace Jvm.Pilot.@@N@@
open Jvm Jvm.ClassFile Sem Op Lib Jvm.Free Jvm.Stand Jvm.LawKit Jvm.RoadKit Bundle Jvm.Pilot.@@N@@.Jvm.D
def BB (n : Nat) (a : Int64) : Prop := -(n : Int) ≤ a.toInt ∧ a.toInt ≤ n
theorem BB.i32 (x : Int32) : BB 2147483648 x.toInt64 := by
  have h1 := x.le_toInt; have h2 := x.toInt_lt
  unfold BB; rw [Int32.toInt_toInt64]; constructor <;> omega
theorem BB.add {n m : Nat} {a b : Int64} (ha : BB n a) (hb : BB m b) (h : n + m < 4611686018427387904) : BB (n + m) (a + b) := by
  unfold BB at *; rw [Int64.toInt_add, Int.bmod_def]; constructor <;> omega
theorem BB.sub {n m : Nat} {a b : Int64} (ha : BB n a) (hb : BB m b) (h : n + m < 4611686018427387904) : BB (n + m) (a - b) := by
  unfold BB at *; rw [Int64.toInt_sub, Int.bmod_def]; constructor <;> omega
theorem BB.b53 {n : Nat} {a : Int64} (ha : BB n a) (h : n < 9007199254740992) : B53 a := by
  unfold BB at ha; constructor <;> omega
theorem own_lcmp (z : Int64) : lcmpW z z = 0 := by simp [lcmpW]
theorem own_six (x : Int32) : ((x &&& 2147483647) % 6 = 0) ∨ ((x &&& 2147483647) % 6 = 1) ∨ ((x &&& 2147483647) % 6 = 2) ∨ ((x &&& 2147483647) % 6 = 3) ∨ ((x &&& 2147483647) % 6 = 4) ∨ ((x &&& 2147483647) % 6 = 5) := by
  have h1 : (x &&& 2147483647).toInt = x.toInt % 2 ^ 31 := Jvm.Kit.i32_mask x 2147483647 (k := 31) (by decide) (by decide)
  have h2 : ((x &&& 2147483647) % 6).toInt = (x &&& 2147483647).toInt.tmod 6 := by rw [Int32.toInt_mod]; rfl
  have h3 : (x &&& 2147483647).toInt.tmod 6 = (x &&& 2147483647).toInt % 6 := Int.tmod_eq_emod_of_nonneg (by omega)
  have e : ∀ k : Int32, (((x &&& 2147483647) % 6).toInt = k.toInt) → (x &&& 2147483647) % 6 = k := fun k q => Int32.toInt_inj.mp q
  have r : ((x &&& 2147483647) % 6).toInt = 0 ∨ ((x &&& 2147483647) % 6).toInt = 1 ∨ ((x &&& 2147483647) % 6).toInt = 2 ∨ ((x &&& 2147483647) % 6).toInt = 3 ∨ ((x &&& 2147483647) % 6).toInt = 4 ∨ ((x &&& 2147483647) % 6).toInt = 5 := by rw [h2, h3]; omega
  rcases r with r | r | r | r | r | r
  · exact Or.inl (e 0 r)
  · exact Or.inr (Or.inl (e 1 r))
  · exact Or.inr (Or.inr (Or.inl (e 2 r)))
  · exact Or.inr (Or.inr (Or.inr (Or.inl (e 3 r))))
  · exact Or.inr (Or.inr (Or.inr (Or.inr (Or.inl (e 4 r)))))
  · exact Or.inr (Or.inr (Or.inr (Or.inr (Or.inr (e 5 r)))))
theorem own_b0 : BB 0 (0 : Int64) := by unfold BB; decide
theorem d1_0 : decode prog_1_method_9_code 0 = .ok (.dconst 0, 1) := by decide +kernel
theorem d1_1 : decode prog_1_method_9_code 1 = .ok (.dstore_n 1, 1) := by decide +kernel
theorem d1_2 : decode prog_1_method_9_code 2 = .ok (.aload_n 0, 1) := by decide +kernel
theorem d1_3 : decode prog_1_method_9_code 3 = .ok (.astore_n 3, 1) := by decide +kernel
theorem d1_4 : decode prog_1_method_9_code 4 = .ok (.aload_n 3, 1) := by decide +kernel
theorem d1_5 : decode prog_1_method_9_code 5 = .ok (.arraylength, 1) := by decide +kernel
theorem d1_6 : decode prog_1_method_9_code 6 = .ok (.istore 4, 2) := by decide +kernel
theorem d1_8 : decode prog_1_method_9_code 8 = .ok (.iconst 0, 1) := by decide +kernel
theorem d1_9 : decode prog_1_method_9_code 9 = .ok (.istore 5, 2) := by decide +kernel
theorem d1_11 : decode prog_1_method_9_code 11 = .ok (.iload 5, 2) := by decide +kernel
theorem d1_13 : decode prog_1_method_9_code 13 = .ok (.iload 4, 2) := by decide +kernel
theorem d1_15 : decode prog_1_method_9_code 15 = .ok (.if_icmp .ge 20, 3) := by decide +kernel
theorem d1_35 : decode prog_1_method_9_code 35 = .ok (.dload_n 1, 1) := by decide +kernel
theorem d1_36 : decode prog_1_method_9_code 36 = .ok (.dreturn, 1) := by decide +kernel
theorem pn_com_example_weir3_weir3_biology_BiomassMap : plainName "com/example/weir3/weir3/biology/BiomassMap" = true := by first | (simp [plainName, overriddenIn]; done) | decide +kernel
theorem ef_rmT0 (m : MethodId) (x0 : Addr) : entryFrame m #[(.ref x0)] 8 = mkF m 0 #[.val (.ref x0), .unset, .unset, .unset, .unset, .unset, .unset, .unset] [] := by first | (simp [entryFrame, mkF, argsToLocals, Value.category]; done) | rfl
def QrmT0 (Z : State) (a1 : Addr) (h0 : Heap) (n0 : Nat) (v : Option Value) (h : Heap) (L : List Loc) : Prop := v = some (.double (FP.l2d (0 : Int64))) ∧ Fr n0 L ∧ h = h0
set_option maxRecDepth 65536 in
set_option maxHeartbeats 40000000 in
theorem rmT0 (l : Launch) (Z : State) (a0 : Array Value) (hw : ∀ d ∈ tables_1, d.before a0 Z = true) (ws : List Jvm.Cond) (a1 : Addr) (h0 : Heap) (n0 : Nat) (Z0 : n0 ≤ h0.size) (A1 : AR Z h0 a1 .double 0 (fun _ => (.double (FP.l2d (0 : Int64))))) :
    MetFree l (⟨"com/example/weir3/weir3/biology/BiomassMap", "total", "([D)D"⟩ : MethodName) (head1 (Jvm.Cond.code (⟨"com/example/weir3/weir3/biology/BiomassMap", "total", "([D)D"⟩ : MethodName) prog_1_method_9_code 8 (some .double) :: ws) ({ frames := 0, cells := 0, slots := 0, locals := 0 } : Room)) (fun a U => a = #[(.ref a1)] ∧ Z.Warmed39 U.vm ∧ U.heap = h0) (fun _ _ _ _ _ => True) (fun _ U o U' => ∃ v L, o = .returned v ∧ QrmT0 Z a1 h0 n0 v U'.heap L ∧ FrameEnd U o U' L ({ frames := 0, cells := 0, slots := 0, locals := 0 } : Room).cells ({ frames := 0, cells := 0, slots := 0, locals := 0 } : Room).slots) := by
  refine MetFree.of_bodySF (plainFor_of_name pn_com_example_weir3_weir3_biology_BiomassMap) hisR ?_
  intro p e s m args below meth c s₁ Bd hml0 hP hK
  obtain ⟨rfl, hZ, hh⟩ := hP
  have hx := Bd.exec
  have hby := Bd.bytes
  have hml : c.maxLocals = 8 := hml0
  have hown : s.vm.findClass "com/example/weir3/weir3/biology/BiomassMap" = some m.cls := findClass_of_methodNamed Bd.named
  have hnm := (name_of_methodNamed Bd.named Bd.method).1
  have X0 : Stand p l e ({ frames := 0, cells := 0, slots := 0, locals := 0 } : Room) s m #[(.ref a1)] below meth c s₁ [] 0 0 := Stand.of_body Bd
  have e0 : s₁.heap = h0 := by rw [← hh, Bd.state]; rfl
  have N0 := Fr.nil n0
  have pre0 : ∀ t, Steps p.tables e below (s₁.setTop (mkF m 0 #[.val (.ref a1), .unset, .unset, .unset, .unset, .unset, .unset, .unset] [])) t → Steps p.tables e below (s₁.setTop (entryFrame m #[(.ref a1)] 8)) t := fun t k => castTop (ef_rmT0 m a1) k
  obtain ⟨zr, hzr⟩ : ∃ z : UInt64, z = (FP.l2d (0 : Int64)) := ⟨_, rfl⟩
  obtain ⟨fs, hr, hrun, hended, hW, hsame⟩ := X0.leave (v := some (.double zr)) (fun h => by rw [Bd.returns] at h; cases h)
  refine ⟨_, _, pre0 _ (?_), hrun, hended, _, _, rfl, ?_, ⟨_, rfl⟩, hW, hsame.mono (by decide) (by decide)⟩
  · show Steps p.tables e below (s₁.setTop (mkF m 0 #[.val (.ref a1), .unset, .unset, .unset, .unset, .unset, .unset, .unset] [])) _
    refine XS.dconst0 X0.here hx rfl (v := (FP.l2d (0 : Int64))) (hb hby d1_0) (by decide +kernel) ?_
    show Steps p.tables e below (s₁.setTop (mkF m 1 #[.val (.ref a1), .unset, .unset, .unset, .unset, .unset, .unset, .unset] [(.double (FP.l2d (0 : Int64)))])) _
    refine XS.dstoreN X0.here hx rfl (hb hby d1_1) rfl (l' := #[.val (.ref a1), .val (.double (FP.l2d (0 : Int64))), .second, .unset, .unset, .unset, .unset, .unset]) rfl ?_
    show Steps p.tables e below (s₁.setTop (mkF m 2 #[.val (.ref a1), .val (.double (FP.l2d (0 : Int64))), .second, .unset, .unset, .unset, .unset, .unset] [])) _
    refine XS.aloadN X0.here hx rfl (hb hby d1_2) rfl rfl ?_
    show Steps p.tables e below (s₁.setTop (mkF m 3 #[.val (.ref a1), .val (.double (FP.l2d (0 : Int64))), .second, .unset, .unset, .unset, .unset, .unset] [(.ref a1)])) _
    refine XS.astoreN X0.here hx rfl (hb hby d1_3) rfl rfl (l' := #[.val (.ref a1), .val (.double (FP.l2d (0 : Int64))), .second, .val (.ref a1), .unset, .unset, .unset, .unset]) rfl ?_
    show Steps p.tables e below (s₁.setTop (mkF m 4 #[.val (.ref a1), .val (.double (FP.l2d (0 : Int64))), .second, .val (.ref a1), .unset, .unset, .unset, .unset] [])) _
    refine XS.aloadN X0.here hx rfl (hb hby d1_4) rfl rfl ?_
    show Steps p.tables e below (s₁.setTop (mkF m 5 #[.val (.ref a1), .val (.double (FP.l2d (0 : Int64))), .second, .val (.ref a1), .unset, .unset, .unset, .unset] [(.ref a1)])) _
    refine own_len X0 hx hZ e0 A1 (z := (0 : Int32)) rfl (g := (mkF m 5 #[.val (.ref a1), .val (.double (FP.l2d (0 : Int64))), .second, .val (.ref a1), .unset, .unset, .unset, .unset] [(.ref a1)])) rfl rfl (hb hby d1_5) _ ?_
    show Steps p.tables e below (s₁.setTop (mkF m 6 #[.val (.ref a1), .val (.double (FP.l2d (0 : Int64))), .second, .val (.ref a1), .unset, .unset, .unset, .unset] [(.int (0 : Int32))])) _
    refine XS.istore X0.here hx rfl (hb hby d1_6) rfl (l' := #[.val (.ref a1), .val (.double (FP.l2d (0 : Int64))), .second, .val (.ref a1), .val (.int (0 : Int32)), .unset, .unset, .unset]) rfl ?_
    show Steps p.tables e below (s₁.setTop (mkF m 8 #[.val (.ref a1), .val (.double (FP.l2d (0 : Int64))), .second, .val (.ref a1), .val (.int (0 : Int32)), .unset, .unset, .unset] [])) _
    refine XS.iconst X0.here hx rfl (hb hby d1_8) ?_
    show Steps p.tables e below (s₁.setTop (mkF m 9 #[.val (.ref a1), .val (.double (FP.l2d (0 : Int64))), .second, .val (.ref a1), .val (.int (0 : Int32)), .unset, .unset, .unset] [(.int (0 : Int32))])) _
    refine XS.istore X0.here hx rfl (hb hby d1_9) rfl (l' := #[.val (.ref a1), .val (.double (FP.l2d (0 : Int64))), .second, .val (.ref a1), .val (.int (0 : Int32)), .val (.int (0 : Int32)), .unset, .unset]) rfl ?_
    show Steps p.tables e below (s₁.setTop (mkF m 11 #[.val (.ref a1), .val (.double (FP.l2d (0 : Int64))), .second, .val (.ref a1), .val (.int (0 : Int32)), .val (.int (0 : Int32)), .unset, .unset] [])) _
    refine XS.iload X0.here hx rfl (hb hby d1_11) rfl ?_
    show Steps p.tables e below (s₁.setTop (mkF m 13 #[.val (.ref a1), .val (.double (FP.l2d (0 : Int64))), .second, .val (.ref a1), .val (.int (0 : Int32)), .val (.int (0 : Int32)), .unset, .unset] [(.int (0 : Int32))])) _
    refine XS.iload X0.here hx rfl (hb hby d1_13) rfl ?_
    show Steps p.tables e below (s₁.setTop (mkF m 15 #[.val (.ref a1), .val (.double (FP.l2d (0 : Int64))), .second, .val (.ref a1), .val (.int (0 : Int32)), .val (.int (0 : Int32)), .unset, .unset] [(.int (0 : Int32)), (.int (0 : Int32))])) _
    refine XS.icmpYes X0.here hx rfl (pc0 := 15) (pc' := 35) rfl (hb hby d1_15) rfl (flt (by decide : ¬ ((0 : Int32) < (0 : Int32)))).2.1 (by decide) (by decide) ?_
    show Steps p.tables e below (s₁.setTop (mkF m 35 #[.val (.ref a1), .val (.double (FP.l2d (0 : Int64))), .second, .val (.ref a1), .val (.int (0 : Int32)), .val (.int (0 : Int32)), .unset, .unset] [])) _
    refine XS.dloadN X0.here hx rfl (hb hby d1_35) rfl ?_
    show Steps p.tables e below (s₁.setTop (mkF m 36 #[.val (.ref a1), .val (.double (FP.l2d (0 : Int64))), .second, .val (.ref a1), .val (.int (0 : Int32)), .val (.int (0 : Int32)), .unset, .unset] [(.double (FP.l2d (0 : Int64)))])) _
    rw [← hzr]
    jvm_step X0.here [X0.here.top, hx, (hb hby d1_36), X0.method', Bd.returns, narrow]
    first | (intro acts; rw [hr _ acts rfl rfl rfl]) | rw [hr _ _ rfl rfl rfl]
    exact Steps.refl _
  · show QrmT0 Z a1 h0 n0 _ s₁.heap _
    rw [e0]; subst hzr
    exact ⟨rfl, N0, rfl⟩
theorem d1_18 : decode prog_1_method_9_code 18 = .ok (.aload_n 3, 1) := by decide +kernel
theorem d1_19 : decode prog_1_method_9_code 19 = .ok (.iload 5, 2) := by decide +kernel
theorem d1_21 : decode prog_1_method_9_code 21 = .ok (.daload, 1) := by decide +kernel
theorem d1_22 : decode prog_1_method_9_code 22 = .ok (.dstore 6, 2) := by decide +kernel
theorem d1_24 : decode prog_1_method_9_code 24 = .ok (.dload_n 1, 1) := by decide +kernel
theorem d1_25 : decode prog_1_method_9_code 25 = .ok (.dload 6, 2) := by decide +kernel
theorem d1_27 : decode prog_1_method_9_code 27 = .ok (.dadd, 1) := by decide +kernel
theorem d1_28 : decode prog_1_method_9_code 28 = .ok (.dstore_n 1, 1) := by decide +kernel
theorem d1_29 : decode prog_1_method_9_code 29 = .ok (.iinc 5 1, 3) := by decide +kernel
theorem d1_32 : decode prog_1_method_9_code 32 = .ok (.goto (-21), 3) := by decide +kernel
theorem ef_rmT1 (m : MethodId) (x0 : Addr) : entryFrame m #[(.ref x0)] 8 = mkF m 0 #[.val (.ref x0), .unset, .unset, .unset, .unset, .unset, .unset, .unset] [] := by first | (simp [entryFrame, mkF, argsToLocals, Value.category]; done) | rfl
def QrmT1 (Z : State) (a1 : Addr) (q0 : Int64) (h0 : Heap) (n0 : Nat) (v : Option Value) (h : Heap) (L : List Loc) : Prop := v = some (.double (FP.l2d ((0 : Int64) + q0))) ∧ Fr n0 L ∧ h = h0
set_option maxRecDepth 65536 in
set_option maxHeartbeats 40000000 in
theorem rmT1 (l : Launch) (Z : State) (a0 : Array Value) (hw : ∀ d ∈ tables_1, d.before a0 Z = true) (ws : List Jvm.Cond) (a1 : Addr) (q0 : Int64) (h0 : Heap) (n0 : Nat) (Z0 : n0 ≤ h0.size) (Bq0 : BB 2147483648 q0) (A1 : AR Z h0 a1 .double 1 (fup (fun _ => (.double (FP.l2d (0 : Int64)))) 0 (.double (FP.l2d q0)))) :
    MetFree l (⟨"com/example/weir3/weir3/biology/BiomassMap", "total", "([D)D"⟩ : MethodName) (head1 (Jvm.Cond.code (⟨"com/example/weir3/weir3/biology/BiomassMap", "total", "([D)D"⟩ : MethodName) prog_1_method_9_code 8 (some .double) :: ws) ({ frames := 0, cells := 0, slots := 0, locals := 0 } : Room)) (fun a U => a = #[(.ref a1)] ∧ Z.Warmed39 U.vm ∧ U.heap = h0) (fun _ _ _ _ _ => True) (fun _ U o U' => ∃ v L, o = .returned v ∧ QrmT1 Z a1 q0 h0 n0 v U'.heap L ∧ FrameEnd U o U' L ({ frames := 0, cells := 0, slots := 0, locals := 0 } : Room).cells ({ frames := 0, cells := 0, slots := 0, locals := 0 } : Room).slots) := by
  refine MetFree.of_bodySF (plainFor_of_name pn_com_example_weir3_weir3_biology_BiomassMap) hisR ?_
  intro p e s m args below meth c s₁ Bd hml0 hP hK
  obtain ⟨rfl, hZ, hh⟩ := hP
  have hx := Bd.exec
  have hby := Bd.bytes
  have hml : c.maxLocals = 8 := hml0
  have hown : s.vm.findClass "com/example/weir3/weir3/biology/BiomassMap" = some m.cls := findClass_of_methodNamed Bd.named
  have hnm := (name_of_methodNamed Bd.named Bd.method).1
  have X0 : Stand p l e ({ frames := 0, cells := 0, slots := 0, locals := 0 } : Room) s m #[(.ref a1)] below meth c s₁ [] 0 0 := Stand.of_body Bd
  have e0 : s₁.heap = h0 := by rw [← hh, Bd.state]; rfl
  have N0 := Fr.nil n0
  have pre0 : ∀ t, Steps p.tables e below (s₁.setTop (mkF m 0 #[.val (.ref a1), .unset, .unset, .unset, .unset, .unset, .unset, .unset] [])) t → Steps p.tables e below (s₁.setTop (entryFrame m #[(.ref a1)] 8)) t := fun t k => castTop (ef_rmT1 m a1) k
  obtain ⟨zr, hzr⟩ : ∃ z : UInt64, z = (FP.l2d ((0 : Int64) + q0)) := ⟨_, rfl⟩
  obtain ⟨fs, hr, hrun, hended, hW, hsame⟩ := X0.leave (v := some (.double zr)) (fun h => by rw [Bd.returns] at h; cases h)
  refine ⟨_, _, pre0 _ (?_), hrun, hended, _, _, rfl, ?_, ⟨_, rfl⟩, hW, hsame.mono (by decide) (by decide)⟩
  · show Steps p.tables e below (s₁.setTop (mkF m 0 #[.val (.ref a1), .unset, .unset, .unset, .unset, .unset, .unset, .unset] [])) _
    refine XS.dconst0 X0.here hx rfl (v := (FP.l2d (0 : Int64))) (hb hby d1_0) (by decide +kernel) ?_
    show Steps p.tables e below (s₁.setTop (mkF m 1 #[.val (.ref a1), .unset, .unset, .unset, .unset, .unset, .unset, .unset] [(.double (FP.l2d (0 : Int64)))])) _
    refine XS.dstoreN X0.here hx rfl (hb hby d1_1) rfl (l' := #[.val (.ref a1), .val (.double (FP.l2d (0 : Int64))), .second, .unset, .unset, .unset, .unset, .unset]) rfl ?_
    show Steps p.tables e below (s₁.setTop (mkF m 2 #[.val (.ref a1), .val (.double (FP.l2d (0 : Int64))), .second, .unset, .unset, .unset, .unset, .unset] [])) _
    refine XS.aloadN X0.here hx rfl (hb hby d1_2) rfl rfl ?_
    show Steps p.tables e below (s₁.setTop (mkF m 3 #[.val (.ref a1), .val (.double (FP.l2d (0 : Int64))), .second, .unset, .unset, .unset, .unset, .unset] [(.ref a1)])) _
    refine XS.astoreN X0.here hx rfl (hb hby d1_3) rfl rfl (l' := #[.val (.ref a1), .val (.double (FP.l2d (0 : Int64))), .second, .val (.ref a1), .unset, .unset, .unset, .unset]) rfl ?_
    show Steps p.tables e below (s₁.setTop (mkF m 4 #[.val (.ref a1), .val (.double (FP.l2d (0 : Int64))), .second, .val (.ref a1), .unset, .unset, .unset, .unset] [])) _
    refine XS.aloadN X0.here hx rfl (hb hby d1_4) rfl rfl ?_
    show Steps p.tables e below (s₁.setTop (mkF m 5 #[.val (.ref a1), .val (.double (FP.l2d (0 : Int64))), .second, .val (.ref a1), .unset, .unset, .unset, .unset] [(.ref a1)])) _
    refine own_len X0 hx hZ e0 A1 (z := (1 : Int32)) rfl (g := (mkF m 5 #[.val (.ref a1), .val (.double (FP.l2d (0 : Int64))), .second, .val (.ref a1), .unset, .unset, .unset, .unset] [(.ref a1)])) rfl rfl (hb hby d1_5) _ ?_
    show Steps p.tables e below (s₁.setTop (mkF m 6 #[.val (.ref a1), .val (.double (FP.l2d (0 : Int64))), .second, .val (.ref a1), .unset, .unset, .unset, .unset] [(.int (1 : Int32))])) _
    refine XS.istore X0.here hx rfl (hb hby d1_6) rfl (l' := #[.val (.ref a1), .val (.double (FP.l2d (0 : Int64))), .second, .val (.ref a1), .val (.int (1 : Int32)), .unset, .unset, .unset]) rfl ?_
    show Steps p.tables e below (s₁.setTop (mkF m 8 #[.val (.ref a1), .val (.double (FP.l2d (0 : Int64))), .second, .val (.ref a1), .val (.int (1 : Int32)), .unset, .unset, .unset] [])) _
    refine XS.iconst X0.here hx rfl (hb hby d1_8) ?_
    show Steps p.tables e below (s₁.setTop (mkF m 9 #[.val (.ref a1), .val (.double (FP.l2d (0 : Int64))), .second, .val (.ref a1), .val (.int (1 : Int32)), .unset, .unset, .unset] [(.int (0 : Int32))])) _
    refine XS.istore X0.here hx rfl (hb hby d1_9) rfl (l' := #[.val (.ref a1), .val (.double (FP.l2d (0 : Int64))), .second, .val (.ref a1), .val (.int (1 : Int32)), .val (.int (0 : Int32)), .unset, .unset]) rfl ?_
    show Steps p.tables e below (s₁.setTop (mkF m 11 #[.val (.ref a1), .val (.double (FP.l2d (0 : Int64))), .second, .val (.ref a1), .val (.int (1 : Int32)), .val (.int (0 : Int32)), .unset, .unset] [])) _
    refine XS.iload X0.here hx rfl (hb hby d1_11) rfl ?_
    show Steps p.tables e below (s₁.setTop (mkF m 13 #[.val (.ref a1), .val (.double (FP.l2d (0 : Int64))), .second, .val (.ref a1), .val (.int (1 : Int32)), .val (.int (0 : Int32)), .unset, .unset] [(.int (0 : Int32))])) _
    refine XS.iload X0.here hx rfl (hb hby d1_13) rfl ?_
    show Steps p.tables e below (s₁.setTop (mkF m 15 #[.val (.ref a1), .val (.double (FP.l2d (0 : Int64))), .second, .val (.ref a1), .val (.int (1 : Int32)), .val (.int (0 : Int32)), .unset, .unset] [(.int (1 : Int32)), (.int (0 : Int32))])) _
    refine XS.icmpNo X0.here hx rfl (hb hby d1_15) rfl (tlt (by decide : (0 : Int32) < (1 : Int32))).2.1 ?_
    show Steps p.tables e below (s₁.setTop (mkF m 18 #[.val (.ref a1), .val (.double (FP.l2d (0 : Int64))), .second, .val (.ref a1), .val (.int (1 : Int32)), .val (.int (0 : Int32)), .unset, .unset] [])) _
    refine XS.aloadN X0.here hx rfl (hb hby d1_18) rfl rfl ?_
    show Steps p.tables e below (s₁.setTop (mkF m 19 #[.val (.ref a1), .val (.double (FP.l2d (0 : Int64))), .second, .val (.ref a1), .val (.int (1 : Int32)), .val (.int (0 : Int32)), .unset, .unset] [(.ref a1)])) _
    refine XS.iload X0.here hx rfl (hb hby d1_19) rfl ?_
    show Steps p.tables e below (s₁.setTop (mkF m 21 #[.val (.ref a1), .val (.double (FP.l2d (0 : Int64))), .second, .val (.ref a1), .val (.int (1 : Int32)), .val (.int (0 : Int32)), .unset, .unset] [(.int (0 : Int32)), (.ref a1)])) _
    refine own_ldD X0 hx hZ e0 A1 (j := (0 : Int32)) (x := (FP.l2d q0)) (by decide) rfl (g := (mkF m 21 #[.val (.ref a1), .val (.double (FP.l2d (0 : Int64))), .second, .val (.ref a1), .val (.int (1 : Int32)), .val (.int (0 : Int32)), .unset, .unset] [(.int (0 : Int32)), (.ref a1)])) rfl rfl (hb hby d1_21) _ ?_
    show Steps p.tables e below (s₁.setTop (mkF m 22 #[.val (.ref a1), .val (.double (FP.l2d (0 : Int64))), .second, .val (.ref a1), .val (.int (1 : Int32)), .val (.int (0 : Int32)), .unset, .unset] [(.double (FP.l2d q0))])) _
    refine XS.dstore X0.here hx rfl (hb hby d1_22) rfl (l' := #[.val (.ref a1), .val (.double (FP.l2d (0 : Int64))), .second, .val (.ref a1), .val (.int (1 : Int32)), .val (.int (0 : Int32)), .val (.double (FP.l2d q0)), .second]) rfl ?_
    show Steps p.tables e below (s₁.setTop (mkF m 24 #[.val (.ref a1), .val (.double (FP.l2d (0 : Int64))), .second, .val (.ref a1), .val (.int (1 : Int32)), .val (.int (0 : Int32)), .val (.double (FP.l2d q0)), .second] [])) _
    refine XS.dloadN X0.here hx rfl (hb hby d1_24) rfl ?_
    show Steps p.tables e below (s₁.setTop (mkF m 25 #[.val (.ref a1), .val (.double (FP.l2d (0 : Int64))), .second, .val (.ref a1), .val (.int (1 : Int32)), .val (.int (0 : Int32)), .val (.double (FP.l2d q0)), .second] [(.double (FP.l2d (0 : Int64)))])) _
    refine XS.dload X0.here hx rfl (hb hby d1_25) rfl ?_
    show Steps p.tables e below (s₁.setTop (mkF m 27 #[.val (.ref a1), .val (.double (FP.l2d (0 : Int64))), .second, .val (.ref a1), .val (.int (1 : Int32)), .val (.int (0 : Int32)), .val (.double (FP.l2d q0)), .second] [(.double (FP.l2d q0)), (.double (FP.l2d (0 : Int64)))])) _
    refine XS.daddS X0.here hx rfl (v := (FP.l2d ((0 : Int64) + q0))) (hb hby d1_27) rfl (nn_w (dadd_w (own_b0.b53 (by decide)) (Bq0.b53 (by decide)))) (dadd_w (own_b0.b53 (by decide)) (Bq0.b53 (by decide))) ?_
    show Steps p.tables e below (s₁.setTop (mkF m 28 #[.val (.ref a1), .val (.double (FP.l2d (0 : Int64))), .second, .val (.ref a1), .val (.int (1 : Int32)), .val (.int (0 : Int32)), .val (.double (FP.l2d q0)), .second] [(.double (FP.l2d ((0 : Int64) + q0)))])) _
    refine XS.dstoreN X0.here hx rfl (hb hby d1_28) rfl (l' := #[.val (.ref a1), .val (.double (FP.l2d ((0 : Int64) + q0))), .second, .val (.ref a1), .val (.int (1 : Int32)), .val (.int (0 : Int32)), .val (.double (FP.l2d q0)), .second]) rfl ?_
    show Steps p.tables e below (s₁.setTop (mkF m 29 #[.val (.ref a1), .val (.double (FP.l2d ((0 : Int64) + q0))), .second, .val (.ref a1), .val (.int (1 : Int32)), .val (.int (0 : Int32)), .val (.double (FP.l2d q0)), .second] [])) _
    refine XS.iinc X0.here hx rfl (hb hby d1_29) rfl (l' := #[.val (.ref a1), .val (.double (FP.l2d ((0 : Int64) + q0))), .second, .val (.ref a1), .val (.int (1 : Int32)), .val (.int (1 : Int32)), .val (.double (FP.l2d q0)), .second]) rfl ?_
    show Steps p.tables e below (s₁.setTop (mkF m 32 #[.val (.ref a1), .val (.double (FP.l2d ((0 : Int64) + q0))), .second, .val (.ref a1), .val (.int (1 : Int32)), .val (.int (1 : Int32)), .val (.double (FP.l2d q0)), .second] [])) _
    refine XS.goto X0.here hx rfl (pc0 := 32) (pc' := 11) rfl (hb hby d1_32) (by decide) (by decide) ?_
    show Steps p.tables e below (s₁.setTop (mkF m 11 #[.val (.ref a1), .val (.double (FP.l2d ((0 : Int64) + q0))), .second, .val (.ref a1), .val (.int (1 : Int32)), .val (.int (1 : Int32)), .val (.double (FP.l2d q0)), .second] [])) _
    refine XS.iload X0.here hx rfl (hb hby d1_11) rfl ?_
    show Steps p.tables e below (s₁.setTop (mkF m 13 #[.val (.ref a1), .val (.double (FP.l2d ((0 : Int64) + q0))), .second, .val (.ref a1), .val (.int (1 : Int32)), .val (.int (1 : Int32)), .val (.double (FP.l2d q0)), .second] [(.int (1 : Int32))])) _
    refine XS.iload X0.here hx rfl (hb hby d1_13) rfl ?_
    show Steps p.tables e below (s₁.setTop (mkF m 15 #[.val (.ref a1), .val (.double (FP.l2d ((0 : Int64) + q0))), .second, .val (.ref a1), .val (.int (1 : Int32)), .val (.int (1 : Int32)), .val (.double (FP.l2d q0)), .second] [(.int (1 : Int32)), (.int (1 : Int32))])) _
    refine XS.icmpYes X0.here hx rfl (pc0 := 15) (pc' := 35) rfl (hb hby d1_15) rfl (flt (by decide : ¬ ((1 : Int32) < (1 : Int32)))).2.1 (by decide) (by decide) ?_
    show Steps p.tables e below (s₁.setTop (mkF m 35 #[.val (.ref a1), .val (.double (FP.l2d ((0 : Int64) + q0))), .second, .val (.ref a1), .val (.int (1 : Int32)), .val (.int (1 : Int32)), .val (.double (FP.l2d q0)), .second] [])) _
    refine XS.dloadN X0.here hx rfl (hb hby d1_35) rfl ?_
    show Steps p.tables e below (s₁.setTop (mkF m 36 #[.val (.ref a1), .val (.double (FP.l2d ((0 : Int64) + q0))), .second, .val (.ref a1), .val (.int (1 : Int32)), .val (.int (1 : Int32)), .val (.double (FP.l2d q0)), .second] [(.double (FP.l2d ((0 : Int64) + q0)))])) _
    rw [← hzr]
    jvm_step X0.here [X0.here.top, hx, (hb hby d1_36), X0.method', Bd.returns, narrow]
    first | (intro acts; rw [hr _ acts rfl rfl rfl]) | rw [hr _ _ rfl rfl rfl]
    exact Steps.refl _
  · show QrmT1 Z a1 q0 h0 n0 _ s₁.heap _
    rw [e0]; subst hzr
    exact ⟨rfl, N0, rfl⟩
theorem ef_rmT2 (m : MethodId) (x0 : Addr) : entryFrame m #[(.ref x0)] 8 = mkF m 0 #[.val (.ref x0), .unset, .unset, .unset, .unset, .unset, .unset, .unset] [] := by first | (simp [entryFrame, mkF, argsToLocals, Value.category]; done) | rfl
def QrmT2 (Z : State) (a1 : Addr) (q0 q1 : Int64) (h0 : Heap) (n0 : Nat) (v : Option Value) (h : Heap) (L : List Loc) : Prop := v = some (.double (FP.l2d (((0 : Int64) + q0) + q1))) ∧ Fr n0 L ∧ h = h0
set_option maxRecDepth 65536 in
set_option maxHeartbeats 40000000 in
theorem rmT2 (l : Launch) (Z : State) (a0 : Array Value) (hw : ∀ d ∈ tables_1, d.before a0 Z = true) (ws : List Jvm.Cond) (a1 : Addr) (q0 q1 : Int64) (h0 : Heap) (n0 : Nat) (Z0 : n0 ≤ h0.size) (Bq0 : BB 2147483648 q0) (Bq1 : BB 2147483648 q1) (A1 : AR Z h0 a1 .double 2 (fup (fup (fun _ => (.double (FP.l2d (0 : Int64)))) 0 (.double (FP.l2d q0))) 1 (.double (FP.l2d q1)))) :
    MetFree l (⟨"com/example/weir3/weir3/biology/BiomassMap", "total", "([D)D"⟩ : MethodName) (head1 (Jvm.Cond.code (⟨"com/example/weir3/weir3/biology/BiomassMap", "total", "([D)D"⟩ : MethodName) prog_1_method_9_code 8 (some .double) :: ws) ({ frames := 0, cells := 0, slots := 0, locals := 0 } : Room)) (fun a U => a = #[(.ref a1)] ∧ Z.Warmed39 U.vm ∧ U.heap = h0) (fun _ _ _ _ _ => True) (fun _ U o U' => ∃ v L, o = .returned v ∧ QrmT2 Z a1 q0 q1 h0 n0 v U'.heap L ∧ FrameEnd U o U' L ({ frames := 0, cells := 0, slots := 0, locals := 0 } : Room).cells ({ frames := 0, cells := 0, slots := 0, locals := 0 } : Room).slots) := by
  refine MetFree.of_bodySF (plainFor_of_name pn_com_example_weir3_weir3_biology_BiomassMap) hisR ?_
  intro p e s m args below meth c s₁ Bd hml0 hP hK
  obtain ⟨rfl, hZ, hh⟩ := hP
  have hx := Bd.exec
  have hby := Bd.bytes
  have hml : c.maxLocals = 8 := hml0
  have hown : s.vm.findClass "com/example/weir3/weir3/biology/BiomassMap" = some m.cls := findClass_of_methodNamed Bd.named
  have hnm := (name_of_methodNamed Bd.named Bd.method).1
  have X0 : Stand p l e ({ frames := 0, cells := 0, slots := 0, locals := 0 } : Room) s m #[(.ref a1)] below meth c s₁ [] 0 0 := Stand.of_body Bd
  have e0 : s₁.heap = h0 := by rw [← hh, Bd.state]; rfl
  have N0 := Fr.nil n0
  have pre0 : ∀ t, Steps p.tables e below (s₁.setTop (mkF m 0 #[.val (.ref a1), .unset, .unset, .unset, .unset, .unset, .unset, .unset] [])) t → Steps p.tables e below (s₁.setTop (entryFrame m #[(.ref a1)] 8)) t := fun t k => castTop (ef_rmT2 m a1) k
  obtain ⟨zr, hzr⟩ : ∃ z : UInt64, z = (FP.l2d (((0 : Int64) + q0) + q1)) := ⟨_, rfl⟩
  obtain ⟨fs, hr, hrun, hended, hW, hsame⟩ := X0.leave (v := some (.double zr)) (fun h => by rw [Bd.returns] at h; cases h)
  refine ⟨_, _, pre0 _ (?_), hrun, hended, _, _, rfl, ?_, ⟨_, rfl⟩, hW, hsame.mono (by decide) (by decide)⟩
  · show Steps p.tables e below (s₁.setTop (mkF m 0 #[.val (.ref a1), .unset, .unset, .unset, .unset, .unset, .unset, .unset] [])) _
    refine XS.dconst0 X0.here hx rfl (v := (FP.l2d (0 : Int64))) (hb hby d1_0) (by decide +kernel) ?_
    show Steps p.tables e below (s₁.setTop (mkF m 1 #[.val (.ref a1), .unset, .unset, .unset, .unset, .unset, .unset, .unset] [(.double (FP.l2d (0 : Int64)))])) _
    refine XS.dstoreN X0.here hx rfl (hb hby d1_1) rfl (l' := #[.val (.ref a1), .val (.double (FP.l2d (0 : Int64))), .second, .unset, .unset, .unset, .unset, .unset]) rfl ?_
    show Steps p.tables e below (s₁.setTop (mkF m 2 #[.val (.ref a1), .val (.double (FP.l2d (0 : Int64))), .second, .unset, .unset, .unset, .unset, .unset] [])) _
    refine XS.aloadN X0.here hx rfl (hb hby d1_2) rfl rfl ?_
    show Steps p.tables e below (s₁.setTop (mkF m 3 #[.val (.ref a1), .val (.double (FP.l2d (0 : Int64))), .second, .unset, .unset, .unset, .unset, .unset] [(.ref a1)])) _
    refine XS.astoreN X0.here hx rfl (hb hby d1_3) rfl rfl (l' := #[.val (.ref a1), .val (.double (FP.l2d (0 : Int64))), .second, .val (.ref a1), .unset, .unset, .unset, .unset]) rfl ?_
    show Steps p.tables e below (s₁.setTop (mkF m 4 #[.val (.ref a1), .val (.double (FP.l2d (0 : Int64))), .second, .val (.ref a1), .unset, .unset, .unset, .unset] [])) _
    refine XS.aloadN X0.here hx rfl (hb hby d1_4) rfl rfl ?_
    show Steps p.tables e below (s₁.setTop (mkF m 5 #[.val (.ref a1), .val (.double (FP.l2d (0 : Int64))), .second, .val (.ref a1), .unset, .unset, .unset, .unset] [(.ref a1)])) _
    refine own_len X0 hx hZ e0 A1 (z := (2 : Int32)) rfl (g := (mkF m 5 #[.val (.ref a1), .val (.double (FP.l2d (0 : Int64))), .second, .val (.ref a1), .unset, .unset, .unset, .unset] [(.ref a1)])) rfl rfl (hb hby d1_5) _ ?_
    show Steps p.tables e below (s₁.setTop (mkF m 6 #[.val (.ref a1), .val (.double (FP.l2d (0 : Int64))), .second, .val (.ref a1), .unset, .unset, .unset, .unset] [(.int (2 : Int32))])) _
    refine XS.istore X0.here hx rfl (hb hby d1_6) rfl (l' := #[.val (.ref a1), .val (.double (FP.l2d (0 : Int64))), .second, .val (.ref a1), .val (.int (2 : Int32)), .unset, .unset, .unset]) rfl ?_
    show Steps p.tables e below (s₁.setTop (mkF m 8 #[.val (.ref a1), .val (.double (FP.l2d (0 : Int64))), .second, .val (.ref a1), .val (.int (2 : Int32)), .unset, .unset, .unset] [])) _
    refine XS.iconst X0.here hx rfl (hb hby d1_8) ?_
    show Steps p.tables e below (s₁.setTop (mkF m 9 #[.val (.ref a1), .val (.double (FP.l2d (0 : Int64))), .second, .val (.ref a1), .val (.int (2 : Int32)), .unset, .unset, .unset] [(.int (0 : Int32))])) _
    refine XS.istore X0.here hx rfl (hb hby d1_9) rfl (l' := #[.val (.ref a1), .val (.double (FP.l2d (0 : Int64))), .second, .val (.ref a1), .val (.int (2 : Int32)), .val (.int (0 : Int32)), .unset, .unset]) rfl ?_
    show Steps p.tables e below (s₁.setTop (mkF m 11 #[.val (.ref a1), .val (.double (FP.l2d (0 : Int64))), .second, .val (.ref a1), .val (.int (2 : Int32)), .val (.int (0 : Int32)), .unset, .unset] [])) _
    refine XS.iload X0.here hx rfl (hb hby d1_11) rfl ?_
    show Steps p.tables e below (s₁.setTop (mkF m 13 #[.val (.ref a1), .val (.double (FP.l2d (0 : Int64))), .second, .val (.ref a1), .val (.int (2 : Int32)), .val (.int (0 : Int32)), .unset, .unset] [(.int (0 : Int32))])) _
    refine XS.iload X0.here hx rfl (hb hby d1_13) rfl ?_
    show Steps p.tables e below (s₁.setTop (mkF m 15 #[.val (.ref a1), .val (.double (FP.l2d (0 : Int64))), .second, .val (.ref a1), .val (.int (2 : Int32)), .val (.int (0 : Int32)), .unset, .unset] [(.int (2 : Int32)), (.int (0 : Int32))])) _
    refine XS.icmpNo X0.here hx rfl (hb hby d1_15) rfl (tlt (by decide : (0 : Int32) < (2 : Int32))).2.1 ?_
    show Steps p.tables e below (s₁.setTop (mkF m 18 #[.val (.ref a1), .val (.double (FP.l2d (0 : Int64))), .second, .val (.ref a1), .val (.int (2 : Int32)), .val (.int (0 : Int32)), .unset, .unset] [])) _
    refine XS.aloadN X0.here hx rfl (hb hby d1_18) rfl rfl ?_
    show Steps p.tables e below (s₁.setTop (mkF m 19 #[.val (.ref a1), .val (.double (FP.l2d (0 : Int64))), .second, .val (.ref a1), .val (.int (2 : Int32)), .val (.int (0 : Int32)), .unset, .unset] [(.ref a1)])) _
    refine XS.iload X0.here hx rfl (hb hby d1_19) rfl ?_
    show Steps p.tables e below (s₁.setTop (mkF m 21 #[.val (.ref a1), .val (.double (FP.l2d (0 : Int64))), .second, .val (.ref a1), .val (.int (2 : Int32)), .val (.int (0 : Int32)), .unset, .unset] [(.int (0 : Int32)), (.ref a1)])) _
    refine own_ldD X0 hx hZ e0 A1 (j := (0 : Int32)) (x := (FP.l2d q0)) (by decide) rfl (g := (mkF m 21 #[.val (.ref a1), .val (.double (FP.l2d (0 : Int64))), .second, .val (.ref a1), .val (.int (2 : Int32)), .val (.int (0 : Int32)), .unset, .unset] [(.int (0 : Int32)), (.ref a1)])) rfl rfl (hb hby d1_21) _ ?_
    show Steps p.tables e below (s₁.setTop (mkF m 22 #[.val (.ref a1), .val (.double (FP.l2d (0 : Int64))), .second, .val (.ref a1), .val (.int (2 : Int32)), .val (.int (0 : Int32)), .unset, .unset] [(.double (FP.l2d q0))])) _
    refine XS.dstore X0.here hx rfl (hb hby d1_22) rfl (l' := #[.val (.ref a1), .val (.double (FP.l2d (0 : Int64))), .second, .val (.ref a1), .val (.int (2 : Int32)), .val (.int (0 : Int32)), .val (.double (FP.l2d q0)), .second]) rfl ?_
    show Steps p.tables e below (s₁.setTop (mkF m 24 #[.val (.ref a1), .val (.double (FP.l2d (0 : Int64))), .second, .val (.ref a1), .val (.int (2 : Int32)), .val (.int (0 : Int32)), .val (.double (FP.l2d q0)), .second] [])) _
    refine XS.dloadN X0.here hx rfl (hb hby d1_24) rfl ?_
    show Steps p.tables e below (s₁.setTop (mkF m 25 #[.val (.ref a1), .val (.double (FP.l2d (0 : Int64))), .second, .val (.ref a1), .val (.int (2 : Int32)), .val (.int (0 : Int32)), .val (.double (FP.l2d q0)), .second] [(.double (FP.l2d (0 : Int64)))])) _
    refine XS.dload X0.here hx rfl (hb hby d1_25) rfl ?_
    show Steps p.tables e below (s₁.setTop (mkF m 27 #[.val (.ref a1), .val (.double (FP.l2d (0 : Int64))), .second, .val (.ref a1), .val (.int (2 : Int32)), .val (.int (0 : Int32)), .val (.double (FP.l2d q0)), .second] [(.double (FP.l2d q0)), (.double (FP.l2d (0 : Int64)))])) _
    refine XS.daddS X0.here hx rfl (v := (FP.l2d ((0 : Int64) + q0))) (hb hby d1_27) rfl (nn_w (dadd_w (own_b0.b53 (by decide)) (Bq0.b53 (by decide)))) (dadd_w (own_b0.b53 (by decide)) (Bq0.b53 (by decide))) ?_
    show Steps p.tables e below (s₁.setTop (mkF m 28 #[.val (.ref a1), .val (.double (FP.l2d (0 : Int64))), .second, .val (.ref a1), .val (.int (2 : Int32)), .val (.int (0 : Int32)), .val (.double (FP.l2d q0)), .second] [(.double (FP.l2d ((0 : Int64) + q0)))])) _
    refine XS.dstoreN X0.here hx rfl (hb hby d1_28) rfl (l' := #[.val (.ref a1), .val (.double (FP.l2d ((0 : Int64) + q0))), .second, .val (.ref a1), .val (.int (2 : Int32)), .val (.int (0 : Int32)), .val (.double (FP.l2d q0)), .second]) rfl ?_
    show Steps p.tables e below (s₁.setTop (mkF m 29 #[.val (.ref a1), .val (.double (FP.l2d ((0 : Int64) + q0))), .second, .val (.ref a1), .val (.int (2 : Int32)), .val (.int (0 : Int32)), .val (.double (FP.l2d q0)), .second] [])) _
    refine XS.iinc X0.here hx rfl (hb hby d1_29) rfl (l' := #[.val (.ref a1), .val (.double (FP.l2d ((0 : Int64) + q0))), .second, .val (.ref a1), .val (.int (2 : Int32)), .val (.int (1 : Int32)), .val (.double (FP.l2d q0)), .second]) rfl ?_
    show Steps p.tables e below (s₁.setTop (mkF m 32 #[.val (.ref a1), .val (.double (FP.l2d ((0 : Int64) + q0))), .second, .val (.ref a1), .val (.int (2 : Int32)), .val (.int (1 : Int32)), .val (.double (FP.l2d q0)), .second] [])) _
    refine XS.goto X0.here hx rfl (pc0 := 32) (pc' := 11) rfl (hb hby d1_32) (by decide) (by decide) ?_
    show Steps p.tables e below (s₁.setTop (mkF m 11 #[.val (.ref a1), .val (.double (FP.l2d ((0 : Int64) + q0))), .second, .val (.ref a1), .val (.int (2 : Int32)), .val (.int (1 : Int32)), .val (.double (FP.l2d q0)), .second] [])) _
    refine XS.iload X0.here hx rfl (hb hby d1_11) rfl ?_
    show Steps p.tables e below (s₁.setTop (mkF m 13 #[.val (.ref a1), .val (.double (FP.l2d ((0 : Int64) + q0))), .second, .val (.ref a1), .val (.int (2 : Int32)), .val (.int (1 : Int32)), .val (.double (FP.l2d q0)), .second] [(.int (1 : Int32))])) _
    refine XS.iload X0.here hx rfl (hb hby d1_13) rfl ?_
    show Steps p.tables e below (s₁.setTop (mkF m 15 #[.val (.ref a1), .val (.double (FP.l2d ((0 : Int64) + q0))), .second, .val (.ref a1), .val (.int (2 : Int32)), .val (.int (1 : Int32)), .val (.double (FP.l2d q0)), .second] [(.int (2 : Int32)), (.int (1 : Int32))])) _
    refine XS.icmpNo X0.here hx rfl (hb hby d1_15) rfl (tlt (by decide : (1 : Int32) < (2 : Int32))).2.1 ?_
    show Steps p.tables e below (s₁.setTop (mkF m 18 #[.val (.ref a1), .val (.double (FP.l2d ((0 : Int64) + q0))), .second, .val (.ref a1), .val (.int (2 : Int32)), .val (.int (1 : Int32)), .val (.double (FP.l2d q0)), .second] [])) _
    refine XS.aloadN X0.here hx rfl (hb hby d1_18) rfl rfl ?_
    show Steps p.tables e below (s₁.setTop (mkF m 19 #[.val (.ref a1), .val (.double (FP.l2d ((0 : Int64) + q0))), .second, .val (.ref a1), .val (.int (2 : Int32)), .val (.int (1 : Int32)), .val (.double (FP.l2d q0)), .second] [(.ref a1)])) _
    refine XS.iload X0.here hx rfl (hb hby d1_19) rfl ?_
    show Steps p.tables e below (s₁.setTop (mkF m 21 #[.val (.ref a1), .val (.double (FP.l2d ((0 : Int64) + q0))), .second, .val (.ref a1), .val (.int (2 : Int32)), .val (.int (1 : Int32)), .val (.double (FP.l2d q0)), .second] [(.int (1 : Int32)), (.ref a1)])) _
    refine own_ldD X0 hx hZ e0 A1 (j := (1 : Int32)) (x := (FP.l2d q1)) (by decide) rfl (g := (mkF m 21 #[.val (.ref a1), .val (.double (FP.l2d ((0 : Int64) + q0))), .second, .val (.ref a1), .val (.int (2 : Int32)), .val (.int (1 : Int32)), .val (.double (FP.l2d q0)), .second] [(.int (1 : Int32)), (.ref a1)])) rfl rfl (hb hby d1_21) _ ?_
    show Steps p.tables e below (s₁.setTop (mkF m 22 #[.val (.ref a1), .val (.double (FP.l2d ((0 : Int64) + q0))), .second, .val (.ref a1), .val (.int (2 : Int32)), .val (.int (1 : Int32)), .val (.double (FP.l2d q0)), .second] [(.double (FP.l2d q1))])) _
    refine XS.dstore X0.here hx rfl (hb hby d1_22) rfl (l' := #[.val (.ref a1), .val (.double (FP.l2d ((0 : Int64) + q0))), .second, .val (.ref a1), .val (.int (2 : Int32)), .val (.int (1 : Int32)), .val (.double (FP.l2d q1)), .second]) rfl ?_
    show Steps p.tables e below (s₁.setTop (mkF m 24 #[.val (.ref a1), .val (.double (FP.l2d ((0 : Int64) + q0))), .second, .val (.ref a1), .val (.int (2 : Int32)), .val (.int (1 : Int32)), .val (.double (FP.l2d q1)), .second] [])) _
    refine XS.dloadN X0.here hx rfl (hb hby d1_24) rfl ?_
    show Steps p.tables e below (s₁.setTop (mkF m 25 #[.val (.ref a1), .val (.double (FP.l2d ((0 : Int64) + q0))), .second, .val (.ref a1), .val (.int (2 : Int32)), .val (.int (1 : Int32)), .val (.double (FP.l2d q1)), .second] [(.double (FP.l2d ((0 : Int64) + q0)))])) _
    refine XS.dload X0.here hx rfl (hb hby d1_25) rfl ?_
    show Steps p.tables e below (s₁.setTop (mkF m 27 #[.val (.ref a1), .val (.double (FP.l2d ((0 : Int64) + q0))), .second, .val (.ref a1), .val (.int (2 : Int32)), .val (.int (1 : Int32)), .val (.double (FP.l2d q1)), .second] [(.double (FP.l2d q1)), (.double (FP.l2d ((0 : Int64) + q0)))])) _
    refine XS.daddS X0.here hx rfl (v := (FP.l2d (((0 : Int64) + q0) + q1))) (hb hby d1_27) rfl (nn_w (dadd_w ((own_b0.add Bq0 (by decide)).b53 (by decide)) (Bq1.b53 (by decide)))) (dadd_w ((own_b0.add Bq0 (by decide)).b53 (by decide)) (Bq1.b53 (by decide))) ?_
    show Steps p.tables e below (s₁.setTop (mkF m 28 #[.val (.ref a1), .val (.double (FP.l2d ((0 : Int64) + q0))), .second, .val (.ref a1), .val (.int (2 : Int32)), .val (.int (1 : Int32)), .val (.double (FP.l2d q1)), .second] [(.double (FP.l2d (((0 : Int64) + q0) + q1)))])) _
    refine XS.dstoreN X0.here hx rfl (hb hby d1_28) rfl (l' := #[.val (.ref a1), .val (.double (FP.l2d (((0 : Int64) + q0) + q1))), .second, .val (.ref a1), .val (.int (2 : Int32)), .val (.int (1 : Int32)), .val (.double (FP.l2d q1)), .second]) rfl ?_
    show Steps p.tables e below (s₁.setTop (mkF m 29 #[.val (.ref a1), .val (.double (FP.l2d (((0 : Int64) + q0) + q1))), .second, .val (.ref a1), .val (.int (2 : Int32)), .val (.int (1 : Int32)), .val (.double (FP.l2d q1)), .second] [])) _
    refine XS.iinc X0.here hx rfl (hb hby d1_29) rfl (l' := #[.val (.ref a1), .val (.double (FP.l2d (((0 : Int64) + q0) + q1))), .second, .val (.ref a1), .val (.int (2 : Int32)), .val (.int (2 : Int32)), .val (.double (FP.l2d q1)), .second]) rfl ?_
    show Steps p.tables e below (s₁.setTop (mkF m 32 #[.val (.ref a1), .val (.double (FP.l2d (((0 : Int64) + q0) + q1))), .second, .val (.ref a1), .val (.int (2 : Int32)), .val (.int (2 : Int32)), .val (.double (FP.l2d q1)), .second] [])) _
    refine XS.goto X0.here hx rfl (pc0 := 32) (pc' := 11) rfl (hb hby d1_32) (by decide) (by decide) ?_
    show Steps p.tables e below (s₁.setTop (mkF m 11 #[.val (.ref a1), .val (.double (FP.l2d (((0 : Int64) + q0) + q1))), .second, .val (.ref a1), .val (.int (2 : Int32)), .val (.int (2 : Int32)), .val (.double (FP.l2d q1)), .second] [])) _
    refine XS.iload X0.here hx rfl (hb hby d1_11) rfl ?_
    show Steps p.tables e below (s₁.setTop (mkF m 13 #[.val (.ref a1), .val (.double (FP.l2d (((0 : Int64) + q0) + q1))), .second, .val (.ref a1), .val (.int (2 : Int32)), .val (.int (2 : Int32)), .val (.double (FP.l2d q1)), .second] [(.int (2 : Int32))])) _
    refine XS.iload X0.here hx rfl (hb hby d1_13) rfl ?_
    show Steps p.tables e below (s₁.setTop (mkF m 15 #[.val (.ref a1), .val (.double (FP.l2d (((0 : Int64) + q0) + q1))), .second, .val (.ref a1), .val (.int (2 : Int32)), .val (.int (2 : Int32)), .val (.double (FP.l2d q1)), .second] [(.int (2 : Int32)), (.int (2 : Int32))])) _
    refine XS.icmpYes X0.here hx rfl (pc0 := 15) (pc' := 35) rfl (hb hby d1_15) rfl (flt (by decide : ¬ ((2 : Int32) < (2 : Int32)))).2.1 (by decide) (by decide) ?_
    show Steps p.tables e below (s₁.setTop (mkF m 35 #[.val (.ref a1), .val (.double (FP.l2d (((0 : Int64) + q0) + q1))), .second, .val (.ref a1), .val (.int (2 : Int32)), .val (.int (2 : Int32)), .val (.double (FP.l2d q1)), .second] [])) _
    refine XS.dloadN X0.here hx rfl (hb hby d1_35) rfl ?_
    show Steps p.tables e below (s₁.setTop (mkF m 36 #[.val (.ref a1), .val (.double (FP.l2d (((0 : Int64) + q0) + q1))), .second, .val (.ref a1), .val (.int (2 : Int32)), .val (.int (2 : Int32)), .val (.double (FP.l2d q1)), .second] [(.double (FP.l2d (((0 : Int64) + q0) + q1)))])) _
    rw [← hzr]
    jvm_step X0.here [X0.here.top, hx, (hb hby d1_36), X0.method', Bd.returns, narrow]
    first | (intro acts; rw [hr _ acts rfl rfl rfl]) | rw [hr _ _ rfl rfl rfl]
    exact Steps.refl _
  · show QrmT2 Z a1 q0 q1 h0 n0 _ s₁.heap _
    rw [e0]; subst hzr
    exact ⟨rfl, N0, rfl⟩
theorem ef_rmT3 (m : MethodId) (x0 : Addr) : entryFrame m #[(.ref x0)] 8 = mkF m 0 #[.val (.ref x0), .unset, .unset, .unset, .unset, .unset, .unset, .unset] [] := by first | (simp [entryFrame, mkF, argsToLocals, Value.category]; done) | rfl
def QrmT3 (Z : State) (a1 : Addr) (q0 q1 q2 : Int64) (h0 : Heap) (n0 : Nat) (v : Option Value) (h : Heap) (L : List Loc) : Prop := v = some (.double (FP.l2d ((((0 : Int64) + q0) + q1) + q2))) ∧ Fr n0 L ∧ h = h0
set_option maxRecDepth 65536 in
set_option maxHeartbeats 40000000 in
theorem rmT3 (l : Launch) (Z : State) (a0 : Array Value) (hw : ∀ d ∈ tables_1, d.before a0 Z = true) (ws : List Jvm.Cond) (a1 : Addr) (q0 q1 q2 : Int64) (h0 : Heap) (n0 : Nat) (Z0 : n0 ≤ h0.size) (Bq0 : BB 2147483648 q0) (Bq1 : BB 2147483648 q1) (Bq2 : BB 2147483648 q2) (A1 : AR Z h0 a1 .double 3 (fup (fup (fup (fun _ => (.double (FP.l2d (0 : Int64)))) 0 (.double (FP.l2d q0))) 1 (.double (FP.l2d q1))) 2 (.double (FP.l2d q2)))) :
    MetFree l (⟨"com/example/weir3/weir3/biology/BiomassMap", "total", "([D)D"⟩ : MethodName) (head1 (Jvm.Cond.code (⟨"com/example/weir3/weir3/biology/BiomassMap", "total", "([D)D"⟩ : MethodName) prog_1_method_9_code 8 (some .double) :: ws) ({ frames := 0, cells := 0, slots := 0, locals := 0 } : Room)) (fun a U => a = #[(.ref a1)] ∧ Z.Warmed39 U.vm ∧ U.heap = h0) (fun _ _ _ _ _ => True) (fun _ U o U' => ∃ v L, o = .returned v ∧ QrmT3 Z a1 q0 q1 q2 h0 n0 v U'.heap L ∧ FrameEnd U o U' L ({ frames := 0, cells := 0, slots := 0, locals := 0 } : Room).cells ({ frames := 0, cells := 0, slots := 0, locals := 0 } : Room).slots) := by
  refine MetFree.of_bodySF (plainFor_of_name pn_com_example_weir3_weir3_biology_BiomassMap) hisR ?_
  intro p e s m args below meth c s₁ Bd hml0 hP hK
  obtain ⟨rfl, hZ, hh⟩ := hP
  have hx := Bd.exec
  have hby := Bd.bytes
  have hml : c.maxLocals = 8 := hml0
  have hown : s.vm.findClass "com/example/weir3/weir3/biology/BiomassMap" = some m.cls := findClass_of_methodNamed Bd.named
  have hnm := (name_of_methodNamed Bd.named Bd.method).1
  have X0 : Stand p l e ({ frames := 0, cells := 0, slots := 0, locals := 0 } : Room) s m #[(.ref a1)] below meth c s₁ [] 0 0 := Stand.of_body Bd
  have e0 : s₁.heap = h0 := by rw [← hh, Bd.state]; rfl
  have N0 := Fr.nil n0
  have pre0 : ∀ t, Steps p.tables e below (s₁.setTop (mkF m 0 #[.val (.ref a1), .unset, .unset, .unset, .unset, .unset, .unset, .unset] [])) t → Steps p.tables e below (s₁.setTop (entryFrame m #[(.ref a1)] 8)) t := fun t k => castTop (ef_rmT3 m a1) k
  obtain ⟨zr, hzr⟩ : ∃ z : UInt64, z = (FP.l2d ((((0 : Int64) + q0) + q1) + q2)) := ⟨_, rfl⟩
  obtain ⟨fs, hr, hrun, hended, hW, hsame⟩ := X0.leave (v := some (.double zr)) (fun h => by rw [Bd.returns] at h; cases h)
  refine ⟨_, _, pre0 _ (?_), hrun, hended, _, _, rfl, ?_, ⟨_, rfl⟩, hW, hsame.mono (by decide) (by decide)⟩
  · show Steps p.tables e below (s₁.setTop (mkF m 0 #[.val (.ref a1), .unset, .unset, .unset, .unset, .unset, .unset, .unset] [])) _
    refine XS.dconst0 X0.here hx rfl (v := (FP.l2d (0 : Int64))) (hb hby d1_0) (by decide +kernel) ?_
    show Steps p.tables e below (s₁.setTop (mkF m 1 #[.val (.ref a1), .unset, .unset, .unset, .unset, .unset, .unset, .unset] [(.double (FP.l2d (0 : Int64)))])) _
    refine XS.dstoreN X0.here hx rfl (hb hby d1_1) rfl (l' := #[.val (.ref a1), .val (.double (FP.l2d (0 : Int64))), .second, .unset, .unset, .unset, .unset, .unset]) rfl ?_
    show Steps p.tables e below (s₁.setTop (mkF m 2 #[.val (.ref a1), .val (.double (FP.l2d (0 : Int64))), .second, .unset, .unset, .unset, .unset, .unset] [])) _
    refine XS.aloadN X0.here hx rfl (hb hby d1_2) rfl rfl ?_
    show Steps p.tables e below (s₁.setTop (mkF m 3 #[.val (.ref a1), .val (.double (FP.l2d (0 : Int64))), .second, .unset, .unset, .unset, .unset, .unset] [(.ref a1)])) _
    refine XS.astoreN X0.here hx rfl (hb hby d1_3) rfl rfl (l' := #[.val (.ref a1), .val (.double (FP.l2d (0 : Int64))), .second, .val (.ref a1), .unset, .unset, .unset, .unset]) rfl ?_
    show Steps p.tables e below (s₁.setTop (mkF m 4 #[.val (.ref a1), .val (.double (FP.l2d (0 : Int64))), .second, .val (.ref a1), .unset, .unset, .unset, .unset] [])) _
    refine XS.aloadN X0.here hx rfl (hb hby d1_4) rfl rfl ?_
    show Steps p.tables e below (s₁.setTop (mkF m 5 #[.val (.ref a1), .val (.double (FP.l2d (0 : Int64))), .second, .val (.ref a1), .unset, .unset, .unset, .unset] [(.ref a1)])) _
    refine own_len X0 hx hZ e0 A1 (z := (3 : Int32)) rfl (g := (mkF m 5 #[.val (.ref a1), .val (.double (FP.l2d (0 : Int64))), .second, .val (.ref a1), .unset, .unset, .unset, .unset] [(.ref a1)])) rfl rfl (hb hby d1_5) _ ?_
    show Steps p.tables e below (s₁.setTop (mkF m 6 #[.val (.ref a1), .val (.double (FP.l2d (0 : Int64))), .second, .val (.ref a1), .unset, .unset, .unset, .unset] [(.int (3 : Int32))])) _
    refine XS.istore X0.here hx rfl (hb hby d1_6) rfl (l' := #[.val (.ref a1), .val (.double (FP.l2d (0 : Int64))), .second, .val (.ref a1), .val (.int (3 : Int32)), .unset, .unset, .unset]) rfl ?_
    show Steps p.tables e below (s₁.setTop (mkF m 8 #[.val (.ref a1), .val (.double (FP.l2d (0 : Int64))), .second, .val (.ref a1), .val (.int (3 : Int32)), .unset, .unset, .unset] [])) _
    refine XS.iconst X0.here hx rfl (hb hby d1_8) ?_
    show Steps p.tables e below (s₁.setTop (mkF m 9 #[.val (.ref a1), .val (.double (FP.l2d (0 : Int64))), .second, .val (.ref a1), .val (.int (3 : Int32)), .unset, .unset, .unset] [(.int (0 : Int32))])) _
    refine XS.istore X0.here hx rfl (hb hby d1_9) rfl (l' := #[.val (.ref a1), .val (.double (FP.l2d (0 : Int64))), .second, .val (.ref a1), .val (.int (3 : Int32)), .val (.int (0 : Int32)), .unset, .unset]) rfl ?_
    show Steps p.tables e below (s₁.setTop (mkF m 11 #[.val (.ref a1), .val (.double (FP.l2d (0 : Int64))), .second, .val (.ref a1), .val (.int (3 : Int32)), .val (.int (0 : Int32)), .unset, .unset] [])) _
    refine XS.iload X0.here hx rfl (hb hby d1_11) rfl ?_
    show Steps p.tables e below (s₁.setTop (mkF m 13 #[.val (.ref a1), .val (.double (FP.l2d (0 : Int64))), .second, .val (.ref a1), .val (.int (3 : Int32)), .val (.int (0 : Int32)), .unset, .unset] [(.int (0 : Int32))])) _
    refine XS.iload X0.here hx rfl (hb hby d1_13) rfl ?_
    show Steps p.tables e below (s₁.setTop (mkF m 15 #[.val (.ref a1), .val (.double (FP.l2d (0 : Int64))), .second, .val (.ref a1), .val (.int (3 : Int32)), .val (.int (0 : Int32)), .unset, .unset] [(.int (3 : Int32)), (.int (0 : Int32))])) _
    refine XS.icmpNo X0.here hx rfl (hb hby d1_15) rfl (tlt (by decide : (0 : Int32) < (3 : Int32))).2.1 ?_
    show Steps p.tables e below (s₁.setTop (mkF m 18 #[.val (.ref a1), .val (.double (FP.l2d (0 : Int64))), .second, .val (.ref a1), .val (.int (3 : Int32)), .val (.int (0 : Int32)), .unset, .unset] [])) _
    refine XS.aloadN X0.here hx rfl (hb hby d1_18) rfl rfl ?_
    show Steps p.tables e below (s₁.setTop (mkF m 19 #[.val (.ref a1), .val (.double (FP.l2d (0 : Int64))), .second, .val (.ref a1), .val (.int (3 : Int32)), .val (.int (0 : Int32)), .unset, .unset] [(.ref a1)])) _
    refine XS.iload X0.here hx rfl (hb hby d1_19) rfl ?_
    show Steps p.tables e below (s₁.setTop (mkF m 21 #[.val (.ref a1), .val (.double (FP.l2d (0 : Int64))), .second, .val (.ref a1), .val (.int (3 : Int32)), .val (.int (0 : Int32)), .unset, .unset] [(.int (0 : Int32)), (.ref a1)])) _
    refine own_ldD X0 hx hZ e0 A1 (j := (0 : Int32)) (x := (FP.l2d q0)) (by decide) rfl (g := (mkF m 21 #[.val (.ref a1), .val (.double (FP.l2d (0 : Int64))), .second, .val (.ref a1), .val (.int (3 : Int32)), .val (.int (0 : Int32)), .unset, .unset] [(.int (0 : Int32)), (.ref a1)])) rfl rfl (hb hby d1_21) _ ?_
    show Steps p.tables e below (s₁.setTop (mkF m 22 #[.val (.ref a1), .val (.double (FP.l2d (0 : Int64))), .second, .val (.ref a1), .val (.int (3 : Int32)), .val (.int (0 : Int32)), .unset, .unset] [(.double (FP.l2d q0))])) _
    refine XS.dstore X0.here hx rfl (hb hby d1_22) rfl (l' := #[.val (.ref a1), .val (.double (FP.l2d (0 : Int64))), .second, .val (.ref a1), .val (.int (3 : Int32)), .val (.int (0 : Int32)), .val (.double (FP.l2d q0)), .second]) rfl ?_
    show Steps p.tables e below (s₁.setTop (mkF m 24 #[.val (.ref a1), .val (.double (FP.l2d (0 : Int64))), .second, .val (.ref a1), .val (.int (3 : Int32)), .val (.int (0 : Int32)), .val (.double (FP.l2d q0)), .second] [])) _
    refine XS.dloadN X0.here hx rfl (hb hby d1_24) rfl ?_
    show Steps p.tables e below (s₁.setTop (mkF m 25 #[.val (.ref a1), .val (.double (FP.l2d (0 : Int64))), .second, .val (.ref a1), .val (.int (3 : Int32)), .val (.int (0 : Int32)), .val (.double (FP.l2d q0)), .second] [(.double (FP.l2d (0 : Int64)))])) _
    refine XS.dload X0.here hx rfl (hb hby d1_25) rfl ?_
    show Steps p.tables e below (s₁.setTop (mkF m 27 #[.val (.ref a1), .val (.double (FP.l2d (0 : Int64))), .second, .val (.ref a1), .val (.int (3 : Int32)), .val (.int (0 : Int32)), .val (.double (FP.l2d q0)), .second] [(.double (FP.l2d q0)), (.double (FP.l2d (0 : Int64)))])) _
    refine XS.daddS X0.here hx rfl (v := (FP.l2d ((0 : Int64) + q0))) (hb hby d1_27) rfl (nn_w (dadd_w (own_b0.b53 (by decide)) (Bq0.b53 (by decide)))) (dadd_w (own_b0.b53 (by decide)) (Bq0.b53 (by decide))) ?_
    show Steps p.tables e below (s₁.setTop (mkF m 28 #[.val (.ref a1), .val (.double (FP.l2d (0 : Int64))), .second, .val (.ref a1), .val (.int (3 : Int32)), .val (.int (0 : Int32)), .val (.double (FP.l2d q0)), .second] [(.double (FP.l2d ((0 : Int64) + q0)))])) _
    refine XS.dstoreN X0.here hx rfl (hb hby d1_28) rfl (l' := #[.val (.ref a1), .val (.double (FP.l2d ((0 : Int64) + q0))), .second, .val (.ref a1), .val (.int (3 : Int32)), .val (.int (0 : Int32)), .val (.double (FP.l2d q0)), .second]) rfl ?_
    show Steps p.tables e below (s₁.setTop (mkF m 29 #[.val (.ref a1), .val (.double (FP.l2d ((0 : Int64) + q0))), .second, .val (.ref a1), .val (.int (3 : Int32)), .val (.int (0 : Int32)), .val (.double (FP.l2d q0)), .second] [])) _
    refine XS.iinc X0.here hx rfl (hb hby d1_29) rfl (l' := #[.val (.ref a1), .val (.double (FP.l2d ((0 : Int64) + q0))), .second, .val (.ref a1), .val (.int (3 : Int32)), .val (.int (1 : Int32)), .val (.double (FP.l2d q0)), .second]) rfl ?_
    show Steps p.tables e below (s₁.setTop (mkF m 32 #[.val (.ref a1), .val (.double (FP.l2d ((0 : Int64) + q0))), .second, .val (.ref a1), .val (.int (3 : Int32)), .val (.int (1 : Int32)), .val (.double (FP.l2d q0)), .second] [])) _
    refine XS.goto X0.here hx rfl (pc0 := 32) (pc' := 11) rfl (hb hby d1_32) (by decide) (by decide) ?_
    show Steps p.tables e below (s₁.setTop (mkF m 11 #[.val (.ref a1), .val (.double (FP.l2d ((0 : Int64) + q0))), .second, .val (.ref a1), .val (.int (3 : Int32)), .val (.int (1 : Int32)), .val (.double (FP.l2d q0)), .second] [])) _
    refine XS.iload X0.here hx rfl (hb hby d1_11) rfl ?_
    show Steps p.tables e below (s₁.setTop (mkF m 13 #[.val (.ref a1), .val (.double (FP.l2d ((0 : Int64) + q0))), .second, .val (.ref a1), .val (.int (3 : Int32)), .val (.int (1 : Int32)), .val (.double (FP.l2d q0)), .second] [(.int (1 : Int32))])) _
    refine XS.iload X0.here hx rfl (hb hby d1_13) rfl ?_
    show Steps p.tables e below (s₁.setTop (mkF m 15 #[.val (.ref a1), .val (.double (FP.l2d ((0 : Int64) + q0))), .second, .val (.ref a1), .val (.int (3 : Int32)), .val (.int (1 : Int32)), .val (.double (FP.l2d q0)), .second] [(.int (3 : Int32)), (.int (1 : Int32))])) _
    refine XS.icmpNo X0.here hx rfl (hb hby d1_15) rfl (tlt (by decide : (1 : Int32) < (3 : Int32))).2.1 ?_
    show Steps p.tables e below (s₁.setTop (mkF m 18 #[.val (.ref a1), .val (.double (FP.l2d ((0 : Int64) + q0))), .second, .val (.ref a1), .val (.int (3 : Int32)), .val (.int (1 : Int32)), .val (.double (FP.l2d q0)), .second] [])) _
    refine XS.aloadN X0.here hx rfl (hb hby d1_18) rfl rfl ?_
    show Steps p.tables e below (s₁.setTop (mkF m 19 #[.val (.ref a1), .val (.double (FP.l2d ((0 : Int64) + q0))), .second, .val (.ref a1), .val (.int (3 : Int32)), .val (.int (1 : Int32)), .val (.double (FP.l2d q0)), .second] [(.ref a1)])) _
    refine XS.iload X0.here hx rfl (hb hby d1_19) rfl ?_
    show Steps p.tables e below (s₁.setTop (mkF m 21 #[.val (.ref a1), .val (.double (FP.l2d ((0 : Int64) + q0))), .second, .val (.ref a1), .val (.int (3 : Int32)), .val (.int (1 : Int32)), .val (.double (FP.l2d q0)), .second] [(.int (1 : Int32)), (.ref a1)])) _
    refine own_ldD X0 hx hZ e0 A1 (j := (1 : Int32)) (x := (FP.l2d q1)) (by decide) rfl (g := (mkF m 21 #[.val (.ref a1), .val (.double (FP.l2d ((0 : Int64) + q0))), .second, .val (.ref a1), .val (.int (3 : Int32)), .val (.int (1 : Int32)), .val (.double (FP.l2d q0)), .second] [(.int (1 : Int32)), (.ref a1)])) rfl rfl (hb hby d1_21) _ ?_
    show Steps p.tables e below (s₁.setTop (mkF m 22 #[.val (.ref a1), .val (.double (FP.l2d ((0 : Int64) + q0))), .second, .val (.ref a1), .val (.int (3 : Int32)), .val (.int (1 : Int32)), .val (.double (FP.l2d q0)), .second] [(.double (FP.l2d q1))])) _
    refine XS.dstore X0.here hx rfl (hb hby d1_22) rfl (l' := #[.val (.ref a1), .val (.double (FP.l2d ((0 : Int64) + q0))), .second, .val (.ref a1), .val (.int (3 : Int32)), .val (.int (1 : Int32)), .val (.double (FP.l2d q1)), .second]) rfl ?_
    show Steps p.tables e below (s₁.setTop (mkF m 24 #[.val (.ref a1), .val (.double (FP.l2d ((0 : Int64) + q0))), .second, .val (.ref a1), .val (.int (3 : Int32)), .val (.int (1 : Int32)), .val (.double (FP.l2d q1)), .second] [])) _
    refine XS.dloadN X0.here hx rfl (hb hby d1_24) rfl ?_
    show Steps p.tables e below (s₁.setTop (mkF m 25 #[.val (.ref a1), .val (.double (FP.l2d ((0 : Int64) + q0))), .second, .val (.ref a1), .val (.int (3 : Int32)), .val (.int (1 : Int32)), .val (.double (FP.l2d q1)), .second] [(.double (FP.l2d ((0 : Int64) + q0)))])) _
    refine XS.dload X0.here hx rfl (hb hby d1_25) rfl ?_
    show Steps p.tables e below (s₁.setTop (mkF m 27 #[.val (.ref a1), .val (.double (FP.l2d ((0 : Int64) + q0))), .second, .val (.ref a1), .val (.int (3 : Int32)), .val (.int (1 : Int32)), .val (.double (FP.l2d q1)), .second] [(.double (FP.l2d q1)), (.double (FP.l2d ((0 : Int64) + q0)))])) _
    refine XS.daddS X0.here hx rfl (v := (FP.l2d (((0 : Int64) + q0) + q1))) (hb hby d1_27) rfl (nn_w (dadd_w ((own_b0.add Bq0 (by decide)).b53 (by decide)) (Bq1.b53 (by decide)))) (dadd_w ((own_b0.add Bq0 (by decide)).b53 (by decide)) (Bq1.b53 (by decide))) ?_
    show Steps p.tables e below (s₁.setTop (mkF m 28 #[.val (.ref a1), .val (.double (FP.l2d ((0 : Int64) + q0))), .second, .val (.ref a1), .val (.int (3 : Int32)), .val (.int (1 : Int32)), .val (.double (FP.l2d q1)), .second] [(.double (FP.l2d (((0 : Int64) + q0) + q1)))])) _
    refine XS.dstoreN X0.here hx rfl (hb hby d1_28) rfl (l' := #[.val (.ref a1), .val (.double (FP.l2d (((0 : Int64) + q0) + q1))), .second, .val (.ref a1), .val (.int (3 : Int32)), .val (.int (1 : Int32)), .val (.double (FP.l2d q1)), .second]) rfl ?_
    show Steps p.tables e below (s₁.setTop (mkF m 29 #[.val (.ref a1), .val (.double (FP.l2d (((0 : Int64) + q0) + q1))), .second, .val (.ref a1), .val (.int (3 : Int32)), .val (.int (1 : Int32)), .val (.double (FP.l2d q1)), .second] [])) _
    refine XS.iinc X0.here hx rfl (hb hby d1_29) rfl (l' := #[.val (.ref a1), .val (.double (FP.l2d (((0 : Int64) + q0) + q1))), .second, .val (.ref a1), .val (.int (3 : Int32)), .val (.int (2 : Int32)), .val (.double (FP.l2d q1)), .second]) rfl ?_
    show Steps p.tables e below (s₁.setTop (mkF m 32 #[.val (.ref a1), .val (.double (FP.l2d (((0 : Int64) + q0) + q1))), .second, .val (.ref a1), .val (.int (3 : Int32)), .val (.int (2 : Int32)), .val (.double (FP.l2d q1)), .second] [])) _
    refine XS.goto X0.here hx rfl (pc0 := 32) (pc' := 11) rfl (hb hby d1_32) (by decide) (by decide) ?_
    show Steps p.tables e below (s₁.setTop (mkF m 11 #[.val (.ref a1), .val (.double (FP.l2d (((0 : Int64) + q0) + q1))), .second, .val (.ref a1), .val (.int (3 : Int32)), .val (.int (2 : Int32)), .val (.double (FP.l2d q1)), .second] [])) _
    refine XS.iload X0.here hx rfl (hb hby d1_11) rfl ?_
    show Steps p.tables e below (s₁.setTop (mkF m 13 #[.val (.ref a1), .val (.double (FP.l2d (((0 : Int64) + q0) + q1))), .second, .val (.ref a1), .val (.int (3 : Int32)), .val (.int (2 : Int32)), .val (.double (FP.l2d q1)), .second] [(.int (2 : Int32))])) _
    refine XS.iload X0.here hx rfl (hb hby d1_13) rfl ?_
    show Steps p.tables e below (s₁.setTop (mkF m 15 #[.val (.ref a1), .val (.double (FP.l2d (((0 : Int64) + q0) + q1))), .second, .val (.ref a1), .val (.int (3 : Int32)), .val (.int (2 : Int32)), .val (.double (FP.l2d q1)), .second] [(.int (3 : Int32)), (.int (2 : Int32))])) _
    refine XS.icmpNo X0.here hx rfl (hb hby d1_15) rfl (tlt (by decide : (2 : Int32) < (3 : Int32))).2.1 ?_
    show Steps p.tables e below (s₁.setTop (mkF m 18 #[.val (.ref a1), .val (.double (FP.l2d (((0 : Int64) + q0) + q1))), .second, .val (.ref a1), .val (.int (3 : Int32)), .val (.int (2 : Int32)), .val (.double (FP.l2d q1)), .second] [])) _
    refine XS.aloadN X0.here hx rfl (hb hby d1_18) rfl rfl ?_
    show Steps p.tables e below (s₁.setTop (mkF m 19 #[.val (.ref a1), .val (.double (FP.l2d (((0 : Int64) + q0) + q1))), .second, .val (.ref a1), .val (.int (3 : Int32)), .val (.int (2 : Int32)), .val (.double (FP.l2d q1)), .second] [(.ref a1)])) _
    refine XS.iload X0.here hx rfl (hb hby d1_19) rfl ?_
    show Steps p.tables e below (s₁.setTop (mkF m 21 #[.val (.ref a1), .val (.double (FP.l2d (((0 : Int64) + q0) + q1))), .second, .val (.ref a1), .val (.int (3 : Int32)), .val (.int (2 : Int32)), .val (.double (FP.l2d q1)), .second] [(.int (2 : Int32)), (.ref a1)])) _
    refine own_ldD X0 hx hZ e0 A1 (j := (2 : Int32)) (x := (FP.l2d q2)) (by decide) rfl (g := (mkF m 21 #[.val (.ref a1), .val (.double (FP.l2d (((0 : Int64) + q0) + q1))), .second, .val (.ref a1), .val (.int (3 : Int32)), .val (.int (2 : Int32)), .val (.double (FP.l2d q1)), .second] [(.int (2 : Int32)), (.ref a1)])) rfl rfl (hb hby d1_21) _ ?_
    show Steps p.tables e below (s₁.setTop (mkF m 22 #[.val (.ref a1), .val (.double (FP.l2d (((0 : Int64) + q0) + q1))), .second, .val (.ref a1), .val (.int (3 : Int32)), .val (.int (2 : Int32)), .val (.double (FP.l2d q1)), .second] [(.double (FP.l2d q2))])) _
    refine XS.dstore X0.here hx rfl (hb hby d1_22) rfl (l' := #[.val (.ref a1), .val (.double (FP.l2d (((0 : Int64) + q0) + q1))), .second, .val (.ref a1), .val (.int (3 : Int32)), .val (.int (2 : Int32)), .val (.double (FP.l2d q2)), .second]) rfl ?_
    show Steps p.tables e below (s₁.setTop (mkF m 24 #[.val (.ref a1), .val (.double (FP.l2d (((0 : Int64) + q0) + q1))), .second, .val (.ref a1), .val (.int (3 : Int32)), .val (.int (2 : Int32)), .val (.double (FP.l2d q2)), .second] [])) _
    refine XS.dloadN X0.here hx rfl (hb hby d1_24) rfl ?_
    show Steps p.tables e below (s₁.setTop (mkF m 25 #[.val (.ref a1), .val (.double (FP.l2d (((0 : Int64) + q0) + q1))), .second, .val (.ref a1), .val (.int (3 : Int32)), .val (.int (2 : Int32)), .val (.double (FP.l2d q2)), .second] [(.double (FP.l2d (((0 : Int64) + q0) + q1)))])) _
    refine XS.dload X0.here hx rfl (hb hby d1_25) rfl ?_
    show Steps p.tables e below (s₁.setTop (mkF m 27 #[.val (.ref a1), .val (.double (FP.l2d (((0 : Int64) + q0) + q1))), .second, .val (.ref a1), .val (.int (3 : Int32)), .val (.int (2 : Int32)), .val (.double (FP.l2d q2)), .second] [(.double (FP.l2d q2)), (.double (FP.l2d (((0 : Int64) + q0) + q1)))])) _
    refine XS.daddS X0.here hx rfl (v := (FP.l2d ((((0 : Int64) + q0) + q1) + q2))) (hb hby d1_27) rfl (nn_w (dadd_w (((own_b0.add Bq0 (by decide)).add Bq1 (by decide)).b53 (by decide)) (Bq2.b53 (by decide)))) (dadd_w (((own_b0.add Bq0 (by decide)).add Bq1 (by decide)).b53 (by decide)) (Bq2.b53 (by decide))) ?_
    show Steps p.tables e below (s₁.setTop (mkF m 28 #[.val (.ref a1), .val (.double (FP.l2d (((0 : Int64) + q0) + q1))), .second, .val (.ref a1), .val (.int (3 : Int32)), .val (.int (2 : Int32)), .val (.double (FP.l2d q2)), .second] [(.double (FP.l2d ((((0 : Int64) + q0) + q1) + q2)))])) _
    refine XS.dstoreN X0.here hx rfl (hb hby d1_28) rfl (l' := #[.val (.ref a1), .val (.double (FP.l2d ((((0 : Int64) + q0) + q1) + q2))), .second, .val (.ref a1), .val (.int (3 : Int32)), .val (.int (2 : Int32)), .val (.double (FP.l2d q2)), .second]) rfl ?_
    show Steps p.tables e below (s₁.setTop (mkF m 29 #[.val (.ref a1), .val (.double (FP.l2d ((((0 : Int64) + q0) + q1) + q2))), .second, .val (.ref a1), .val (.int (3 : Int32)), .val (.int (2 : Int32)), .val (.double (FP.l2d q2)), .second] [])) _
    refine XS.iinc X0.here hx rfl (hb hby d1_29) rfl (l' := #[.val (.ref a1), .val (.double (FP.l2d ((((0 : Int64) + q0) + q1) + q2))), .second, .val (.ref a1), .val (.int (3 : Int32)), .val (.int (3 : Int32)), .val (.double (FP.l2d q2)), .second]) rfl ?_
    show Steps p.tables e below (s₁.setTop (mkF m 32 #[.val (.ref a1), .val (.double (FP.l2d ((((0 : Int64) + q0) + q1) + q2))), .second, .val (.ref a1), .val (.int (3 : Int32)), .val (.int (3 : Int32)), .val (.double (FP.l2d q2)), .second] [])) _
    refine XS.goto X0.here hx rfl (pc0 := 32) (pc' := 11) rfl (hb hby d1_32) (by decide) (by decide) ?_
    show Steps p.tables e below (s₁.setTop (mkF m 11 #[.val (.ref a1), .val (.double (FP.l2d ((((0 : Int64) + q0) + q1) + q2))), .second, .val (.ref a1), .val (.int (3 : Int32)), .val (.int (3 : Int32)), .val (.double (FP.l2d q2)), .second] [])) _
    refine XS.iload X0.here hx rfl (hb hby d1_11) rfl ?_
    show Steps p.tables e below (s₁.setTop (mkF m 13 #[.val (.ref a1), .val (.double (FP.l2d ((((0 : Int64) + q0) + q1) + q2))), .second, .val (.ref a1), .val (.int (3 : Int32)), .val (.int (3 : Int32)), .val (.double (FP.l2d q2)), .second] [(.int (3 : Int32))])) _
    refine XS.iload X0.here hx rfl (hb hby d1_13) rfl ?_
    show Steps p.tables e below (s₁.setTop (mkF m 15 #[.val (.ref a1), .val (.double (FP.l2d ((((0 : Int64) + q0) + q1) + q2))), .second, .val (.ref a1), .val (.int (3 : Int32)), .val (.int (3 : Int32)), .val (.double (FP.l2d q2)), .second] [(.int (3 : Int32)), (.int (3 : Int32))])) _
    refine XS.icmpYes X0.here hx rfl (pc0 := 15) (pc' := 35) rfl (hb hby d1_15) rfl (flt (by decide : ¬ ((3 : Int32) < (3 : Int32)))).2.1 (by decide) (by decide) ?_
    show Steps p.tables e below (s₁.setTop (mkF m 35 #[.val (.ref a1), .val (.double (FP.l2d ((((0 : Int64) + q0) + q1) + q2))), .second, .val (.ref a1), .val (.int (3 : Int32)), .val (.int (3 : Int32)), .val (.double (FP.l2d q2)), .second] [])) _
    refine XS.dloadN X0.here hx rfl (hb hby d1_35) rfl ?_
    show Steps p.tables e below (s₁.setTop (mkF m 36 #[.val (.ref a1), .val (.double (FP.l2d ((((0 : Int64) + q0) + q1) + q2))), .second, .val (.ref a1), .val (.int (3 : Int32)), .val (.int (3 : Int32)), .val (.double (FP.l2d q2)), .second] [(.double (FP.l2d ((((0 : Int64) + q0) + q1) + q2)))])) _
    rw [← hzr]
    jvm_step X0.here [X0.here.top, hx, (hb hby d1_36), X0.method', Bd.returns, narrow]
    first | (intro acts; rw [hr _ acts rfl rfl rfl]) | rw [hr _ _ rfl rfl rfl]
    exact Steps.refl _
  · show QrmT3 Z a1 q0 q1 q2 h0 n0 _ s₁.heap _
    rw [e0]; subst hzr
    exact ⟨rfl, N0, rfl⟩
theorem ef_rmT4 (m : MethodId) (x0 : Addr) : entryFrame m #[(.ref x0)] 8 = mkF m 0 #[.val (.ref x0), .unset, .unset, .unset, .unset, .unset, .unset, .unset] [] := by first | (simp [entryFrame, mkF, argsToLocals, Value.category]; done) | rfl
def QrmT4 (Z : State) (a1 : Addr) (q0 q1 q2 q3 : Int64) (h0 : Heap) (n0 : Nat) (v : Option Value) (h : Heap) (L : List Loc) : Prop := v = some (.double (FP.l2d (((((0 : Int64) + q0) + q1) + q2) + q3))) ∧ Fr n0 L ∧ h = h0
set_option maxRecDepth 65536 in
set_option maxHeartbeats 40000000 in
theorem rmT4 (l : Launch) (Z : State) (a0 : Array Value) (hw : ∀ d ∈ tables_1, d.before a0 Z = true) (ws : List Jvm.Cond) (a1 : Addr) (q0 q1 q2 q3 : Int64) (h0 : Heap) (n0 : Nat) (Z0 : n0 ≤ h0.size) (Bq0 : BB 2147483648 q0) (Bq1 : BB 2147483648 q1) (Bq2 : BB 2147483648 q2) (Bq3 : BB 2147483648 q3) (A1 : AR Z h0 a1 .double 4 (fup (fup (fup (fup (fun _ => (.double (FP.l2d (0 : Int64)))) 0 (.double (FP.l2d q0))) 1 (.double (FP.l2d q1))) 2 (.double (FP.l2d q2))) 3 (.double (FP.l2d q3)))) :
    MetFree l (⟨"com/example/weir3/weir3/biology/BiomassMap", "total", "([D)D"⟩ : MethodName) (head1 (Jvm.Cond.code (⟨"com/example/weir3/weir3/biology/BiomassMap", "total", "([D)D"⟩ : MethodName) prog_1_method_9_code 8 (some .double) :: ws) ({ frames := 0, cells := 0, slots := 0, locals := 0 } : Room)) (fun a U => a = #[(.ref a1)] ∧ Z.Warmed39 U.vm ∧ U.heap = h0) (fun _ _ _ _ _ => True) (fun _ U o U' => ∃ v L, o = .returned v ∧ QrmT4 Z a1 q0 q1 q2 q3 h0 n0 v U'.heap L ∧ FrameEnd U o U' L ({ frames := 0, cells := 0, slots := 0, locals := 0 } : Room).cells ({ frames := 0, cells := 0, slots := 0, locals := 0 } : Room).slots) := by
  refine MetFree.of_bodySF (plainFor_of_name pn_com_example_weir3_weir3_biology_BiomassMap) hisR ?_
  intro p e s m args below meth c s₁ Bd hml0 hP hK
  obtain ⟨rfl, hZ, hh⟩ := hP
  have hx := Bd.exec
  have hby := Bd.bytes
  have hml : c.maxLocals = 8 := hml0
  have hown : s.vm.findClass "com/example/weir3/weir3/biology/BiomassMap" = some m.cls := findClass_of_methodNamed Bd.named
  have hnm := (name_of_methodNamed Bd.named Bd.method).1
  have X0 : Stand p l e ({ frames := 0, cells := 0, slots := 0, locals := 0 } : Room) s m #[(.ref a1)] below meth c s₁ [] 0 0 := Stand.of_body Bd
  have e0 : s₁.heap = h0 := by rw [← hh, Bd.state]; rfl
  have N0 := Fr.nil n0
  have pre0 : ∀ t, Steps p.tables e below (s₁.setTop (mkF m 0 #[.val (.ref a1), .unset, .unset, .unset, .unset, .unset, .unset, .unset] [])) t → Steps p.tables e below (s₁.setTop (entryFrame m #[(.ref a1)] 8)) t := fun t k => castTop (ef_rmT4 m a1) k
  obtain ⟨zr, hzr⟩ : ∃ z : UInt64, z = (FP.l2d (((((0 : Int64) + q0) + q1) + q2) + q3)) := ⟨_, rfl⟩
  obtain ⟨fs, hr, hrun, hended, hW, hsame⟩ := X0.leave (v := some (.double zr)) (fun h => by rw [Bd.returns] at h; cases h)
  refine ⟨_, _, pre0 _ (?_), hrun, hended, _, _, rfl, ?_, ⟨_, rfl⟩, hW, hsame.mono (by decide) (by decide)⟩
  · show Steps p.tables e below (s₁.setTop (mkF m 0 #[.val (.ref a1), .unset, .unset, .unset, .unset, .unset, .unset, .unset] [])) _
    refine XS.dconst0 X0.here hx rfl (v := (FP.l2d (0 : Int64))) (hb hby d1_0) (by decide +kernel) ?_
    show Steps p.tables e below (s₁.setTop (mkF m 1 #[.val (.ref a1), .unset, .unset, .unset, .unset, .unset, .unset, .unset] [(.double (FP.l2d (0 : Int64)))])) _
    refine XS.dstoreN X0.here hx rfl (hb hby d1_1) rfl (l' := #[.val (.ref a1), .val (.double (FP.l2d (0 : Int64))), .second, .unset, .unset, .unset, .unset, .unset]) rfl ?_
    show Steps p.tables e below (s₁.setTop (mkF m 2 #[.val (.ref a1), .val (.double (FP.l2d (0 : Int64))), .second, .unset, .unset, .unset, .unset, .unset] [])) _
    refine XS.aloadN X0.here hx rfl (hb hby d1_2) rfl rfl ?_
    show Steps p.tables e below (s₁.setTop (mkF m 3 #[.val (.ref a1), .val (.double (FP.l2d (0 : Int64))), .second, .unset, .unset, .unset, .unset, .unset] [(.ref a1)])) _
    refine XS.astoreN X0.here hx rfl (hb hby d1_3) rfl rfl (l' := #[.val (.ref a1), .val (.double (FP.l2d (0 : Int64))), .second, .val (.ref a1), .unset, .unset, .unset, .unset]) rfl ?_
    show Steps p.tables e below (s₁.setTop (mkF m 4 #[.val (.ref a1), .val (.double (FP.l2d (0 : Int64))), .second, .val (.ref a1), .unset, .unset, .unset, .unset] [])) _
    refine XS.aloadN X0.here hx rfl (hb hby d1_4) rfl rfl ?_
    show Steps p.tables e below (s₁.setTop (mkF m 5 #[.val (.ref a1), .val (.double (FP.l2d (0 : Int64))), .second, .val (.ref a1), .unset, .unset, .unset, .unset] [(.ref a1)])) _
    refine own_len X0 hx hZ e0 A1 (z := (4 : Int32)) rfl (g := (mkF m 5 #[.val (.ref a1), .val (.double (FP.l2d (0 : Int64))), .second, .val (.ref a1), .unset, .unset, .unset, .unset] [(.ref a1)])) rfl rfl (hb hby d1_5) _ ?_
    show Steps p.tables e below (s₁.setTop (mkF m 6 #[.val (.ref a1), .val (.double (FP.l2d (0 : Int64))), .second, .val (.ref a1), .unset, .unset, .unset, .unset] [(.int (4 : Int32))])) _
    refine XS.istore X0.here hx rfl (hb hby d1_6) rfl (l' := #[.val (.ref a1), .val (.double (FP.l2d (0 : Int64))), .second, .val (.ref a1), .val (.int (4 : Int32)), .unset, .unset, .unset]) rfl ?_
    show Steps p.tables e below (s₁.setTop (mkF m 8 #[.val (.ref a1), .val (.double (FP.l2d (0 : Int64))), .second, .val (.ref a1), .val (.int (4 : Int32)), .unset, .unset, .unset] [])) _
    refine XS.iconst X0.here hx rfl (hb hby d1_8) ?_
    show Steps p.tables e below (s₁.setTop (mkF m 9 #[.val (.ref a1), .val (.double (FP.l2d (0 : Int64))), .second, .val (.ref a1), .val (.int (4 : Int32)), .unset, .unset, .unset] [(.int (0 : Int32))])) _
    refine XS.istore X0.here hx rfl (hb hby d1_9) rfl (l' := #[.val (.ref a1), .val (.double (FP.l2d (0 : Int64))), .second, .val (.ref a1), .val (.int (4 : Int32)), .val (.int (0 : Int32)), .unset, .unset]) rfl ?_
    show Steps p.tables e below (s₁.setTop (mkF m 11 #[.val (.ref a1), .val (.double (FP.l2d (0 : Int64))), .second, .val (.ref a1), .val (.int (4 : Int32)), .val (.int (0 : Int32)), .unset, .unset] [])) _
    refine XS.iload X0.here hx rfl (hb hby d1_11) rfl ?_
    show Steps p.tables e below (s₁.setTop (mkF m 13 #[.val (.ref a1), .val (.double (FP.l2d (0 : Int64))), .second, .val (.ref a1), .val (.int (4 : Int32)), .val (.int (0 : Int32)), .unset, .unset] [(.int (0 : Int32))])) _
    refine XS.iload X0.here hx rfl (hb hby d1_13) rfl ?_
    show Steps p.tables e below (s₁.setTop (mkF m 15 #[.val (.ref a1), .val (.double (FP.l2d (0 : Int64))), .second, .val (.ref a1), .val (.int (4 : Int32)), .val (.int (0 : Int32)), .unset, .unset] [(.int (4 : Int32)), (.int (0 : Int32))])) _
    refine XS.icmpNo X0.here hx rfl (hb hby d1_15) rfl (tlt (by decide : (0 : Int32) < (4 : Int32))).2.1 ?_
    show Steps p.tables e below (s₁.setTop (mkF m 18 #[.val (.ref a1), .val (.double (FP.l2d (0 : Int64))), .second, .val (.ref a1), .val (.int (4 : Int32)), .val (.int (0 : Int32)), .unset, .unset] [])) _
    refine XS.aloadN X0.here hx rfl (hb hby d1_18) rfl rfl ?_
    show Steps p.tables e below (s₁.setTop (mkF m 19 #[.val (.ref a1), .val (.double (FP.l2d (0 : Int64))), .second, .val (.ref a1), .val (.int (4 : Int32)), .val (.int (0 : Int32)), .unset, .unset] [(.ref a1)])) _
    refine XS.iload X0.here hx rfl (hb hby d1_19) rfl ?_
    show Steps p.tables e below (s₁.setTop (mkF m 21 #[.val (.ref a1), .val (.double (FP.l2d (0 : Int64))), .second, .val (.ref a1), .val (.int (4 : Int32)), .val (.int (0 : Int32)), .unset, .unset] [(.int (0 : Int32)), (.ref a1)])) _
    refine own_ldD X0 hx hZ e0 A1 (j := (0 : Int32)) (x := (FP.l2d q0)) (by decide) rfl (g := (mkF m 21 #[.val (.ref a1), .val (.double (FP.l2d (0 : Int64))), .second, .val (.ref a1), .val (.int (4 : Int32)), .val (.int (0 : Int32)), .unset, .unset] [(.int (0 : Int32)), (.ref a1)])) rfl rfl (hb hby d1_21) _ ?_
    show Steps p.tables e below (s₁.setTop (mkF m 22 #[.val (.ref a1), .val (.double (FP.l2d (0 : Int64))), .second, .val (.ref a1), .val (.int (4 : Int32)), .val (.int (0 : Int32)), .unset, .unset] [(.double (FP.l2d q0))])) _
    refine XS.dstore X0.here hx rfl (hb hby d1_22) rfl (l' := #[.val (.ref a1), .val (.double (FP.l2d (0 : Int64))), .second, .val (.ref a1), .val (.int (4 : Int32)), .val (.int (0 : Int32)), .val (.double (FP.l2d q0)), .second]) rfl ?_
    show Steps p.tables e below (s₁.setTop (mkF m 24 #[.val (.ref a1), .val (.double (FP.l2d (0 : Int64))), .second, .val (.ref a1), .val (.int (4 : Int32)), .val (.int (0 : Int32)), .val (.double (FP.l2d q0)), .second] [])) _
    refine XS.dloadN X0.here hx rfl (hb hby d1_24) rfl ?_
    show Steps p.tables e below (s₁.setTop (mkF m 25 #[.val (.ref a1), .val (.double (FP.l2d (0 : Int64))), .second, .val (.ref a1), .val (.int (4 : Int32)), .val (.int (0 : Int32)), .val (.double (FP.l2d q0)), .second] [(.double (FP.l2d (0 : Int64)))])) _
    refine XS.dload X0.here hx rfl (hb hby d1_25) rfl ?_
    show Steps p.tables e below (s₁.setTop (mkF m 27 #[.val (.ref a1), .val (.double (FP.l2d (0 : Int64))), .second, .val (.ref a1), .val (.int (4 : Int32)), .val (.int (0 : Int32)), .val (.double (FP.l2d q0)), .second] [(.double (FP.l2d q0)), (.double (FP.l2d (0 : Int64)))])) _
    refine XS.daddS X0.here hx rfl (v := (FP.l2d ((0 : Int64) + q0))) (hb hby d1_27) rfl (nn_w (dadd_w (own_b0.b53 (by decide)) (Bq0.b53 (by decide)))) (dadd_w (own_b0.b53 (by decide)) (Bq0.b53 (by decide))) ?_
    show Steps p.tables e below (s₁.setTop (mkF m 28 #[.val (.ref a1), .val (.double (FP.l2d (0 : Int64))), .second, .val (.ref a1), .val (.int (4 : Int32)), .val (.int (0 : Int32)), .val (.double (FP.l2d q0)), .second] [(.double (FP.l2d ((0 : Int64) + q0)))])) _
    refine XS.dstoreN X0.here hx rfl (hb hby d1_28) rfl (l' := #[.val (.ref a1), .val (.double (FP.l2d ((0 : Int64) + q0))), .second, .val (.ref a1), .val (.int (4 : Int32)), .val (.int (0 : Int32)), .val (.double (FP.l2d q0)), .second]) rfl ?_
    show Steps p.tables e below (s₁.setTop (mkF m 29 #[.val (.ref a1), .val (.double (FP.l2d ((0 : Int64) + q0))), .second, .val (.ref a1), .val (.int (4 : Int32)), .val (.int (0 : Int32)), .val (.double (FP.l2d q0)), .second] [])) _
    refine XS.iinc X0.here hx rfl (hb hby d1_29) rfl (l' := #[.val (.ref a1), .val (.double (FP.l2d ((0 : Int64) + q0))), .second, .val (.ref a1), .val (.int (4 : Int32)), .val (.int (1 : Int32)), .val (.double (FP.l2d q0)), .second]) rfl ?_
    show Steps p.tables e below (s₁.setTop (mkF m 32 #[.val (.ref a1), .val (.double (FP.l2d ((0 : Int64) + q0))), .second, .val (.ref a1), .val (.int (4 : Int32)), .val (.int (1 : Int32)), .val (.double (FP.l2d q0)), .second] [])) _
    refine XS.goto X0.here hx rfl (pc0 := 32) (pc' := 11) rfl (hb hby d1_32) (by decide) (by decide) ?_
    show Steps p.tables e below (s₁.setTop (mkF m 11 #[.val (.ref a1), .val (.double (FP.l2d ((0 : Int64) + q0))), .second, .val (.ref a1), .val (.int (4 : Int32)), .val (.int (1 : Int32)), .val (.double (FP.l2d q0)), .second] [])) _
    refine XS.iload X0.here hx rfl (hb hby d1_11) rfl ?_
    show Steps p.tables e below (s₁.setTop (mkF m 13 #[.val (.ref a1), .val (.double (FP.l2d ((0 : Int64) + q0))), .second, .val (.ref a1), .val (.int (4 : Int32)), .val (.int (1 : Int32)), .val (.double (FP.l2d q0)), .second] [(.int (1 : Int32))])) _
    refine XS.iload X0.here hx rfl (hb hby d1_13) rfl ?_
    show Steps p.tables e below (s₁.setTop (mkF m 15 #[.val (.ref a1), .val (.double (FP.l2d ((0 : Int64) + q0))), .second, .val (.ref a1), .val (.int (4 : Int32)), .val (.int (1 : Int32)), .val (.double (FP.l2d q0)), .second] [(.int (4 : Int32)), (.int (1 : Int32))])) _
    refine XS.icmpNo X0.here hx rfl (hb hby d1_15) rfl (tlt (by decide : (1 : Int32) < (4 : Int32))).2.1 ?_
    show Steps p.tables e below (s₁.setTop (mkF m 18 #[.val (.ref a1), .val (.double (FP.l2d ((0 : Int64) + q0))), .second, .val (.ref a1), .val (.int (4 : Int32)), .val (.int (1 : Int32)), .val (.double (FP.l2d q0)), .second] [])) _
    refine XS.aloadN X0.here hx rfl (hb hby d1_18) rfl rfl ?_
    show Steps p.tables e below (s₁.setTop (mkF m 19 #[.val (.ref a1), .val (.double (FP.l2d ((0 : Int64) + q0))), .second, .val (.ref a1), .val (.int (4 : Int32)), .val (.int (1 : Int32)), .val (.double (FP.l2d q0)), .second] [(.ref a1)])) _
    refine XS.iload X0.here hx rfl (hb hby d1_19) rfl ?_
    show Steps p.tables e below (s₁.setTop (mkF m 21 #[.val (.ref a1), .val (.double (FP.l2d ((0 : Int64) + q0))), .second, .val (.ref a1), .val (.int (4 : Int32)), .val (.int (1 : Int32)), .val (.double (FP.l2d q0)), .second] [(.int (1 : Int32)), (.ref a1)])) _
    refine own_ldD X0 hx hZ e0 A1 (j := (1 : Int32)) (x := (FP.l2d q1)) (by decide) rfl (g := (mkF m 21 #[.val (.ref a1), .val (.double (FP.l2d ((0 : Int64) + q0))), .second, .val (.ref a1), .val (.int (4 : Int32)), .val (.int (1 : Int32)), .val (.double (FP.l2d q0)), .second] [(.int (1 : Int32)), (.ref a1)])) rfl rfl (hb hby d1_21) _ ?_
    show Steps p.tables e below (s₁.setTop (mkF m 22 #[.val (.ref a1), .val (.double (FP.l2d ((0 : Int64) + q0))), .second, .val (.ref a1), .val (.int (4 : Int32)), .val (.int (1 : Int32)), .val (.double (FP.l2d q0)), .second] [(.double (FP.l2d q1))])) _
    refine XS.dstore X0.here hx rfl (hb hby d1_22) rfl (l' := #[.val (.ref a1), .val (.double (FP.l2d ((0 : Int64) + q0))), .second, .val (.ref a1), .val (.int (4 : Int32)), .val (.int (1 : Int32)), .val (.double (FP.l2d q1)), .second]) rfl ?_
    show Steps p.tables e below (s₁.setTop (mkF m 24 #[.val (.ref a1), .val (.double (FP.l2d ((0 : Int64) + q0))), .second, .val (.ref a1), .val (.int (4 : Int32)), .val (.int (1 : Int32)), .val (.double (FP.l2d q1)), .second] [])) _
    refine XS.dloadN X0.here hx rfl (hb hby d1_24) rfl ?_
    show Steps p.tables e below (s₁.setTop (mkF m 25 #[.val (.ref a1), .val (.double (FP.l2d ((0 : Int64) + q0))), .second, .val (.ref a1), .val (.int (4 : Int32)), .val (.int (1 : Int32)), .val (.double (FP.l2d q1)), .second] [(.double (FP.l2d ((0 : Int64) + q0)))])) _
    refine XS.dload X0.here hx rfl (hb hby d1_25) rfl ?_
    show Steps p.tables e below (s₁.setTop (mkF m 27 #[.val (.ref a1), .val (.double (FP.l2d ((0 : Int64) + q0))), .second, .val (.ref a1), .val (.int (4 : Int32)), .val (.int (1 : Int32)), .val (.double (FP.l2d q1)), .second] [(.double (FP.l2d q1)), (.double (FP.l2d ((0 : Int64) + q0)))])) _
    refine XS.daddS X0.here hx rfl (v := (FP.l2d (((0 : Int64) + q0) + q1))) (hb hby d1_27) rfl (nn_w (dadd_w ((own_b0.add Bq0 (by decide)).b53 (by decide)) (Bq1.b53 (by decide)))) (dadd_w ((own_b0.add Bq0 (by decide)).b53 (by decide)) (Bq1.b53 (by decide))) ?_
    show Steps p.tables e below (s₁.setTop (mkF m 28 #[.val (.ref a1), .val (.double (FP.l2d ((0 : Int64) + q0))), .second, .val (.ref a1), .val (.int (4 : Int32)), .val (.int (1 : Int32)), .val (.double (FP.l2d q1)), .second] [(.double (FP.l2d (((0 : Int64) + q0) + q1)))])) _
    refine XS.dstoreN X0.here hx rfl (hb hby d1_28) rfl (l' := #[.val (.ref a1), .val (.double (FP.l2d (((0 : Int64) + q0) + q1))), .second, .val (.ref a1), .val (.int (4 : Int32)), .val (.int (1 : Int32)), .val (.double (FP.l2d q1)), .second]) rfl ?_
    show Steps p.tables e below (s₁.setTop (mkF m 29 #[.val (.ref a1), .val (.double (FP.l2d (((0 : Int64) + q0) + q1))), .second, .val (.ref a1), .val (.int (4 : Int32)), .val (.int (1 : Int32)), .val (.double (FP.l2d q1)), .second] [])) _
    refine XS.iinc X0.here hx rfl (hb hby d1_29) rfl (l' := #[.val (.ref a1), .val (.double (FP.l2d (((0 : Int64) + q0) + q1))), .second, .val (.ref a1), .val (.int (4 : Int32)), .val (.int (2 : Int32)), .val (.double (FP.l2d q1)), .second]) rfl ?_
    show Steps p.tables e below (s₁.setTop (mkF m 32 #[.val (.ref a1), .val (.double (FP.l2d (((0 : Int64) + q0) + q1))), .second, .val (.ref a1), .val (.int (4 : Int32)), .val (.int (2 : Int32)), .val (.double (FP.l2d q1)), .second] [])) _
    refine XS.goto X0.here hx rfl (pc0 := 32) (pc' := 11) rfl (hb hby d1_32) (by decide) (by decide) ?_
    show Steps p.tables e below (s₁.setTop (mkF m 11 #[.val (.ref a1), .val (.double (FP.l2d (((0 : Int64) + q0) + q1))), .second, .val (.ref a1), .val (.int (4 : Int32)), .val (.int (2 : Int32)), .val (.double (FP.l2d q1)), .second] [])) _
    refine XS.iload X0.here hx rfl (hb hby d1_11) rfl ?_
    show Steps p.tables e below (s₁.setTop (mkF m 13 #[.val (.ref a1), .val (.double (FP.l2d (((0 : Int64) + q0) + q1))), .second, .val (.ref a1), .val (.int (4 : Int32)), .val (.int (2 : Int32)), .val (.double (FP.l2d q1)), .second] [(.int (2 : Int32))])) _
    refine XS.iload X0.here hx rfl (hb hby d1_13) rfl ?_
    show Steps p.tables e below (s₁.setTop (mkF m 15 #[.val (.ref a1), .val (.double (FP.l2d (((0 : Int64) + q0) + q1))), .second, .val (.ref a1), .val (.int (4 : Int32)), .val (.int (2 : Int32)), .val (.double (FP.l2d q1)), .second] [(.int (4 : Int32)), (.int (2 : Int32))])) _
    refine XS.icmpNo X0.here hx rfl (hb hby d1_15) rfl (tlt (by decide : (2 : Int32) < (4 : Int32))).2.1 ?_
    show Steps p.tables e below (s₁.setTop (mkF m 18 #[.val (.ref a1), .val (.double (FP.l2d (((0 : Int64) + q0) + q1))), .second, .val (.ref a1), .val (.int (4 : Int32)), .val (.int (2 : Int32)), .val (.double (FP.l2d q1)), .second] [])) _
    refine XS.aloadN X0.here hx rfl (hb hby d1_18) rfl rfl ?_
    show Steps p.tables e below (s₁.setTop (mkF m 19 #[.val (.ref a1), .val (.double (FP.l2d (((0 : Int64) + q0) + q1))), .second, .val (.ref a1), .val (.int (4 : Int32)), .val (.int (2 : Int32)), .val (.double (FP.l2d q1)), .second] [(.ref a1)])) _
    refine XS.iload X0.here hx rfl (hb hby d1_19) rfl ?_
    show Steps p.tables e below (s₁.setTop (mkF m 21 #[.val (.ref a1), .val (.double (FP.l2d (((0 : Int64) + q0) + q1))), .second, .val (.ref a1), .val (.int (4 : Int32)), .val (.int (2 : Int32)), .val (.double (FP.l2d q1)), .second] [(.int (2 : Int32)), (.ref a1)])) _
    refine own_ldD X0 hx hZ e0 A1 (j := (2 : Int32)) (x := (FP.l2d q2)) (by decide) rfl (g := (mkF m 21 #[.val (.ref a1), .val (.double (FP.l2d (((0 : Int64) + q0) + q1))), .second, .val (.ref a1), .val (.int (4 : Int32)), .val (.int (2 : Int32)), .val (.double (FP.l2d q1)), .second] [(.int (2 : Int32)), (.ref a1)])) rfl rfl (hb hby d1_21) _ ?_
    show Steps p.tables e below (s₁.setTop (mkF m 22 #[.val (.ref a1), .val (.double (FP.l2d (((0 : Int64) + q0) + q1))), .second, .val (.ref a1), .val (.int (4 : Int32)), .val (.int (2 : Int32)), .val (.double (FP.l2d q1)), .second] [(.double (FP.l2d q2))])) _
    refine XS.dstore X0.here hx rfl (hb hby d1_22) rfl (l' := #[.val (.ref a1), .val (.double (FP.l2d (((0 : Int64) + q0) + q1))), .second, .val (.ref a1), .val (.int (4 : Int32)), .val (.int (2 : Int32)), .val (.double (FP.l2d q2)), .second]) rfl ?_
    show Steps p.tables e below (s₁.setTop (mkF m 24 #[.val (.ref a1), .val (.double (FP.l2d (((0 : Int64) + q0) + q1))), .second, .val (.ref a1), .val (.int (4 : Int32)), .val (.int (2 : Int32)), .val (.double (FP.l2d q2)), .second] [])) _
    refine XS.dloadN X0.here hx rfl (hb hby d1_24) rfl ?_
    show Steps p.tables e below (s₁.setTop (mkF m 25 #[.val (.ref a1), .val (.double (FP.l2d (((0 : Int64) + q0) + q1))), .second, .val (.ref a1), .val (.int (4 : Int32)), .val (.int (2 : Int32)), .val (.double (FP.l2d q2)), .second] [(.double (FP.l2d (((0 : Int64) + q0) + q1)))])) _
    refine XS.dload X0.here hx rfl (hb hby d1_25) rfl ?_
    show Steps p.tables e below (s₁.setTop (mkF m 27 #[.val (.ref a1), .val (.double (FP.l2d (((0 : Int64) + q0) + q1))), .second, .val (.ref a1), .val (.int (4 : Int32)), .val (.int (2 : Int32)), .val (.double (FP.l2d q2)), .second] [(.double (FP.l2d q2)), (.double (FP.l2d (((0 : Int64) + q0) + q1)))])) _
    refine XS.daddS X0.here hx rfl (v := (FP.l2d ((((0 : Int64) + q0) + q1) + q2))) (hb hby d1_27) rfl (nn_w (dadd_w (((own_b0.add Bq0 (by decide)).add Bq1 (by decide)).b53 (by decide)) (Bq2.b53 (by decide)))) (dadd_w (((own_b0.add Bq0 (by decide)).add Bq1 (by decide)).b53 (by decide)) (Bq2.b53 (by decide))) ?_
    show Steps p.tables e below (s₁.setTop (mkF m 28 #[.val (.ref a1), .val (.double (FP.l2d (((0 : Int64) + q0) + q1))), .second, .val (.ref a1), .val (.int (4 : Int32)), .val (.int (2 : Int32)), .val (.double (FP.l2d q2)), .second] [(.double (FP.l2d ((((0 : Int64) + q0) + q1) + q2)))])) _
    refine XS.dstoreN X0.here hx rfl (hb hby d1_28) rfl (l' := #[.val (.ref a1), .val (.double (FP.l2d ((((0 : Int64) + q0) + q1) + q2))), .second, .val (.ref a1), .val (.int (4 : Int32)), .val (.int (2 : Int32)), .val (.double (FP.l2d q2)), .second]) rfl ?_
    show Steps p.tables e below (s₁.setTop (mkF m 29 #[.val (.ref a1), .val (.double (FP.l2d ((((0 : Int64) + q0) + q1) + q2))), .second, .val (.ref a1), .val (.int (4 : Int32)), .val (.int (2 : Int32)), .val (.double (FP.l2d q2)), .second] [])) _
    refine XS.iinc X0.here hx rfl (hb hby d1_29) rfl (l' := #[.val (.ref a1), .val (.double (FP.l2d ((((0 : Int64) + q0) + q1) + q2))), .second, .val (.ref a1), .val (.int (4 : Int32)), .val (.int (3 : Int32)), .val (.double (FP.l2d q2)), .second]) rfl ?_
    show Steps p.tables e below (s₁.setTop (mkF m 32 #[.val (.ref a1), .val (.double (FP.l2d ((((0 : Int64) + q0) + q1) + q2))), .second, .val (.ref a1), .val (.int (4 : Int32)), .val (.int (3 : Int32)), .val (.double (FP.l2d q2)), .second] [])) _
    refine XS.goto X0.here hx rfl (pc0 := 32) (pc' := 11) rfl (hb hby d1_32) (by decide) (by decide) ?_
    show Steps p.tables e below (s₁.setTop (mkF m 11 #[.val (.ref a1), .val (.double (FP.l2d ((((0 : Int64) + q0) + q1) + q2))), .second, .val (.ref a1), .val (.int (4 : Int32)), .val (.int (3 : Int32)), .val (.double (FP.l2d q2)), .second] [])) _
    refine XS.iload X0.here hx rfl (hb hby d1_11) rfl ?_
    show Steps p.tables e below (s₁.setTop (mkF m 13 #[.val (.ref a1), .val (.double (FP.l2d ((((0 : Int64) + q0) + q1) + q2))), .second, .val (.ref a1), .val (.int (4 : Int32)), .val (.int (3 : Int32)), .val (.double (FP.l2d q2)), .second] [(.int (3 : Int32))])) _
    refine XS.iload X0.here hx rfl (hb hby d1_13) rfl ?_
    show Steps p.tables e below (s₁.setTop (mkF m 15 #[.val (.ref a1), .val (.double (FP.l2d ((((0 : Int64) + q0) + q1) + q2))), .second, .val (.ref a1), .val (.int (4 : Int32)), .val (.int (3 : Int32)), .val (.double (FP.l2d q2)), .second] [(.int (4 : Int32)), (.int (3 : Int32))])) _
    refine XS.icmpNo X0.here hx rfl (hb hby d1_15) rfl (tlt (by decide : (3 : Int32) < (4 : Int32))).2.1 ?_
    show Steps p.tables e below (s₁.setTop (mkF m 18 #[.val (.ref a1), .val (.double (FP.l2d ((((0 : Int64) + q0) + q1) + q2))), .second, .val (.ref a1), .val (.int (4 : Int32)), .val (.int (3 : Int32)), .val (.double (FP.l2d q2)), .second] [])) _
    refine XS.aloadN X0.here hx rfl (hb hby d1_18) rfl rfl ?_
    show Steps p.tables e below (s₁.setTop (mkF m 19 #[.val (.ref a1), .val (.double (FP.l2d ((((0 : Int64) + q0) + q1) + q2))), .second, .val (.ref a1), .val (.int (4 : Int32)), .val (.int (3 : Int32)), .val (.double (FP.l2d q2)), .second] [(.ref a1)])) _
    refine XS.iload X0.here hx rfl (hb hby d1_19) rfl ?_
    show Steps p.tables e below (s₁.setTop (mkF m 21 #[.val (.ref a1), .val (.double (FP.l2d ((((0 : Int64) + q0) + q1) + q2))), .second, .val (.ref a1), .val (.int (4 : Int32)), .val (.int (3 : Int32)), .val (.double (FP.l2d q2)), .second] [(.int (3 : Int32)), (.ref a1)])) _
    refine own_ldD X0 hx hZ e0 A1 (j := (3 : Int32)) (x := (FP.l2d q3)) (by decide) rfl (g := (mkF m 21 #[.val (.ref a1), .val (.double (FP.l2d ((((0 : Int64) + q0) + q1) + q2))), .second, .val (.ref a1), .val (.int (4 : Int32)), .val (.int (3 : Int32)), .val (.double (FP.l2d q2)), .second] [(.int (3 : Int32)), (.ref a1)])) rfl rfl (hb hby d1_21) _ ?_
    show Steps p.tables e below (s₁.setTop (mkF m 22 #[.val (.ref a1), .val (.double (FP.l2d ((((0 : Int64) + q0) + q1) + q2))), .second, .val (.ref a1), .val (.int (4 : Int32)), .val (.int (3 : Int32)), .val (.double (FP.l2d q2)), .second] [(.double (FP.l2d q3))])) _
    refine XS.dstore X0.here hx rfl (hb hby d1_22) rfl (l' := #[.val (.ref a1), .val (.double (FP.l2d ((((0 : Int64) + q0) + q1) + q2))), .second, .val (.ref a1), .val (.int (4 : Int32)), .val (.int (3 : Int32)), .val (.double (FP.l2d q3)), .second]) rfl ?_
    show Steps p.tables e below (s₁.setTop (mkF m 24 #[.val (.ref a1), .val (.double (FP.l2d ((((0 : Int64) + q0) + q1) + q2))), .second, .val (.ref a1), .val (.int (4 : Int32)), .val (.int (3 : Int32)), .val (.double (FP.l2d q3)), .second] [])) _
    refine XS.dloadN X0.here hx rfl (hb hby d1_24) rfl ?_
    show Steps p.tables e below (s₁.setTop (mkF m 25 #[.val (.ref a1), .val (.double (FP.l2d ((((0 : Int64) + q0) + q1) + q2))), .second, .val (.ref a1), .val (.int (4 : Int32)), .val (.int (3 : Int32)), .val (.double (FP.l2d q3)), .second] [(.double (FP.l2d ((((0 : Int64) + q0) + q1) + q2)))])) _
    refine XS.dload X0.here hx rfl (hb hby d1_25) rfl ?_
    show Steps p.tables e below (s₁.setTop (mkF m 27 #[.val (.ref a1), .val (.double (FP.l2d ((((0 : Int64) + q0) + q1) + q2))), .second, .val (.ref a1), .val (.int (4 : Int32)), .val (.int (3 : Int32)), .val (.double (FP.l2d q3)), .second] [(.double (FP.l2d q3)), (.double (FP.l2d ((((0 : Int64) + q0) + q1) + q2)))])) _
    refine XS.daddS X0.here hx rfl (v := (FP.l2d (((((0 : Int64) + q0) + q1) + q2) + q3))) (hb hby d1_27) rfl (nn_w (dadd_w ((((own_b0.add Bq0 (by decide)).add Bq1 (by decide)).add Bq2 (by decide)).b53 (by decide)) (Bq3.b53 (by decide)))) (dadd_w ((((own_b0.add Bq0 (by decide)).add Bq1 (by decide)).add Bq2 (by decide)).b53 (by decide)) (Bq3.b53 (by decide))) ?_
    show Steps p.tables e below (s₁.setTop (mkF m 28 #[.val (.ref a1), .val (.double (FP.l2d ((((0 : Int64) + q0) + q1) + q2))), .second, .val (.ref a1), .val (.int (4 : Int32)), .val (.int (3 : Int32)), .val (.double (FP.l2d q3)), .second] [(.double (FP.l2d (((((0 : Int64) + q0) + q1) + q2) + q3)))])) _
    refine XS.dstoreN X0.here hx rfl (hb hby d1_28) rfl (l' := #[.val (.ref a1), .val (.double (FP.l2d (((((0 : Int64) + q0) + q1) + q2) + q3))), .second, .val (.ref a1), .val (.int (4 : Int32)), .val (.int (3 : Int32)), .val (.double (FP.l2d q3)), .second]) rfl ?_
    show Steps p.tables e below (s₁.setTop (mkF m 29 #[.val (.ref a1), .val (.double (FP.l2d (((((0 : Int64) + q0) + q1) + q2) + q3))), .second, .val (.ref a1), .val (.int (4 : Int32)), .val (.int (3 : Int32)), .val (.double (FP.l2d q3)), .second] [])) _
    refine XS.iinc X0.here hx rfl (hb hby d1_29) rfl (l' := #[.val (.ref a1), .val (.double (FP.l2d (((((0 : Int64) + q0) + q1) + q2) + q3))), .second, .val (.ref a1), .val (.int (4 : Int32)), .val (.int (4 : Int32)), .val (.double (FP.l2d q3)), .second]) rfl ?_
    show Steps p.tables e below (s₁.setTop (mkF m 32 #[.val (.ref a1), .val (.double (FP.l2d (((((0 : Int64) + q0) + q1) + q2) + q3))), .second, .val (.ref a1), .val (.int (4 : Int32)), .val (.int (4 : Int32)), .val (.double (FP.l2d q3)), .second] [])) _
    refine XS.goto X0.here hx rfl (pc0 := 32) (pc' := 11) rfl (hb hby d1_32) (by decide) (by decide) ?_
    show Steps p.tables e below (s₁.setTop (mkF m 11 #[.val (.ref a1), .val (.double (FP.l2d (((((0 : Int64) + q0) + q1) + q2) + q3))), .second, .val (.ref a1), .val (.int (4 : Int32)), .val (.int (4 : Int32)), .val (.double (FP.l2d q3)), .second] [])) _
    refine XS.iload X0.here hx rfl (hb hby d1_11) rfl ?_
    show Steps p.tables e below (s₁.setTop (mkF m 13 #[.val (.ref a1), .val (.double (FP.l2d (((((0 : Int64) + q0) + q1) + q2) + q3))), .second, .val (.ref a1), .val (.int (4 : Int32)), .val (.int (4 : Int32)), .val (.double (FP.l2d q3)), .second] [(.int (4 : Int32))])) _
    refine XS.iload X0.here hx rfl (hb hby d1_13) rfl ?_
    show Steps p.tables e below (s₁.setTop (mkF m 15 #[.val (.ref a1), .val (.double (FP.l2d (((((0 : Int64) + q0) + q1) + q2) + q3))), .second, .val (.ref a1), .val (.int (4 : Int32)), .val (.int (4 : Int32)), .val (.double (FP.l2d q3)), .second] [(.int (4 : Int32)), (.int (4 : Int32))])) _
    refine XS.icmpYes X0.here hx rfl (pc0 := 15) (pc' := 35) rfl (hb hby d1_15) rfl (flt (by decide : ¬ ((4 : Int32) < (4 : Int32)))).2.1 (by decide) (by decide) ?_
    show Steps p.tables e below (s₁.setTop (mkF m 35 #[.val (.ref a1), .val (.double (FP.l2d (((((0 : Int64) + q0) + q1) + q2) + q3))), .second, .val (.ref a1), .val (.int (4 : Int32)), .val (.int (4 : Int32)), .val (.double (FP.l2d q3)), .second] [])) _
    refine XS.dloadN X0.here hx rfl (hb hby d1_35) rfl ?_
    show Steps p.tables e below (s₁.setTop (mkF m 36 #[.val (.ref a1), .val (.double (FP.l2d (((((0 : Int64) + q0) + q1) + q2) + q3))), .second, .val (.ref a1), .val (.int (4 : Int32)), .val (.int (4 : Int32)), .val (.double (FP.l2d q3)), .second] [(.double (FP.l2d (((((0 : Int64) + q0) + q1) + q2) + q3)))])) _
    rw [← hzr]
    jvm_step X0.here [X0.here.top, hx, (hb hby d1_36), X0.method', Bd.returns, narrow]
    first | (intro acts; rw [hr _ acts rfl rfl rfl]) | rw [hr _ _ rfl rfl rfl]
    exact Steps.refl _
  · show QrmT4 Z a1 q0 q1 q2 q3 h0 n0 _ s₁.heap _
    rw [e0]; subst hzr
    exact ⟨rfl, N0, rfl⟩
theorem ef_rmT5 (m : MethodId) (x0 : Addr) : entryFrame m #[(.ref x0)] 8 = mkF m 0 #[.val (.ref x0), .unset, .unset, .unset, .unset, .unset, .unset, .unset] [] := by first | (simp [entryFrame, mkF, argsToLocals, Value.category]; done) | rfl
def QrmT5 (Z : State) (a1 : Addr) (q0 q1 q2 q3 q4 : Int64) (h0 : Heap) (n0 : Nat) (v : Option Value) (h : Heap) (L : List Loc) : Prop := v = some (.double (FP.l2d ((((((0 : Int64) + q0) + q1) + q2) + q3) + q4))) ∧ Fr n0 L ∧ h = h0
set_option maxRecDepth 65536 in
set_option maxHeartbeats 40000000 in
theorem rmT5 (l : Launch) (Z : State) (a0 : Array Value) (hw : ∀ d ∈ tables_1, d.before a0 Z = true) (ws : List Jvm.Cond) (a1 : Addr) (q0 q1 q2 q3 q4 : Int64) (h0 : Heap) (n0 : Nat) (Z0 : n0 ≤ h0.size) (Bq0 : BB 2147483648 q0) (Bq1 : BB 2147483648 q1) (Bq2 : BB 2147483648 q2) (Bq3 : BB 2147483648 q3) (Bq4 : BB 2147483648 q4) (A1 : AR Z h0 a1 .double 5 (fup (fup (fup (fup (fup (fun _ => (.double (FP.l2d (0 : Int64)))) 0 (.double (FP.l2d q0))) 1 (.double (FP.l2d q1))) 2 (.double (FP.l2d q2))) 3 (.double (FP.l2d q3))) 4 (.double (FP.l2d q4)))) :
    MetFree l (⟨"com/example/weir3/weir3/biology/BiomassMap", "total", "([D)D"⟩ : MethodName) (head1 (Jvm.Cond.code (⟨"com/example/weir3/weir3/biology/BiomassMap", "total", "([D)D"⟩ : MethodName) prog_1_method_9_code 8 (some .double) :: ws) ({ frames := 0, cells := 0, slots := 0, locals := 0 } : Room)) (fun a U => a = #[(.ref a1)] ∧ Z.Warmed39 U.vm ∧ U.heap = h0) (fun _ _ _ _ _ => True) (fun _ U o U' => ∃ v L, o = .returned v ∧ QrmT5 Z a1 q0 q1 q2 q3 q4 h0 n0 v U'.heap L ∧ FrameEnd U o U' L ({ frames := 0, cells := 0, slots := 0, locals := 0 } : Room).cells ({ frames := 0, cells := 0, slots := 0, locals := 0 } : Room).slots) := by
  refine MetFree.of_bodySF (plainFor_of_name pn_com_example_weir3_weir3_biology_BiomassMap) hisR ?_
  intro p e s m args below meth c s₁ Bd hml0 hP hK
  obtain ⟨rfl, hZ, hh⟩ := hP
  have hx := Bd.exec
  have hby := Bd.bytes
  have hml : c.maxLocals = 8 := hml0
  have hown : s.vm.findClass "com/example/weir3/weir3/biology/BiomassMap" = some m.cls := findClass_of_methodNamed Bd.named
  have hnm := (name_of_methodNamed Bd.named Bd.method).1
  have X0 : Stand p l e ({ frames := 0, cells := 0, slots := 0, locals := 0 } : Room) s m #[(.ref a1)] below meth c s₁ [] 0 0 := Stand.of_body Bd
  have e0 : s₁.heap = h0 := by rw [← hh, Bd.state]; rfl
  have N0 := Fr.nil n0
  have pre0 : ∀ t, Steps p.tables e below (s₁.setTop (mkF m 0 #[.val (.ref a1), .unset, .unset, .unset, .unset, .unset, .unset, .unset] [])) t → Steps p.tables e below (s₁.setTop (entryFrame m #[(.ref a1)] 8)) t := fun t k => castTop (ef_rmT5 m a1) k
  obtain ⟨zr, hzr⟩ : ∃ z : UInt64, z = (FP.l2d ((((((0 : Int64) + q0) + q1) + q2) + q3) + q4)) := ⟨_, rfl⟩
  obtain ⟨fs, hr, hrun, hended, hW, hsame⟩ := X0.leave (v := some (.double zr)) (fun h => by rw [Bd.returns] at h; cases h)
  refine ⟨_, _, pre0 _ (?_), hrun, hended, _, _, rfl, ?_, ⟨_, rfl⟩, hW, hsame.mono (by decide) (by decide)⟩
  · show Steps p.tables e below (s₁.setTop (mkF m 0 #[.val (.ref a1), .unset, .unset, .unset, .unset, .unset, .unset, .unset] [])) _
    refine XS.dconst0 X0.here hx rfl (v := (FP.l2d (0 : Int64))) (hb hby d1_0) (by decide +kernel) ?_
    show Steps p.tables e below (s₁.setTop (mkF m 1 #[.val (.ref a1), .unset, .unset, .unset, .unset, .unset, .unset, .unset] [(.double (FP.l2d (0 : Int64)))])) _
    refine XS.dstoreN X0.here hx rfl (hb hby d1_1) rfl (l' := #[.val (.ref a1), .val (.double (FP.l2d (0 : Int64))), .second, .unset, .unset, .unset, .unset, .unset]) rfl ?_
    show Steps p.tables e below (s₁.setTop (mkF m 2 #[.val (.ref a1), .val (.double (FP.l2d (0 : Int64))), .second, .unset, .unset, .unset, .unset, .unset] [])) _
    refine XS.aloadN X0.here hx rfl (hb hby d1_2) rfl rfl ?_
    show Steps p.tables e below (s₁.setTop (mkF m 3 #[.val (.ref a1), .val (.double (FP.l2d (0 : Int64))), .second, .unset, .unset, .unset, .unset, .unset] [(.ref a1)])) _
    refine XS.astoreN X0.here hx rfl (hb hby d1_3) rfl rfl (l' := #[.val (.ref a1), .val (.double (FP.l2d (0 : Int64))), .second, .val (.ref a1), .unset, .unset, .unset, .unset]) rfl ?_
    show Steps p.tables e below (s₁.setTop (mkF m 4 #[.val (.ref a1), .val (.double (FP.l2d (0 : Int64))), .second, .val (.ref a1), .unset, .unset, .unset, .unset] [])) _
    refine XS.aloadN X0.here hx rfl (hb hby d1_4) rfl rfl ?_
    show Steps p.tables e below (s₁.setTop (mkF m 5 #[.val (.ref a1), .val (.double (FP.l2d (0 : Int64))), .second, .val (.ref a1), .unset, .unset, .unset, .unset] [(.ref a1)])) _
    refine own_len X0 hx hZ e0 A1 (z := (5 : Int32)) rfl (g := (mkF m 5 #[.val (.ref a1), .val (.double (FP.l2d (0 : Int64))), .second, .val (.ref a1), .unset, .unset, .unset, .unset] [(.ref a1)])) rfl rfl (hb hby d1_5) _ ?_
    show Steps p.tables e below (s₁.setTop (mkF m 6 #[.val (.ref a1), .val (.double (FP.l2d (0 : Int64))), .second, .val (.ref a1), .unset, .unset, .unset, .unset] [(.int (5 : Int32))])) _
    refine XS.istore X0.here hx rfl (hb hby d1_6) rfl (l' := #[.val (.ref a1), .val (.double (FP.l2d (0 : Int64))), .second, .val (.ref a1), .val (.int (5 : Int32)), .unset, .unset, .unset]) rfl ?_
    show Steps p.tables e below (s₁.setTop (mkF m 8 #[.val (.ref a1), .val (.double (FP.l2d (0 : Int64))), .second, .val (.ref a1), .val (.int (5 : Int32)), .unset, .unset, .unset] [])) _
    refine XS.iconst X0.here hx rfl (hb hby d1_8) ?_
    show Steps p.tables e below (s₁.setTop (mkF m 9 #[.val (.ref a1), .val (.double (FP.l2d (0 : Int64))), .second, .val (.ref a1), .val (.int (5 : Int32)), .unset, .unset, .unset] [(.int (0 : Int32))])) _
    refine XS.istore X0.here hx rfl (hb hby d1_9) rfl (l' := #[.val (.ref a1), .val (.double (FP.l2d (0 : Int64))), .second, .val (.ref a1), .val (.int (5 : Int32)), .val (.int (0 : Int32)), .unset, .unset]) rfl ?_
    show Steps p.tables e below (s₁.setTop (mkF m 11 #[.val (.ref a1), .val (.double (FP.l2d (0 : Int64))), .second, .val (.ref a1), .val (.int (5 : Int32)), .val (.int (0 : Int32)), .unset, .unset] [])) _
    refine XS.iload X0.here hx rfl (hb hby d1_11) rfl ?_
    show Steps p.tables e below (s₁.setTop (mkF m 13 #[.val (.ref a1), .val (.double (FP.l2d (0 : Int64))), .second, .val (.ref a1), .val (.int (5 : Int32)), .val (.int (0 : Int32)), .unset, .unset] [(.int (0 : Int32))])) _
    refine XS.iload X0.here hx rfl (hb hby d1_13) rfl ?_
    show Steps p.tables e below (s₁.setTop (mkF m 15 #[.val (.ref a1), .val (.double (FP.l2d (0 : Int64))), .second, .val (.ref a1), .val (.int (5 : Int32)), .val (.int (0 : Int32)), .unset, .unset] [(.int (5 : Int32)), (.int (0 : Int32))])) _
    refine XS.icmpNo X0.here hx rfl (hb hby d1_15) rfl (tlt (by decide : (0 : Int32) < (5 : Int32))).2.1 ?_
    show Steps p.tables e below (s₁.setTop (mkF m 18 #[.val (.ref a1), .val (.double (FP.l2d (0 : Int64))), .second, .val (.ref a1), .val (.int (5 : Int32)), .val (.int (0 : Int32)), .unset, .unset] [])) _
    refine XS.aloadN X0.here hx rfl (hb hby d1_18) rfl rfl ?_
    show Steps p.tables e below (s₁.setTop (mkF m 19 #[.val (.ref a1), .val (.double (FP.l2d (0 : Int64))), .second, .val (.ref a1), .val (.int (5 : Int32)), .val (.int (0 : Int32)), .unset, .unset] [(.ref a1)])) _
    refine XS.iload X0.here hx rfl (hb hby d1_19) rfl ?_
    show Steps p.tables e below (s₁.setTop (mkF m 21 #[.val (.ref a1), .val (.double (FP.l2d (0 : Int64))), .second, .val (.ref a1), .val (.int (5 : Int32)), .val (.int (0 : Int32)), .unset, .unset] [(.int (0 : Int32)), (.ref a1)])) _
    refine own_ldD X0 hx hZ e0 A1 (j := (0 : Int32)) (x := (FP.l2d q0)) (by decide) rfl (g := (mkF m 21 #[.val (.ref a1), .val (.double (FP.l2d (0 : Int64))), .second, .val (.ref a1), .val (.int (5 : Int32)), .val (.int (0 : Int32)), .unset, .unset] [(.int (0 : Int32)), (.ref a1)])) rfl rfl (hb hby d1_21) _ ?_
    show Steps p.tables e below (s₁.setTop (mkF m 22 #[.val (.ref a1), .val (.double (FP.l2d (0 : Int64))), .second, .val (.ref a1), .val (.int (5 : Int32)), .val (.int (0 : Int32)), .unset, .unset] [(.double (FP.l2d q0))])) _
    refine XS.dstore X0.here hx rfl (hb hby d1_22) rfl (l' := #[.val (.ref a1), .val (.double (FP.l2d (0 : Int64))), .second, .val (.ref a1), .val (.int (5 : Int32)), .val (.int (0 : Int32)), .val (.double (FP.l2d q0)), .second]) rfl ?_
    show Steps p.tables e below (s₁.setTop (mkF m 24 #[.val (.ref a1), .val (.double (FP.l2d (0 : Int64))), .second, .val (.ref a1), .val (.int (5 : Int32)), .val (.int (0 : Int32)), .val (.double (FP.l2d q0)), .second] [])) _
    refine XS.dloadN X0.here hx rfl (hb hby d1_24) rfl ?_
    show Steps p.tables e below (s₁.setTop (mkF m 25 #[.val (.ref a1), .val (.double (FP.l2d (0 : Int64))), .second, .val (.ref a1), .val (.int (5 : Int32)), .val (.int (0 : Int32)), .val (.double (FP.l2d q0)), .second] [(.double (FP.l2d (0 : Int64)))])) _
    refine XS.dload X0.here hx rfl (hb hby d1_25) rfl ?_
    show Steps p.tables e below (s₁.setTop (mkF m 27 #[.val (.ref a1), .val (.double (FP.l2d (0 : Int64))), .second, .val (.ref a1), .val (.int (5 : Int32)), .val (.int (0 : Int32)), .val (.double (FP.l2d q0)), .second] [(.double (FP.l2d q0)), (.double (FP.l2d (0 : Int64)))])) _
    refine XS.daddS X0.here hx rfl (v := (FP.l2d ((0 : Int64) + q0))) (hb hby d1_27) rfl (nn_w (dadd_w (own_b0.b53 (by decide)) (Bq0.b53 (by decide)))) (dadd_w (own_b0.b53 (by decide)) (Bq0.b53 (by decide))) ?_
    show Steps p.tables e below (s₁.setTop (mkF m 28 #[.val (.ref a1), .val (.double (FP.l2d (0 : Int64))), .second, .val (.ref a1), .val (.int (5 : Int32)), .val (.int (0 : Int32)), .val (.double (FP.l2d q0)), .second] [(.double (FP.l2d ((0 : Int64) + q0)))])) _
    refine XS.dstoreN X0.here hx rfl (hb hby d1_28) rfl (l' := #[.val (.ref a1), .val (.double (FP.l2d ((0 : Int64) + q0))), .second, .val (.ref a1), .val (.int (5 : Int32)), .val (.int (0 : Int32)), .val (.double (FP.l2d q0)), .second]) rfl ?_
    show Steps p.tables e below (s₁.setTop (mkF m 29 #[.val (.ref a1), .val (.double (FP.l2d ((0 : Int64) + q0))), .second, .val (.ref a1), .val (.int (5 : Int32)), .val (.int (0 : Int32)), .val (.double (FP.l2d q0)), .second] [])) _
    refine XS.iinc X0.here hx rfl (hb hby d1_29) rfl (l' := #[.val (.ref a1), .val (.double (FP.l2d ((0 : Int64) + q0))), .second, .val (.ref a1), .val (.int (5 : Int32)), .val (.int (1 : Int32)), .val (.double (FP.l2d q0)), .second]) rfl ?_
    show Steps p.tables e below (s₁.setTop (mkF m 32 #[.val (.ref a1), .val (.double (FP.l2d ((0 : Int64) + q0))), .second, .val (.ref a1), .val (.int (5 : Int32)), .val (.int (1 : Int32)), .val (.double (FP.l2d q0)), .second] [])) _
    refine XS.goto X0.here hx rfl (pc0 := 32) (pc' := 11) rfl (hb hby d1_32) (by decide) (by decide) ?_
    show Steps p.tables e below (s₁.setTop (mkF m 11 #[.val (.ref a1), .val (.double (FP.l2d ((0 : Int64) + q0))), .second, .val (.ref a1), .val (.int (5 : Int32)), .val (.int (1 : Int32)), .val (.double (FP.l2d q0)), .second] [])) _
    refine XS.iload X0.here hx rfl (hb hby d1_11) rfl ?_
    show Steps p.tables e below (s₁.setTop (mkF m 13 #[.val (.ref a1), .val (.double (FP.l2d ((0 : Int64) + q0))), .second, .val (.ref a1), .val (.int (5 : Int32)), .val (.int (1 : Int32)), .val (.double (FP.l2d q0)), .second] [(.int (1 : Int32))])) _
    refine XS.iload X0.here hx rfl (hb hby d1_13) rfl ?_
    show Steps p.tables e below (s₁.setTop (mkF m 15 #[.val (.ref a1), .val (.double (FP.l2d ((0 : Int64) + q0))), .second, .val (.ref a1), .val (.int (5 : Int32)), .val (.int (1 : Int32)), .val (.double (FP.l2d q0)), .second] [(.int (5 : Int32)), (.int (1 : Int32))])) _
    refine XS.icmpNo X0.here hx rfl (hb hby d1_15) rfl (tlt (by decide : (1 : Int32) < (5 : Int32))).2.1 ?_
    show Steps p.tables e below (s₁.setTop (mkF m 18 #[.val (.ref a1), .val (.double (FP.l2d ((0 : Int64) + q0))), .second, .val (.ref a1), .val (.int (5 : Int32)), .val (.int (1 : Int32)), .val (.double (FP.l2d q0)), .second] [])) _
    refine XS.aloadN X0.here hx rfl (hb hby d1_18) rfl rfl ?_
    show Steps p.tables e below (s₁.setTop (mkF m 19 #[.val (.ref a1), .val (.double (FP.l2d ((0 : Int64) + q0))), .second, .val (.ref a1), .val (.int (5 : Int32)), .val (.int (1 : Int32)), .val (.double (FP.l2d q0)), .second] [(.ref a1)])) _
    refine XS.iload X0.here hx rfl (hb hby d1_19) rfl ?_
    show Steps p.tables e below (s₁.setTop (mkF m 21 #[.val (.ref a1), .val (.double (FP.l2d ((0 : Int64) + q0))), .second, .val (.ref a1), .val (.int (5 : Int32)), .val (.int (1 : Int32)), .val (.double (FP.l2d q0)), .second] [(.int (1 : Int32)), (.ref a1)])) _
    refine own_ldD X0 hx hZ e0 A1 (j := (1 : Int32)) (x := (FP.l2d q1)) (by decide) rfl (g := (mkF m 21 #[.val (.ref a1), .val (.double (FP.l2d ((0 : Int64) + q0))), .second, .val (.ref a1), .val (.int (5 : Int32)), .val (.int (1 : Int32)), .val (.double (FP.l2d q0)), .second] [(.int (1 : Int32)), (.ref a1)])) rfl rfl (hb hby d1_21) _ ?_
    show Steps p.tables e below (s₁.setTop (mkF m 22 #[.val (.ref a1), .val (.double (FP.l2d ((0 : Int64) + q0))), .second, .val (.ref a1), .val (.int (5 : Int32)), .val (.int (1 : Int32)), .val (.double (FP.l2d q0)), .second] [(.double (FP.l2d q1))])) _
    refine XS.dstore X0.here hx rfl (hb hby d1_22) rfl (l' := #[.val (.ref a1), .val (.double (FP.l2d ((0 : Int64) + q0))), .second, .val (.ref a1), .val (.int (5 : Int32)), .val (.int (1 : Int32)), .val (.double (FP.l2d q1)), .second]) rfl ?_
    show Steps p.tables e below (s₁.setTop (mkF m 24 #[.val (.ref a1), .val (.double (FP.l2d ((0 : Int64) + q0))), .second, .val (.ref a1), .val (.int (5 : Int32)), .val (.int (1 : Int32)), .val (.double (FP.l2d q1)), .second] [])) _
    refine XS.dloadN X0.here hx rfl (hb hby d1_24) rfl ?_
    show Steps p.tables e below (s₁.setTop (mkF m 25 #[.val (.ref a1), .val (.double (FP.l2d ((0 : Int64) + q0))), .second, .val (.ref a1), .val (.int (5 : Int32)), .val (.int (1 : Int32)), .val (.double (FP.l2d q1)), .second] [(.double (FP.l2d ((0 : Int64) + q0)))])) _
    refine XS.dload X0.here hx rfl (hb hby d1_25) rfl ?_
    show Steps p.tables e below (s₁.setTop (mkF m 27 #[.val (.ref a1), .val (.double (FP.l2d ((0 : Int64) + q0))), .second, .val (.ref a1), .val (.int (5 : Int32)), .val (.int (1 : Int32)), .val (.double (FP.l2d q1)), .second] [(.double (FP.l2d q1)), (.double (FP.l2d ((0 : Int64) + q0)))])) _
    refine XS.daddS X0.here hx rfl (v := (FP.l2d (((0 : Int64) + q0) + q1))) (hb hby d1_27) rfl (nn_w (dadd_w ((own_b0.add Bq0 (by decide)).b53 (by decide)) (Bq1.b53 (by decide)))) (dadd_w ((own_b0.add Bq0 (by decide)).b53 (by decide)) (Bq1.b53 (by decide))) ?_
    show Steps p.tables e below (s₁.setTop (mkF m 28 #[.val (.ref a1), .val (.double (FP.l2d ((0 : Int64) + q0))), .second, .val (.ref a1), .val (.int (5 : Int32)), .val (.int (1 : Int32)), .val (.double (FP.l2d q1)), .second] [(.double (FP.l2d (((0 : Int64) + q0) + q1)))])) _
    refine XS.dstoreN X0.here hx rfl (hb hby d1_28) rfl (l' := #[.val (.ref a1), .val (.double (FP.l2d (((0 : Int64) + q0) + q1))), .second, .val (.ref a1), .val (.int (5 : Int32)), .val (.int (1 : Int32)), .val (.double (FP.l2d q1)), .second]) rfl ?_
    show Steps p.tables e below (s₁.setTop (mkF m 29 #[.val (.ref a1), .val (.double (FP.l2d (((0 : Int64) + q0) + q1))), .second, .val (.ref a1), .val (.int (5 : Int32)), .val (.int (1 : Int32)), .val (.double (FP.l2d q1)), .second] [])) _
    refine XS.iinc X0.here hx rfl (hb hby d1_29) rfl (l' := #[.val (.ref a1), .val (.double (FP.l2d (((0 : Int64) + q0) + q1))), .second, .val (.ref a1), .val (.int (5 : Int32)), .val (.int (2 : Int32)), .val (.double (FP.l2d q1)), .second]) rfl ?_
    show Steps p.tables e below (s₁.setTop (mkF m 32 #[.val (.ref a1), .val (.double (FP.l2d (((0 : Int64) + q0) + q1))), .second, .val (.ref a1), .val (.int (5 : Int32)), .val (.int (2 : Int32)), .val (.double (FP.l2d q1)), .second] [])) _
    refine XS.goto X0.here hx rfl (pc0 := 32) (pc' := 11) rfl (hb hby d1_32) (by decide) (by decide) ?_
    show Steps p.tables e below (s₁.setTop (mkF m 11 #[.val (.ref a1), .val (.double (FP.l2d (((0 : Int64) + q0) + q1))), .second, .val (.ref a1), .val (.int (5 : Int32)), .val (.int (2 : Int32)), .val (.double (FP.l2d q1)), .second] [])) _
    refine XS.iload X0.here hx rfl (hb hby d1_11) rfl ?_
    show Steps p.tables e below (s₁.setTop (mkF m 13 #[.val (.ref a1), .val (.double (FP.l2d (((0 : Int64) + q0) + q1))), .second, .val (.ref a1), .val (.int (5 : Int32)), .val (.int (2 : Int32)), .val (.double (FP.l2d q1)), .second] [(.int (2 : Int32))])) _
    refine XS.iload X0.here hx rfl (hb hby d1_13) rfl ?_
    show Steps p.tables e below (s₁.setTop (mkF m 15 #[.val (.ref a1), .val (.double (FP.l2d (((0 : Int64) + q0) + q1))), .second, .val (.ref a1), .val (.int (5 : Int32)), .val (.int (2 : Int32)), .val (.double (FP.l2d q1)), .second] [(.int (5 : Int32)), (.int (2 : Int32))])) _
    refine XS.icmpNo X0.here hx rfl (hb hby d1_15) rfl (tlt (by decide : (2 : Int32) < (5 : Int32))).2.1 ?_
    show Steps p.tables e below (s₁.setTop (mkF m 18 #[.val (.ref a1), .val (.double (FP.l2d (((0 : Int64) + q0) + q1))), .second, .val (.ref a1), .val (.int (5 : Int32)), .val (.int (2 : Int32)), .val (.double (FP.l2d q1)), .second] [])) _
    refine XS.aloadN X0.here hx rfl (hb hby d1_18) rfl rfl ?_
    show Steps p.tables e below (s₁.setTop (mkF m 19 #[.val (.ref a1), .val (.double (FP.l2d (((0 : Int64) + q0) + q1))), .second, .val (.ref a1), .val (.int (5 : Int32)), .val (.int (2 : Int32)), .val (.double (FP.l2d q1)), .second] [(.ref a1)])) _
    refine XS.iload X0.here hx rfl (hb hby d1_19) rfl ?_
    show Steps p.tables e below (s₁.setTop (mkF m 21 #[.val (.ref a1), .val (.double (FP.l2d (((0 : Int64) + q0) + q1))), .second, .val (.ref a1), .val (.int (5 : Int32)), .val (.int (2 : Int32)), .val (.double (FP.l2d q1)), .second] [(.int (2 : Int32)), (.ref a1)])) _
    refine own_ldD X0 hx hZ e0 A1 (j := (2 : Int32)) (x := (FP.l2d q2)) (by decide) rfl (g := (mkF m 21 #[.val (.ref a1), .val (.double (FP.l2d (((0 : Int64) + q0) + q1))), .second, .val (.ref a1), .val (.int (5 : Int32)), .val (.int (2 : Int32)), .val (.double (FP.l2d q1)), .second] [(.int (2 : Int32)), (.ref a1)])) rfl rfl (hb hby d1_21) _ ?_
    show Steps p.tables e below (s₁.setTop (mkF m 22 #[.val (.ref a1), .val (.double (FP.l2d (((0 : Int64) + q0) + q1))), .second, .val (.ref a1), .val (.int (5 : Int32)), .val (.int (2 : Int32)), .val (.double (FP.l2d q1)), .second] [(.double (FP.l2d q2))])) _
    refine XS.dstore X0.here hx rfl (hb hby d1_22) rfl (l' := #[.val (.ref a1), .val (.double (FP.l2d (((0 : Int64) + q0) + q1))), .second, .val (.ref a1), .val (.int (5 : Int32)), .val (.int (2 : Int32)), .val (.double (FP.l2d q2)), .second]) rfl ?_
    show Steps p.tables e below (s₁.setTop (mkF m 24 #[.val (.ref a1), .val (.double (FP.l2d (((0 : Int64) + q0) + q1))), .second, .val (.ref a1), .val (.int (5 : Int32)), .val (.int (2 : Int32)), .val (.double (FP.l2d q2)), .second] [])) _
    refine XS.dloadN X0.here hx rfl (hb hby d1_24) rfl ?_
    show Steps p.tables e below (s₁.setTop (mkF m 25 #[.val (.ref a1), .val (.double (FP.l2d (((0 : Int64) + q0) + q1))), .second, .val (.ref a1), .val (.int (5 : Int32)), .val (.int (2 : Int32)), .val (.double (FP.l2d q2)), .second] [(.double (FP.l2d (((0 : Int64) + q0) + q1)))])) _
    refine XS.dload X0.here hx rfl (hb hby d1_25) rfl ?_
    show Steps p.tables e below (s₁.setTop (mkF m 27 #[.val (.ref a1), .val (.double (FP.l2d (((0 : Int64) + q0) + q1))), .second, .val (.ref a1), .val (.int (5 : Int32)), .val (.int (2 : Int32)), .val (.double (FP.l2d q2)), .second] [(.double (FP.l2d q2)), (.double (FP.l2d (((0 : Int64) + q0) + q1)))])) _
    refine XS.daddS X0.here hx rfl (v := (FP.l2d ((((0 : Int64) + q0) + q1) + q2))) (hb hby d1_27) rfl (nn_w (dadd_w (((own_b0.add Bq0 (by decide)).add Bq1 (by decide)).b53 (by decide)) (Bq2.b53 (by decide)))) (dadd_w (((own_b0.add Bq0 (by decide)).add Bq1 (by decide)).b53 (by decide)) (Bq2.b53 (by decide))) ?_
    show Steps p.tables e below (s₁.setTop (mkF m 28 #[.val (.ref a1), .val (.double (FP.l2d (((0 : Int64) + q0) + q1))), .second, .val (.ref a1), .val (.int (5 : Int32)), .val (.int (2 : Int32)), .val (.double (FP.l2d q2)), .second] [(.double (FP.l2d ((((0 : Int64) + q0) + q1) + q2)))])) _
    refine XS.dstoreN X0.here hx rfl (hb hby d1_28) rfl (l' := #[.val (.ref a1), .val (.double (FP.l2d ((((0 : Int64) + q0) + q1) + q2))), .second, .val (.ref a1), .val (.int (5 : Int32)), .val (.int (2 : Int32)), .val (.double (FP.l2d q2)), .second]) rfl ?_
    show Steps p.tables e below (s₁.setTop (mkF m 29 #[.val (.ref a1), .val (.double (FP.l2d ((((0 : Int64) + q0) + q1) + q2))), .second, .val (.ref a1), .val (.int (5 : Int32)), .val (.int (2 : Int32)), .val (.double (FP.l2d q2)), .second] [])) _
    refine XS.iinc X0.here hx rfl (hb hby d1_29) rfl (l' := #[.val (.ref a1), .val (.double (FP.l2d ((((0 : Int64) + q0) + q1) + q2))), .second, .val (.ref a1), .val (.int (5 : Int32)), .val (.int (3 : Int32)), .val (.double (FP.l2d q2)), .second]) rfl ?_
    show Steps p.tables e below (s₁.setTop (mkF m 32 #[.val (.ref a1), .val (.double (FP.l2d ((((0 : Int64) + q0) + q1) + q2))), .second, .val (.ref a1), .val (.int (5 : Int32)), .val (.int (3 : Int32)), .val (.double (FP.l2d q2)), .second] [])) _
    refine XS.goto X0.here hx rfl (pc0 := 32) (pc' := 11) rfl (hb hby d1_32) (by decide) (by decide) ?_
    show Steps p.tables e below (s₁.setTop (mkF m 11 #[.val (.ref a1), .val (.double (FP.l2d ((((0 : Int64) + q0) + q1) + q2))), .second, .val (.ref a1), .val (.int (5 : Int32)), .val (.int (3 : Int32)), .val (.double (FP.l2d q2)), .second] [])) _
    refine XS.iload X0.here hx rfl (hb hby d1_11) rfl ?_
    show Steps p.tables e below (s₁.setTop (mkF m 13 #[.val (.ref a1), .val (.double (FP.l2d ((((0 : Int64) + q0) + q1) + q2))), .second, .val (.ref a1), .val (.int (5 : Int32)), .val (.int (3 : Int32)), .val (.double (FP.l2d q2)), .second] [(.int (3 : Int32))])) _
    refine XS.iload X0.here hx rfl (hb hby d1_13) rfl ?_
    show Steps p.tables e below (s₁.setTop (mkF m 15 #[.val (.ref a1), .val (.double (FP.l2d ((((0 : Int64) + q0) + q1) + q2))), .second, .val (.ref a1), .val (.int (5 : Int32)), .val (.int (3 : Int32)), .val (.double (FP.l2d q2)), .second] [(.int (5 : Int32)), (.int (3 : Int32))])) _
    refine XS.icmpNo X0.here hx rfl (hb hby d1_15) rfl (tlt (by decide : (3 : Int32) < (5 : Int32))).2.1 ?_
    show Steps p.tables e below (s₁.setTop (mkF m 18 #[.val (.ref a1), .val (.double (FP.l2d ((((0 : Int64) + q0) + q1) + q2))), .second, .val (.ref a1), .val (.int (5 : Int32)), .val (.int (3 : Int32)), .val (.double (FP.l2d q2)), .second] [])) _
    refine XS.aloadN X0.here hx rfl (hb hby d1_18) rfl rfl ?_
    show Steps p.tables e below (s₁.setTop (mkF m 19 #[.val (.ref a1), .val (.double (FP.l2d ((((0 : Int64) + q0) + q1) + q2))), .second, .val (.ref a1), .val (.int (5 : Int32)), .val (.int (3 : Int32)), .val (.double (FP.l2d q2)), .second] [(.ref a1)])) _
    refine XS.iload X0.here hx rfl (hb hby d1_19) rfl ?_
    show Steps p.tables e below (s₁.setTop (mkF m 21 #[.val (.ref a1), .val (.double (FP.l2d ((((0 : Int64) + q0) + q1) + q2))), .second, .val (.ref a1), .val (.int (5 : Int32)), .val (.int (3 : Int32)), .val (.double (FP.l2d q2)), .second] [(.int (3 : Int32)), (.ref a1)])) _
    refine own_ldD X0 hx hZ e0 A1 (j := (3 : Int32)) (x := (FP.l2d q3)) (by decide) rfl (g := (mkF m 21 #[.val (.ref a1), .val (.double (FP.l2d ((((0 : Int64) + q0) + q1) + q2))), .second, .val (.ref a1), .val (.int (5 : Int32)), .val (.int (3 : Int32)), .val (.double (FP.l2d q2)), .second] [(.int (3 : Int32)), (.ref a1)])) rfl rfl (hb hby d1_21) _ ?_
    show Steps p.tables e below (s₁.setTop (mkF m 22 #[.val (.ref a1), .val (.double (FP.l2d ((((0 : Int64) + q0) + q1) + q2))), .second, .val (.ref a1), .val (.int (5 : Int32)), .val (.int (3 : Int32)), .val (.double (FP.l2d q2)), .second] [(.double (FP.l2d q3))])) _
    refine XS.dstore X0.here hx rfl (hb hby d1_22) rfl (l' := #[.val (.ref a1), .val (.double (FP.l2d ((((0 : Int64) + q0) + q1) + q2))), .second, .val (.ref a1), .val (.int (5 : Int32)), .val (.int (3 : Int32)), .val (.double (FP.l2d q3)), .second]) rfl ?_
    show Steps p.tables e below (s₁.setTop (mkF m 24 #[.val (.ref a1), .val (.double (FP.l2d ((((0 : Int64) + q0) + q1) + q2))), .second, .val (.ref a1), .val (.int (5 : Int32)), .val (.int (3 : Int32)), .val (.double (FP.l2d q3)), .second] [])) _
    refine XS.dloadN X0.here hx rfl (hb hby d1_24) rfl ?_
    show Steps p.tables e below (s₁.setTop (mkF m 25 #[.val (.ref a1), .val (.double (FP.l2d ((((0 : Int64) + q0) + q1) + q2))), .second, .val (.ref a1), .val (.int (5 : Int32)), .val (.int (3 : Int32)), .val (.double (FP.l2d q3)), .second] [(.double (FP.l2d ((((0 : Int64) + q0) + q1) + q2)))])) _
    refine XS.dload X0.here hx rfl (hb hby d1_25) rfl ?_
    show Steps p.tables e below (s₁.setTop (mkF m 27 #[.val (.ref a1), .val (.double (FP.l2d ((((0 : Int64) + q0) + q1) + q2))), .second, .val (.ref a1), .val (.int (5 : Int32)), .val (.int (3 : Int32)), .val (.double (FP.l2d q3)), .second] [(.double (FP.l2d q3)), (.double (FP.l2d ((((0 : Int64) + q0) + q1) + q2)))])) _
    refine XS.daddS X0.here hx rfl (v := (FP.l2d (((((0 : Int64) + q0) + q1) + q2) + q3))) (hb hby d1_27) rfl (nn_w (dadd_w ((((own_b0.add Bq0 (by decide)).add Bq1 (by decide)).add Bq2 (by decide)).b53 (by decide)) (Bq3.b53 (by decide)))) (dadd_w ((((own_b0.add Bq0 (by decide)).add Bq1 (by decide)).add Bq2 (by decide)).b53 (by decide)) (Bq3.b53 (by decide))) ?_
    show Steps p.tables e below (s₁.setTop (mkF m 28 #[.val (.ref a1), .val (.double (FP.l2d ((((0 : Int64) + q0) + q1) + q2))), .second, .val (.ref a1), .val (.int (5 : Int32)), .val (.int (3 : Int32)), .val (.double (FP.l2d q3)), .second] [(.double (FP.l2d (((((0 : Int64) + q0) + q1) + q2) + q3)))])) _
    refine XS.dstoreN X0.here hx rfl (hb hby d1_28) rfl (l' := #[.val (.ref a1), .val (.double (FP.l2d (((((0 : Int64) + q0) + q1) + q2) + q3))), .second, .val (.ref a1), .val (.int (5 : Int32)), .val (.int (3 : Int32)), .val (.double (FP.l2d q3)), .second]) rfl ?_
    show Steps p.tables e below (s₁.setTop (mkF m 29 #[.val (.ref a1), .val (.double (FP.l2d (((((0 : Int64) + q0) + q1) + q2) + q3))), .second, .val (.ref a1), .val (.int (5 : Int32)), .val (.int (3 : Int32)), .val (.double (FP.l2d q3)), .second] [])) _
    refine XS.iinc X0.here hx rfl (hb hby d1_29) rfl (l' := #[.val (.ref a1), .val (.double (FP.l2d (((((0 : Int64) + q0) + q1) + q2) + q3))), .second, .val (.ref a1), .val (.int (5 : Int32)), .val (.int (4 : Int32)), .val (.double (FP.l2d q3)), .second]) rfl ?_
    show Steps p.tables e below (s₁.setTop (mkF m 32 #[.val (.ref a1), .val (.double (FP.l2d (((((0 : Int64) + q0) + q1) + q2) + q3))), .second, .val (.ref a1), .val (.int (5 : Int32)), .val (.int (4 : Int32)), .val (.double (FP.l2d q3)), .second] [])) _
    refine XS.goto X0.here hx rfl (pc0 := 32) (pc' := 11) rfl (hb hby d1_32) (by decide) (by decide) ?_
    show Steps p.tables e below (s₁.setTop (mkF m 11 #[.val (.ref a1), .val (.double (FP.l2d (((((0 : Int64) + q0) + q1) + q2) + q3))), .second, .val (.ref a1), .val (.int (5 : Int32)), .val (.int (4 : Int32)), .val (.double (FP.l2d q3)), .second] [])) _
    refine XS.iload X0.here hx rfl (hb hby d1_11) rfl ?_
    show Steps p.tables e below (s₁.setTop (mkF m 13 #[.val (.ref a1), .val (.double (FP.l2d (((((0 : Int64) + q0) + q1) + q2) + q3))), .second, .val (.ref a1), .val (.int (5 : Int32)), .val (.int (4 : Int32)), .val (.double (FP.l2d q3)), .second] [(.int (4 : Int32))])) _
    refine XS.iload X0.here hx rfl (hb hby d1_13) rfl ?_
    show Steps p.tables e below (s₁.setTop (mkF m 15 #[.val (.ref a1), .val (.double (FP.l2d (((((0 : Int64) + q0) + q1) + q2) + q3))), .second, .val (.ref a1), .val (.int (5 : Int32)), .val (.int (4 : Int32)), .val (.double (FP.l2d q3)), .second] [(.int (5 : Int32)), (.int (4 : Int32))])) _
    refine XS.icmpNo X0.here hx rfl (hb hby d1_15) rfl (tlt (by decide : (4 : Int32) < (5 : Int32))).2.1 ?_
    show Steps p.tables e below (s₁.setTop (mkF m 18 #[.val (.ref a1), .val (.double (FP.l2d (((((0 : Int64) + q0) + q1) + q2) + q3))), .second, .val (.ref a1), .val (.int (5 : Int32)), .val (.int (4 : Int32)), .val (.double (FP.l2d q3)), .second] [])) _
    refine XS.aloadN X0.here hx rfl (hb hby d1_18) rfl rfl ?_
    show Steps p.tables e below (s₁.setTop (mkF m 19 #[.val (.ref a1), .val (.double (FP.l2d (((((0 : Int64) + q0) + q1) + q2) + q3))), .second, .val (.ref a1), .val (.int (5 : Int32)), .val (.int (4 : Int32)), .val (.double (FP.l2d q3)), .second] [(.ref a1)])) _
    refine XS.iload X0.here hx rfl (hb hby d1_19) rfl ?_
    show Steps p.tables e below (s₁.setTop (mkF m 21 #[.val (.ref a1), .val (.double (FP.l2d (((((0 : Int64) + q0) + q1) + q2) + q3))), .second, .val (.ref a1), .val (.int (5 : Int32)), .val (.int (4 : Int32)), .val (.double (FP.l2d q3)), .second] [(.int (4 : Int32)), (.ref a1)])) _
    refine own_ldD X0 hx hZ e0 A1 (j := (4 : Int32)) (x := (FP.l2d q4)) (by decide) rfl (g := (mkF m 21 #[.val (.ref a1), .val (.double (FP.l2d (((((0 : Int64) + q0) + q1) + q2) + q3))), .second, .val (.ref a1), .val (.int (5 : Int32)), .val (.int (4 : Int32)), .val (.double (FP.l2d q3)), .second] [(.int (4 : Int32)), (.ref a1)])) rfl rfl (hb hby d1_21) _ ?_
    show Steps p.tables e below (s₁.setTop (mkF m 22 #[.val (.ref a1), .val (.double (FP.l2d (((((0 : Int64) + q0) + q1) + q2) + q3))), .second, .val (.ref a1), .val (.int (5 : Int32)), .val (.int (4 : Int32)), .val (.double (FP.l2d q3)), .second] [(.double (FP.l2d q4))])) _
    refine XS.dstore X0.here hx rfl (hb hby d1_22) rfl (l' := #[.val (.ref a1), .val (.double (FP.l2d (((((0 : Int64) + q0) + q1) + q2) + q3))), .second, .val (.ref a1), .val (.int (5 : Int32)), .val (.int (4 : Int32)), .val (.double (FP.l2d q4)), .second]) rfl ?_
    show Steps p.tables e below (s₁.setTop (mkF m 24 #[.val (.ref a1), .val (.double (FP.l2d (((((0 : Int64) + q0) + q1) + q2) + q3))), .second, .val (.ref a1), .val (.int (5 : Int32)), .val (.int (4 : Int32)), .val (.double (FP.l2d q4)), .second] [])) _
    refine XS.dloadN X0.here hx rfl (hb hby d1_24) rfl ?_
    show Steps p.tables e below (s₁.setTop (mkF m 25 #[.val (.ref a1), .val (.double (FP.l2d (((((0 : Int64) + q0) + q1) + q2) + q3))), .second, .val (.ref a1), .val (.int (5 : Int32)), .val (.int (4 : Int32)), .val (.double (FP.l2d q4)), .second] [(.double (FP.l2d (((((0 : Int64) + q0) + q1) + q2) + q3)))])) _
    refine XS.dload X0.here hx rfl (hb hby d1_25) rfl ?_
    show Steps p.tables e below (s₁.setTop (mkF m 27 #[.val (.ref a1), .val (.double (FP.l2d (((((0 : Int64) + q0) + q1) + q2) + q3))), .second, .val (.ref a1), .val (.int (5 : Int32)), .val (.int (4 : Int32)), .val (.double (FP.l2d q4)), .second] [(.double (FP.l2d q4)), (.double (FP.l2d (((((0 : Int64) + q0) + q1) + q2) + q3)))])) _
    refine XS.daddS X0.here hx rfl (v := (FP.l2d ((((((0 : Int64) + q0) + q1) + q2) + q3) + q4))) (hb hby d1_27) rfl (nn_w (dadd_w (((((own_b0.add Bq0 (by decide)).add Bq1 (by decide)).add Bq2 (by decide)).add Bq3 (by decide)).b53 (by decide)) (Bq4.b53 (by decide)))) (dadd_w (((((own_b0.add Bq0 (by decide)).add Bq1 (by decide)).add Bq2 (by decide)).add Bq3 (by decide)).b53 (by decide)) (Bq4.b53 (by decide))) ?_
    show Steps p.tables e below (s₁.setTop (mkF m 28 #[.val (.ref a1), .val (.double (FP.l2d (((((0 : Int64) + q0) + q1) + q2) + q3))), .second, .val (.ref a1), .val (.int (5 : Int32)), .val (.int (4 : Int32)), .val (.double (FP.l2d q4)), .second] [(.double (FP.l2d ((((((0 : Int64) + q0) + q1) + q2) + q3) + q4)))])) _
    refine XS.dstoreN X0.here hx rfl (hb hby d1_28) rfl (l' := #[.val (.ref a1), .val (.double (FP.l2d ((((((0 : Int64) + q0) + q1) + q2) + q3) + q4))), .second, .val (.ref a1), .val (.int (5 : Int32)), .val (.int (4 : Int32)), .val (.double (FP.l2d q4)), .second]) rfl ?_
    show Steps p.tables e below (s₁.setTop (mkF m 29 #[.val (.ref a1), .val (.double (FP.l2d ((((((0 : Int64) + q0) + q1) + q2) + q3) + q4))), .second, .val (.ref a1), .val (.int (5 : Int32)), .val (.int (4 : Int32)), .val (.double (FP.l2d q4)), .second] [])) _
    refine XS.iinc X0.here hx rfl (hb hby d1_29) rfl (l' := #[.val (.ref a1), .val (.double (FP.l2d ((((((0 : Int64) + q0) + q1) + q2) + q3) + q4))), .second, .val (.ref a1), .val (.int (5 : Int32)), .val (.int (5 : Int32)), .val (.double (FP.l2d q4)), .second]) rfl ?_
    show Steps p.tables e below (s₁.setTop (mkF m 32 #[.val (.ref a1), .val (.double (FP.l2d ((((((0 : Int64) + q0) + q1) + q2) + q3) + q4))), .second, .val (.ref a1), .val (.int (5 : Int32)), .val (.int (5 : Int32)), .val (.double (FP.l2d q4)), .second] [])) _
    refine XS.goto X0.here hx rfl (pc0 := 32) (pc' := 11) rfl (hb hby d1_32) (by decide) (by decide) ?_
    show Steps p.tables e below (s₁.setTop (mkF m 11 #[.val (.ref a1), .val (.double (FP.l2d ((((((0 : Int64) + q0) + q1) + q2) + q3) + q4))), .second, .val (.ref a1), .val (.int (5 : Int32)), .val (.int (5 : Int32)), .val (.double (FP.l2d q4)), .second] [])) _
    refine XS.iload X0.here hx rfl (hb hby d1_11) rfl ?_
    show Steps p.tables e below (s₁.setTop (mkF m 13 #[.val (.ref a1), .val (.double (FP.l2d ((((((0 : Int64) + q0) + q1) + q2) + q3) + q4))), .second, .val (.ref a1), .val (.int (5 : Int32)), .val (.int (5 : Int32)), .val (.double (FP.l2d q4)), .second] [(.int (5 : Int32))])) _
    refine XS.iload X0.here hx rfl (hb hby d1_13) rfl ?_
    show Steps p.tables e below (s₁.setTop (mkF m 15 #[.val (.ref a1), .val (.double (FP.l2d ((((((0 : Int64) + q0) + q1) + q2) + q3) + q4))), .second, .val (.ref a1), .val (.int (5 : Int32)), .val (.int (5 : Int32)), .val (.double (FP.l2d q4)), .second] [(.int (5 : Int32)), (.int (5 : Int32))])) _
    refine XS.icmpYes X0.here hx rfl (pc0 := 15) (pc' := 35) rfl (hb hby d1_15) rfl (flt (by decide : ¬ ((5 : Int32) < (5 : Int32)))).2.1 (by decide) (by decide) ?_
    show Steps p.tables e below (s₁.setTop (mkF m 35 #[.val (.ref a1), .val (.double (FP.l2d ((((((0 : Int64) + q0) + q1) + q2) + q3) + q4))), .second, .val (.ref a1), .val (.int (5 : Int32)), .val (.int (5 : Int32)), .val (.double (FP.l2d q4)), .second] [])) _
    refine XS.dloadN X0.here hx rfl (hb hby d1_35) rfl ?_
    show Steps p.tables e below (s₁.setTop (mkF m 36 #[.val (.ref a1), .val (.double (FP.l2d ((((((0 : Int64) + q0) + q1) + q2) + q3) + q4))), .second, .val (.ref a1), .val (.int (5 : Int32)), .val (.int (5 : Int32)), .val (.double (FP.l2d q4)), .second] [(.double (FP.l2d ((((((0 : Int64) + q0) + q1) + q2) + q3) + q4)))])) _
    rw [← hzr]
    jvm_step X0.here [X0.here.top, hx, (hb hby d1_36), X0.method', Bd.returns, narrow]
    first | (intro acts; rw [hr _ acts rfl rfl rfl]) | rw [hr _ _ rfl rfl rfl]
    exact Steps.refl _
  · show QrmT5 Z a1 q0 q1 q2 q3 q4 h0 n0 _ s₁.heap _
    rw [e0]; subst hzr
    exact ⟨rfl, N0, rfl⟩
def Qrm0 (Z : State) (p1 p2 p3 p4 p5 p6 : Int32) (h0 : Heap) (n0 : Nat) (v : Option Value) (h : Heap) (L : List Loc) : Prop := v = some (.int 1) ∧ Fr n0 L
theorem pn_com_example_weir3_weir3_biology_BiomassMapTotalPinLaw : plainName "com/example/weir3/weir3/biology/BiomassMapTotalPinLaw" = true := by first | (simp [plainName, overriddenIn]; done) | decide +kernel
theorem pd__28_5bD_29D : parseMethodDescriptor "([D)D" = some ⟨[(.array .double)], some .double⟩ := by decide +kernel
theorem ef_rm0_0 (m : MethodId) (x0 : Int32) (x1 : Int32) (x2 : Int32) (x3 : Int32) (x4 : Int32) (x5 : Int32) : entryFrame m #[(.int x0), (.int x1), (.int x2), (.int x3), (.int x4), (.int x5)] maxLocals = mkF m 0 #[.val (.int x0), .val (.int x1), .val (.int x2), .val (.int x3), .val (.int x4), .val (.int x5), .unset, .unset, .unset, .unset, .unset, .unset] [] := by first | (simp [entryFrame, mkF, argsToLocals, Value.category, maxLocals]; done) | rfl
def Qrm0_0 (Z : State) (p1 p2 p3 p4 p5 p6 : Int32) (h0 : Heap) (n0 : Nat) (v : Option Value) (h : Heap) (L : List Loc) : Prop := Qrm0 Z p1 p2 p3 p4 p5 p6 h0 n0 v h L
set_option maxRecDepth 65536 in
set_option maxHeartbeats 40000000 in
theorem rm0_0 (l : Launch) (Z : State) (a0 : Array Value) (hw : ∀ d ∈ tables_1, d.before a0 Z = true) (ws : List Jvm.Cond) (p1 p2 p3 p4 p5 p6 : Int32) (h0 : Heap) (n0 : Nat) (Z0 : n0 ≤ h0.size) (hk : ((p6 &&& (2147483647 : Int32)) % (6 : Int32)) = (0 : Int32)) :
    MetFree l x (head1 (Jvm.Cond.code x code maxLocals ret :: ws) room_1) (fun a U => a = #[(.int p1), (.int p2), (.int p3), (.int p4), (.int p5), (.int p6)] ∧ Z.Warmed39 U.vm ∧ U.heap = h0) (fun _ _ _ _ _ => True) (fun _ U o U' => ∃ v L, o = .returned v ∧ Qrm0_0 Z p1 p2 p3 p4 p5 p6 h0 n0 v U'.heap L ∧ FrameEnd U o U' L room_1.cells room_1.slots) := by
  refine MetFree.of_bodySF (plainFor_of_name pn_com_example_weir3_weir3_biology_BiomassMapTotalPinLaw) hisR ?_
  intro p e s m args below meth c s₁ Bd hml0 hP hK
  obtain ⟨rfl, hZ, hh⟩ := hP
  have hx := Bd.exec
  have hby := Bd.bytes
  have hml : c.maxLocals = 12 := hml0
  have hown : s.vm.findClass "com/example/weir3/weir3/biology/BiomassMapTotalPinLaw" = some m.cls := findClass_of_methodNamed Bd.named
  have hnm := (name_of_methodNamed Bd.named Bd.method).1
  have X0 : Stand p l e room_1 s m #[(.int p1), (.int p2), (.int p3), (.int p4), (.int p5), (.int p6)] below meth c s₁ [] 0 0 := Stand.of_body Bd
  have e0 : s₁.heap = h0 := by rw [← hh, Bd.state]; rfl
  have N0 := Fr.nil n0
  have pre0 : ∀ t, Steps p.tables e below (s₁.setTop (mkF m 0 #[.val (.int p1), .val (.int p2), .val (.int p3), .val (.int p4), .val (.int p5), .val (.int p6), .unset, .unset, .unset, .unset, .unset, .unset] [])) t → Steps p.tables e below (s₁.setTop (entryFrame m #[(.int p1), (.int p2), (.int p3), (.int p4), (.int p5), (.int p6)] maxLocals)) t := fun t k => castTop (ef_rm0_0 m p1 p2 p3 p4 p5 p6) k
  obtain ⟨T1, h1, k1, X1, e1, E1, A1, st1⟩ := newP X0 hx hZ (hw _ (List.mem_of_getElem? (i := 1) rfl)) e0 (g := (mkF m 12 #[.val (.int p1), .val (.int p2), .val (.int p3), .val (.int p4), .val (.int p5), .val (.int p6), .val (.int (0 : Int32)), .unset, .unset, .unset, .unset, .unset] [(.int (0 : Int32))])) rfl (hb hby at_12) rfl (by decide) (cap := 0) (by decide) (by decide) (by decide) (by decide)
  obtain ⟨b1, g1⟩ : ∃ z, z = h0.size := ⟨_, rfl⟩
  rw [← g1] at A1 st1
  have g_b1 : n0 ≤ b1 := Nat.le_trans Z0 (Nat.le_of_eq g1.symm)
  have sz_b1 : h0.size ≤ b1 := (Nat.le_trans (Keep.refl h0 []).1 (Nat.le_of_eq g1.symm))
  have V1 : AR Z h1 b1 .double 0 (fun _ => (.double (FP.l2d (0 : Int64)))) := (AR.new A1 (by decide) rfl).eq (fun _ _ => congrArg Value.double l2d_zero)
  have K1 : Keep h0 h1 [] := (Keep.refl h0 []).ext E1
  have Z1 : n0 ≤ h1.size := Nat.le_trans Z0 E1.1
  obtain ⟨_, _, ⟨T2, L2, k2, n2⟩, -, X2, ⟨Lc2, hQ2, l2, y2, z2⟩, st2⟩ := Jvm.LawKit.callS X1 hx (y := (⟨"com/example/weir3/weir3/biology/BiomassMap", "total", "([D)D"⟩ : MethodName)) hown (mvT hZ (hw _ (List.mem_of_getElem? (i := 2) rfl))) (mvT hZ (hw _ (List.mem_of_getElem? (i := 3) rfl))) (mvT hZ (hw _ (List.mem_of_getElem? (i := 4) rfl))) (mvT hZ (hw _ (List.mem_of_getElem? (i := 5) rfl))) (by decide) (backOf (W := 0) (rmT0 l Z a0 hw [] b1  h1 n0 Z1  V1) hZ (hw _ (List.mem_of_getElem? (i := 5) rfl)) (hw _ (List.mem_of_getElem? (i := 4) rfl)) (by decide) (by decide)) (g := (mkF m 117 #[.val (.int p1), .val (.int p2), .val (.int p3), .val (.int p4), .val (.int p5), .val (.int p6), .val (.int (0 : Int32)), .val (.ref b1), .val (.long (0 : Int64)), .second, .unset, .unset] [(.ref b1)])) rfl (by rw [hml]; rfl) (argsL := [(.ref b1)]) (rest := []) (lenOf pd__28_5bD_29D rfl) rfl (by show 2 * 0 + _ ≤ _; exact Nat.le_of_eq rfl) (hb hby at_117) (fun _ _ => ⟨rfl, e1, (by decide : 1 + 0 ≤ _), (by decide : 0 + 0 ≤ _)⟩)
  dsimp only [Pt.U, Pt.locs, Pt.cells, Pt.slots] at X2 l2 y2 z2 st2 hQ2
  subst l2 y2 z2
  obtain ⟨rfl, N2q, e2⟩ := hQ2
  have N2 := Fr.app N0 N2q
  obtain ⟨fs, hr, hrun, hended, hW, hsame⟩ := X2.leave (v := some (.int (1 : Int32))) (fun h => by rw [Bd.returns] at h; cases h)
  refine ⟨_, _, pre0 _ (?_), hrun, hended, _, _, rfl, ?_, ⟨_, rfl⟩, hW, hsame.mono (by decide) (by decide)⟩
  · show Steps p.tables e below (s₁.setTop (mkF m 0 #[.val (.int p1), .val (.int p2), .val (.int p3), .val (.int p4), .val (.int p5), .val (.int p6), .unset, .unset, .unset, .unset, .unset, .unset] [])) _
    refine XS.iload X0.here hx rfl (hb hby at_0) rfl ?_
    show Steps p.tables e below (s₁.setTop (mkF m 2 #[.val (.int p1), .val (.int p2), .val (.int p3), .val (.int p4), .val (.int p5), .val (.int p6), .unset, .unset, .unset, .unset, .unset, .unset] [(.int p6)])) _
    refine X0.ldcInt hx hown (mvT hZ (hw _ (List.mem_of_getElem? (i := 0) rfl))) (g := (mkF m 2 #[.val (.int p1), .val (.int p2), .val (.int p3), .val (.int p4), .val (.int p5), .val (.int p6), .unset, .unset, .unset, .unset, .unset, .unset] [(.int p6)])) rfl (hb hby at_2) _ ?_
    show Steps p.tables e below (s₁.setTop (mkF m 4 #[.val (.int p1), .val (.int p2), .val (.int p3), .val (.int p4), .val (.int p5), .val (.int p6), .unset, .unset, .unset, .unset, .unset, .unset] [(.int (2147483647 : Int32)), (.int p6)])) _
    refine XS.iand X0.here hx rfl (hb hby at_4) rfl ?_
    show Steps p.tables e below (s₁.setTop (mkF m 5 #[.val (.int p1), .val (.int p2), .val (.int p3), .val (.int p4), .val (.int p5), .val (.int p6), .unset, .unset, .unset, .unset, .unset, .unset] [(.int (p6 &&& (2147483647 : Int32)))])) _
    refine XS.bipush X0.here hx rfl (hb hby at_5) ?_
    show Steps p.tables e below (s₁.setTop (mkF m 7 #[.val (.int p1), .val (.int p2), .val (.int p3), .val (.int p4), .val (.int p5), .val (.int p6), .unset, .unset, .unset, .unset, .unset, .unset] [(.int (6 : Int32)), (.int (p6 &&& (2147483647 : Int32)))])) _
    refine Jvm.RoadKit.iremM (g := (mkF m 7 #[.val (.int p1), .val (.int p2), .val (.int p3), .val (.int p4), .val (.int p5), .val (.int p6), .unset, .unset, .unset, .unset, .unset, .unset] [(.int (6 : Int32)), (.int (p6 &&& (2147483647 : Int32)))])) X0 hx rfl (hb hby at_7) rfl (by decide) ?_
    show Steps p.tables e below (s₁.setTop (mkF m 8 #[.val (.int p1), .val (.int p2), .val (.int p3), .val (.int p4), .val (.int p5), .val (.int p6), .unset, .unset, .unset, .unset, .unset, .unset] [(.int ((p6 &&& (2147483647 : Int32)) % (6 : Int32)))])) _
    refine XS.istore X0.here hx rfl (hb hby at_8) rfl (l' := #[.val (.int p1), .val (.int p2), .val (.int p3), .val (.int p4), .val (.int p5), .val (.int p6), .val (.int ((p6 &&& (2147483647 : Int32)) % (6 : Int32))), .unset, .unset, .unset, .unset, .unset]) rfl ?_
    show Steps p.tables e below (s₁.setTop (mkF m 10 #[.val (.int p1), .val (.int p2), .val (.int p3), .val (.int p4), .val (.int p5), .val (.int p6), .val (.int ((p6 &&& (2147483647 : Int32)) % (6 : Int32))), .unset, .unset, .unset, .unset, .unset] [])) _
    rw [hk]
    show Steps p.tables e below (s₁.setTop (mkF m 10 #[.val (.int p1), .val (.int p2), .val (.int p3), .val (.int p4), .val (.int p5), .val (.int p6), .val (.int (0 : Int32)), .unset, .unset, .unset, .unset, .unset] [])) _
    refine XS.iload X0.here hx rfl (hb hby at_10) rfl ?_
    show Steps p.tables e below (s₁.setTop (mkF m 12 #[.val (.int p1), .val (.int p2), .val (.int p3), .val (.int p4), .val (.int p5), .val (.int p6), .val (.int (0 : Int32)), .unset, .unset, .unset, .unset, .unset] [(.int (0 : Int32))])) _
    refine st1 _ ?_
    show Steps p.tables e below (T1.setTop (mkF m 14 #[.val (.int p1), .val (.int p2), .val (.int p3), .val (.int p4), .val (.int p5), .val (.int p6), .val (.int (0 : Int32)), .unset, .unset, .unset, .unset, .unset] [(.ref b1)])) _
    refine XS.astore X1.here hx rfl (hb hby at_14) rfl rfl (l' := #[.val (.int p1), .val (.int p2), .val (.int p3), .val (.int p4), .val (.int p5), .val (.int p6), .val (.int (0 : Int32)), .val (.ref b1), .unset, .unset, .unset, .unset]) rfl ?_
    show Steps p.tables e below (T1.setTop (mkF m 16 #[.val (.int p1), .val (.int p2), .val (.int p3), .val (.int p4), .val (.int p5), .val (.int p6), .val (.int (0 : Int32)), .val (.ref b1), .unset, .unset, .unset, .unset] [])) _
    refine XS.lconst X1.here hx rfl (hb hby at_16) ?_
    show Steps p.tables e below (T1.setTop (mkF m 17 #[.val (.int p1), .val (.int p2), .val (.int p3), .val (.int p4), .val (.int p5), .val (.int p6), .val (.int (0 : Int32)), .val (.ref b1), .unset, .unset, .unset, .unset] [(.long (0 : Int64))])) _
    refine XS.lstore X1.here hx rfl (hb hby at_17) rfl (l' := #[.val (.int p1), .val (.int p2), .val (.int p3), .val (.int p4), .val (.int p5), .val (.int p6), .val (.int (0 : Int32)), .val (.ref b1), .val (.long (0 : Int64)), .second, .unset, .unset]) rfl ?_
    show Steps p.tables e below (T1.setTop (mkF m 19 #[.val (.int p1), .val (.int p2), .val (.int p3), .val (.int p4), .val (.int p5), .val (.int p6), .val (.int (0 : Int32)), .val (.ref b1), .val (.long (0 : Int64)), .second, .unset, .unset] [])) _
    refine XS.iload X1.here hx rfl (hb hby at_19) rfl ?_
    show Steps p.tables e below (T1.setTop (mkF m 21 #[.val (.int p1), .val (.int p2), .val (.int p3), .val (.int p4), .val (.int p5), .val (.int p6), .val (.int (0 : Int32)), .val (.ref b1), .val (.long (0 : Int64)), .second, .unset, .unset] [(.int (0 : Int32))])) _
    refine XS.ifYes X1.here hx rfl (pc0 := 21) (pc' := 37) rfl (hb hby at_21) rfl ((if0 _ _).trans (flt (by decide : ¬ ((0 : Int32) < (0 : Int32)))).2.2.2) (by decide) (by decide) ?_
    show Steps p.tables e below (T1.setTop (mkF m 37 #[.val (.int p1), .val (.int p2), .val (.int p3), .val (.int p4), .val (.int p5), .val (.int p6), .val (.int (0 : Int32)), .val (.ref b1), .val (.long (0 : Int64)), .second, .unset, .unset] [])) _
    refine XS.iload X1.here hx rfl (hb hby at_37) rfl ?_
    show Steps p.tables e below (T1.setTop (mkF m 39 #[.val (.int p1), .val (.int p2), .val (.int p3), .val (.int p4), .val (.int p5), .val (.int p6), .val (.int (0 : Int32)), .val (.ref b1), .val (.long (0 : Int64)), .second, .unset, .unset] [(.int (0 : Int32))])) _
    refine XS.iconst X1.here hx rfl (hb hby at_39) ?_
    show Steps p.tables e below (T1.setTop (mkF m 40 #[.val (.int p1), .val (.int p2), .val (.int p3), .val (.int p4), .val (.int p5), .val (.int p6), .val (.int (0 : Int32)), .val (.ref b1), .val (.long (0 : Int64)), .second, .unset, .unset] [(.int (1 : Int32)), (.int (0 : Int32))])) _
    refine XS.icmpYes X1.here hx rfl (pc0 := 40) (pc' := 56) rfl (hb hby at_40) rfl (flt (by decide : ¬ ((1 : Int32) < (0 : Int32)))).2.2.2 (by decide) (by decide) ?_
    show Steps p.tables e below (T1.setTop (mkF m 56 #[.val (.int p1), .val (.int p2), .val (.int p3), .val (.int p4), .val (.int p5), .val (.int p6), .val (.int (0 : Int32)), .val (.ref b1), .val (.long (0 : Int64)), .second, .unset, .unset] [])) _
    refine XS.iload X1.here hx rfl (hb hby at_56) rfl ?_
    show Steps p.tables e below (T1.setTop (mkF m 58 #[.val (.int p1), .val (.int p2), .val (.int p3), .val (.int p4), .val (.int p5), .val (.int p6), .val (.int (0 : Int32)), .val (.ref b1), .val (.long (0 : Int64)), .second, .unset, .unset] [(.int (0 : Int32))])) _
    refine XS.iconst X1.here hx rfl (hb hby at_58) ?_
    show Steps p.tables e below (T1.setTop (mkF m 59 #[.val (.int p1), .val (.int p2), .val (.int p3), .val (.int p4), .val (.int p5), .val (.int p6), .val (.int (0 : Int32)), .val (.ref b1), .val (.long (0 : Int64)), .second, .unset, .unset] [(.int (2 : Int32)), (.int (0 : Int32))])) _
    refine XS.icmpYes X1.here hx rfl (pc0 := 59) (pc' := 75) rfl (hb hby at_59) rfl (flt (by decide : ¬ ((2 : Int32) < (0 : Int32)))).2.2.2 (by decide) (by decide) ?_
    show Steps p.tables e below (T1.setTop (mkF m 75 #[.val (.int p1), .val (.int p2), .val (.int p3), .val (.int p4), .val (.int p5), .val (.int p6), .val (.int (0 : Int32)), .val (.ref b1), .val (.long (0 : Int64)), .second, .unset, .unset] [])) _
    refine XS.iload X1.here hx rfl (hb hby at_75) rfl ?_
    show Steps p.tables e below (T1.setTop (mkF m 77 #[.val (.int p1), .val (.int p2), .val (.int p3), .val (.int p4), .val (.int p5), .val (.int p6), .val (.int (0 : Int32)), .val (.ref b1), .val (.long (0 : Int64)), .second, .unset, .unset] [(.int (0 : Int32))])) _
    refine XS.iconst X1.here hx rfl (hb hby at_77) ?_
    show Steps p.tables e below (T1.setTop (mkF m 78 #[.val (.int p1), .val (.int p2), .val (.int p3), .val (.int p4), .val (.int p5), .val (.int p6), .val (.int (0 : Int32)), .val (.ref b1), .val (.long (0 : Int64)), .second, .unset, .unset] [(.int (3 : Int32)), (.int (0 : Int32))])) _
    refine XS.icmpYes X1.here hx rfl (pc0 := 78) (pc' := 94) rfl (hb hby at_78) rfl (flt (by decide : ¬ ((3 : Int32) < (0 : Int32)))).2.2.2 (by decide) (by decide) ?_
    show Steps p.tables e below (T1.setTop (mkF m 94 #[.val (.int p1), .val (.int p2), .val (.int p3), .val (.int p4), .val (.int p5), .val (.int p6), .val (.int (0 : Int32)), .val (.ref b1), .val (.long (0 : Int64)), .second, .unset, .unset] [])) _
    refine XS.iload X1.here hx rfl (hb hby at_94) rfl ?_
    show Steps p.tables e below (T1.setTop (mkF m 96 #[.val (.int p1), .val (.int p2), .val (.int p3), .val (.int p4), .val (.int p5), .val (.int p6), .val (.int (0 : Int32)), .val (.ref b1), .val (.long (0 : Int64)), .second, .unset, .unset] [(.int (0 : Int32))])) _
    refine XS.iconst X1.here hx rfl (hb hby at_96) ?_
    show Steps p.tables e below (T1.setTop (mkF m 97 #[.val (.int p1), .val (.int p2), .val (.int p3), .val (.int p4), .val (.int p5), .val (.int p6), .val (.int (0 : Int32)), .val (.ref b1), .val (.long (0 : Int64)), .second, .unset, .unset] [(.int (4 : Int32)), (.int (0 : Int32))])) _
    refine XS.icmpYes X1.here hx rfl (pc0 := 97) (pc' := 115) rfl (hb hby at_97) rfl (flt (by decide : ¬ ((4 : Int32) < (0 : Int32)))).2.2.2 (by decide) (by decide) ?_
    show Steps p.tables e below (T1.setTop (mkF m 115 #[.val (.int p1), .val (.int p2), .val (.int p3), .val (.int p4), .val (.int p5), .val (.int p6), .val (.int (0 : Int32)), .val (.ref b1), .val (.long (0 : Int64)), .second, .unset, .unset] [])) _
    refine XS.aload X1.here hx rfl (hb hby at_115) rfl rfl ?_
    show Steps p.tables e below (T1.setTop (mkF m 117 #[.val (.int p1), .val (.int p2), .val (.int p3), .val (.int p4), .val (.int p5), .val (.int p6), .val (.int (0 : Int32)), .val (.ref b1), .val (.long (0 : Int64)), .second, .unset, .unset] [(.ref b1)])) _
    refine st2 _ ?_
    show Steps p.tables e below (T2.setTop (mkF m 120 #[.val (.int p1), .val (.int p2), .val (.int p3), .val (.int p4), .val (.int p5), .val (.int p6), .val (.int (0 : Int32)), .val (.ref b1), .val (.long (0 : Int64)), .second, .unset, .unset] [(.double (FP.l2d (0 : Int64)))])) _
    refine XS.dstore X2.here hx rfl (hb hby at_120) rfl (l' := #[.val (.int p1), .val (.int p2), .val (.int p3), .val (.int p4), .val (.int p5), .val (.int p6), .val (.int (0 : Int32)), .val (.ref b1), .val (.long (0 : Int64)), .second, .val (.double (FP.l2d (0 : Int64))), .second]) rfl ?_
    show Steps p.tables e below (T2.setTop (mkF m 122 #[.val (.int p1), .val (.int p2), .val (.int p3), .val (.int p4), .val (.int p5), .val (.int p6), .val (.int (0 : Int32)), .val (.ref b1), .val (.long (0 : Int64)), .second, .val (.double (FP.l2d (0 : Int64))), .second] [])) _
    refine XS.dload X2.here hx rfl (hb hby at_122) rfl ?_
    show Steps p.tables e below (T2.setTop (mkF m 124 #[.val (.int p1), .val (.int p2), .val (.int p3), .val (.int p4), .val (.int p5), .val (.int p6), .val (.int (0 : Int32)), .val (.ref b1), .val (.long (0 : Int64)), .second, .val (.double (FP.l2d (0 : Int64))), .second] [(.double (FP.l2d (0 : Int64)))])) _
    refine XS.lload X2.here hx rfl (hb hby at_124) rfl ?_
    show Steps p.tables e below (T2.setTop (mkF m 126 #[.val (.int p1), .val (.int p2), .val (.int p3), .val (.int p4), .val (.int p5), .val (.int p6), .val (.int (0 : Int32)), .val (.ref b1), .val (.long (0 : Int64)), .second, .val (.double (FP.l2d (0 : Int64))), .second] [(.long (0 : Int64)), (.double (FP.l2d (0 : Int64)))])) _
    refine XS.l2dS X2.here hx rfl (v := (FP.l2d (0 : Int64))) (hb hby at_126) rfl rfl ?_
    show Steps p.tables e below (T2.setTop (mkF m 127 #[.val (.int p1), .val (.int p2), .val (.int p3), .val (.int p4), .val (.int p5), .val (.int p6), .val (.int (0 : Int32)), .val (.ref b1), .val (.long (0 : Int64)), .second, .val (.double (FP.l2d (0 : Int64))), .second] [(.double (FP.l2d (0 : Int64))), (.double (FP.l2d (0 : Int64)))])) _
    refine XS.dcmpS X2.here hx rfl (v := (lcmpW (0 : Int64) (0 : Int64))) (hb hby at_127) rfl (dcmpV_w (own_b0.b53 (by decide)) (own_b0.b53 (by decide)) _) ?_
    show Steps p.tables e below (T2.setTop (mkF m 128 #[.val (.int p1), .val (.int p2), .val (.int p3), .val (.int p4), .val (.int p5), .val (.int p6), .val (.int (0 : Int32)), .val (.ref b1), .val (.long (0 : Int64)), .second, .val (.double (FP.l2d (0 : Int64))), .second] [(.int (lcmpW (0 : Int64) (0 : Int64)))])) _
    refine XS.ifNo X2.here hx rfl (hb hby at_128) rfl ((if0 _ _).trans (teq (own_lcmp _ : (lcmpW (0 : Int64) (0 : Int64)) = (0 : Int32))).2) ?_
    show Steps p.tables e below (T2.setTop (mkF m 131 #[.val (.int p1), .val (.int p2), .val (.int p3), .val (.int p4), .val (.int p5), .val (.int p6), .val (.int (0 : Int32)), .val (.ref b1), .val (.long (0 : Int64)), .second, .val (.double (FP.l2d (0 : Int64))), .second] [])) _
    refine XS.iconst X2.here hx rfl (hb hby at_131) ?_
    show Steps p.tables e below (T2.setTop (mkF m 132 #[.val (.int p1), .val (.int p2), .val (.int p3), .val (.int p4), .val (.int p5), .val (.int p6), .val (.int (0 : Int32)), .val (.ref b1), .val (.long (0 : Int64)), .second, .val (.double (FP.l2d (0 : Int64))), .second] [(.int (1 : Int32))])) _
    refine XS.goto X2.here hx rfl (pc0 := 132) (pc' := 136) rfl (hb hby at_132) (by decide) (by decide) ?_
    show Steps p.tables e below (T2.setTop (mkF m 136 #[.val (.int p1), .val (.int p2), .val (.int p3), .val (.int p4), .val (.int p5), .val (.int p6), .val (.int (0 : Int32)), .val (.ref b1), .val (.long (0 : Int64)), .second, .val (.double (FP.l2d (0 : Int64))), .second] [(.int (1 : Int32))])) _
    exact retN X2 hx (t := .boolean) Bd.returns (by simp) (hb hby at_136) hr
  · show Qrm0_0 Z p1 p2 p3 p4 p5 p6 h0 n0 _ T2.heap _
    rw [e2]
    exact ⟨rfl, N2⟩
theorem ef_rm0_1 (m : MethodId) (x0 : Int32) (x1 : Int32) (x2 : Int32) (x3 : Int32) (x4 : Int32) (x5 : Int32) : entryFrame m #[(.int x0), (.int x1), (.int x2), (.int x3), (.int x4), (.int x5)] maxLocals = mkF m 0 #[.val (.int x0), .val (.int x1), .val (.int x2), .val (.int x3), .val (.int x4), .val (.int x5), .unset, .unset, .unset, .unset, .unset, .unset] [] := by first | (simp [entryFrame, mkF, argsToLocals, Value.category, maxLocals]; done) | rfl
def Qrm0_1 (Z : State) (p1 p2 p3 p4 p5 p6 : Int32) (h0 : Heap) (n0 : Nat) (v : Option Value) (h : Heap) (L : List Loc) : Prop := Qrm0 Z p1 p2 p3 p4 p5 p6 h0 n0 v h L
set_option maxRecDepth 65536 in
set_option maxHeartbeats 40000000 in
theorem rm0_1 (l : Launch) (Z : State) (a0 : Array Value) (hw : ∀ d ∈ tables_1, d.before a0 Z = true) (ws : List Jvm.Cond) (p1 p2 p3 p4 p5 p6 : Int32) (h0 : Heap) (n0 : Nat) (Z0 : n0 ≤ h0.size) (hk : ((p6 &&& (2147483647 : Int32)) % (6 : Int32)) = (1 : Int32)) :
    MetFree l x (head1 (Jvm.Cond.code x code maxLocals ret :: ws) room_1) (fun a U => a = #[(.int p1), (.int p2), (.int p3), (.int p4), (.int p5), (.int p6)] ∧ Z.Warmed39 U.vm ∧ U.heap = h0) (fun _ _ _ _ _ => True) (fun _ U o U' => ∃ v L, o = .returned v ∧ Qrm0_1 Z p1 p2 p3 p4 p5 p6 h0 n0 v U'.heap L ∧ FrameEnd U o U' L room_1.cells room_1.slots) := by
  refine MetFree.of_bodySF (plainFor_of_name pn_com_example_weir3_weir3_biology_BiomassMapTotalPinLaw) hisR ?_
  intro p e s m args below meth c s₁ Bd hml0 hP hK
  obtain ⟨rfl, hZ, hh⟩ := hP
  have hx := Bd.exec
  have hby := Bd.bytes
  have hml : c.maxLocals = 12 := hml0
  have hown : s.vm.findClass "com/example/weir3/weir3/biology/BiomassMapTotalPinLaw" = some m.cls := findClass_of_methodNamed Bd.named
  have hnm := (name_of_methodNamed Bd.named Bd.method).1
  have X0 : Stand p l e room_1 s m #[(.int p1), (.int p2), (.int p3), (.int p4), (.int p5), (.int p6)] below meth c s₁ [] 0 0 := Stand.of_body Bd
  have e0 : s₁.heap = h0 := by rw [← hh, Bd.state]; rfl
  have N0 := Fr.nil n0
  have pre0 : ∀ t, Steps p.tables e below (s₁.setTop (mkF m 0 #[.val (.int p1), .val (.int p2), .val (.int p3), .val (.int p4), .val (.int p5), .val (.int p6), .unset, .unset, .unset, .unset, .unset, .unset] [])) t → Steps p.tables e below (s₁.setTop (entryFrame m #[(.int p1), (.int p2), (.int p3), (.int p4), (.int p5), (.int p6)] maxLocals)) t := fun t k => castTop (ef_rm0_1 m p1 p2 p3 p4 p5 p6) k
  obtain ⟨T1, h1, k1, X1, e1, E1, A1, st1⟩ := newP X0 hx hZ (hw _ (List.mem_of_getElem? (i := 1) rfl)) e0 (g := (mkF m 12 #[.val (.int p1), .val (.int p2), .val (.int p3), .val (.int p4), .val (.int p5), .val (.int p6), .val (.int (1 : Int32)), .unset, .unset, .unset, .unset, .unset] [(.int (1 : Int32))])) rfl (hb hby at_12) rfl (by decide) (cap := 1) (by decide) (by decide) (by decide) (by decide)
  obtain ⟨b1, g1⟩ : ∃ z, z = h0.size := ⟨_, rfl⟩
  rw [← g1] at A1 st1
  have g_b1 : n0 ≤ b1 := Nat.le_trans Z0 (Nat.le_of_eq g1.symm)
  have sz_b1 : h0.size ≤ b1 := (Nat.le_trans (Keep.refl h0 []).1 (Nat.le_of_eq g1.symm))
  have V1 : AR Z h1 b1 .double 1 (fun _ => (.double (FP.l2d (0 : Int64)))) := (AR.new A1 (by decide) rfl).eq (fun _ _ => congrArg Value.double l2d_zero)
  have K1 : Keep h0 h1 [] := (Keep.refl h0 []).ext E1
  have Z1 : n0 ≤ h1.size := Nat.le_trans Z0 E1.1
  obtain ⟨T2, h2, X2, e2, W2, V2, st2⟩ := own_stD X1 hx hZ e1 V1 (j := (0 : Int32)) (by decide) (g := (mkF m 29 #[.val (.int p1), .val (.int p2), .val (.int p3), .val (.int p4), .val (.int p5), .val (.int p6), .val (.int (1 : Int32)), .val (.ref b1), .val (.long (0 : Int64)), .second, .unset, .unset] [(.double (FP.l2d p1.toInt64)), (.int (0 : Int32)), (.ref b1)])) rfl rfl (hb hby at_29)
  have K2 : Keep h0 h2 [] := K1.wr W2 (Or.inr sz_b1)
  have N2 := Fr.snoc X2 N0 g_b1
  have Z2 : n0 ≤ h2.size := Nat.le_trans Z1 (Keep.of_wr W2).1
  obtain ⟨_, _, ⟨T3, L3, k3, n3⟩, -, X3, ⟨Lc3, hQ3, l3, y3, z3⟩, st3⟩ := Jvm.LawKit.callS X2 hx (y := (⟨"com/example/weir3/weir3/biology/BiomassMap", "total", "([D)D"⟩ : MethodName)) hown (mvT hZ (hw _ (List.mem_of_getElem? (i := 2) rfl))) (mvT hZ (hw _ (List.mem_of_getElem? (i := 3) rfl))) (mvT hZ (hw _ (List.mem_of_getElem? (i := 4) rfl))) (mvT hZ (hw _ (List.mem_of_getElem? (i := 5) rfl))) (by decide) (backOf (W := 0) (rmT1 l Z a0 hw [] b1 p1.toInt64 h2 n0 Z2 (BB.i32 _) V2) hZ (hw _ (List.mem_of_getElem? (i := 5) rfl)) (hw _ (List.mem_of_getElem? (i := 4) rfl)) (by decide) (by decide)) (g := (mkF m 117 #[.val (.int p1), .val (.int p2), .val (.int p3), .val (.int p4), .val (.int p5), .val (.int p6), .val (.int (1 : Int32)), .val (.ref b1), .val (.long ((0 : Int64) + (p1.toInt64))), .second, .unset, .unset] [(.ref b1)])) rfl (by rw [hml]; rfl) (argsL := [(.ref b1)]) (rest := []) (lenOf pd__28_5bD_29D rfl) rfl (by show 2 * 0 + _ ≤ _; exact Nat.le_of_eq rfl) (hb hby at_117) (fun _ _ => ⟨rfl, e2, (by decide : 1 + 0 ≤ _), (by decide : 1 + 0 ≤ _)⟩)
  dsimp only [Pt.U, Pt.locs, Pt.cells, Pt.slots] at X3 l3 y3 z3 st3 hQ3
  subst l3 y3 z3
  obtain ⟨rfl, N3q, e3⟩ := hQ3
  have N3 := Fr.app N2 N3q
  obtain ⟨fs, hr, hrun, hended, hW, hsame⟩ := X3.leave (v := some (.int (1 : Int32))) (fun h => by rw [Bd.returns] at h; cases h)
  refine ⟨_, _, pre0 _ (?_), hrun, hended, _, _, rfl, ?_, ⟨_, rfl⟩, hW, hsame.mono (by decide) (by decide)⟩
  · show Steps p.tables e below (s₁.setTop (mkF m 0 #[.val (.int p1), .val (.int p2), .val (.int p3), .val (.int p4), .val (.int p5), .val (.int p6), .unset, .unset, .unset, .unset, .unset, .unset] [])) _
    refine XS.iload X0.here hx rfl (hb hby at_0) rfl ?_
    show Steps p.tables e below (s₁.setTop (mkF m 2 #[.val (.int p1), .val (.int p2), .val (.int p3), .val (.int p4), .val (.int p5), .val (.int p6), .unset, .unset, .unset, .unset, .unset, .unset] [(.int p6)])) _
    refine X0.ldcInt hx hown (mvT hZ (hw _ (List.mem_of_getElem? (i := 0) rfl))) (g := (mkF m 2 #[.val (.int p1), .val (.int p2), .val (.int p3), .val (.int p4), .val (.int p5), .val (.int p6), .unset, .unset, .unset, .unset, .unset, .unset] [(.int p6)])) rfl (hb hby at_2) _ ?_
    show Steps p.tables e below (s₁.setTop (mkF m 4 #[.val (.int p1), .val (.int p2), .val (.int p3), .val (.int p4), .val (.int p5), .val (.int p6), .unset, .unset, .unset, .unset, .unset, .unset] [(.int (2147483647 : Int32)), (.int p6)])) _
    refine XS.iand X0.here hx rfl (hb hby at_4) rfl ?_
    show Steps p.tables e below (s₁.setTop (mkF m 5 #[.val (.int p1), .val (.int p2), .val (.int p3), .val (.int p4), .val (.int p5), .val (.int p6), .unset, .unset, .unset, .unset, .unset, .unset] [(.int (p6 &&& (2147483647 : Int32)))])) _
    refine XS.bipush X0.here hx rfl (hb hby at_5) ?_
    show Steps p.tables e below (s₁.setTop (mkF m 7 #[.val (.int p1), .val (.int p2), .val (.int p3), .val (.int p4), .val (.int p5), .val (.int p6), .unset, .unset, .unset, .unset, .unset, .unset] [(.int (6 : Int32)), (.int (p6 &&& (2147483647 : Int32)))])) _
    refine Jvm.RoadKit.iremM (g := (mkF m 7 #[.val (.int p1), .val (.int p2), .val (.int p3), .val (.int p4), .val (.int p5), .val (.int p6), .unset, .unset, .unset, .unset, .unset, .unset] [(.int (6 : Int32)), (.int (p6 &&& (2147483647 : Int32)))])) X0 hx rfl (hb hby at_7) rfl (by decide) ?_
    show Steps p.tables e below (s₁.setTop (mkF m 8 #[.val (.int p1), .val (.int p2), .val (.int p3), .val (.int p4), .val (.int p5), .val (.int p6), .unset, .unset, .unset, .unset, .unset, .unset] [(.int ((p6 &&& (2147483647 : Int32)) % (6 : Int32)))])) _
    refine XS.istore X0.here hx rfl (hb hby at_8) rfl (l' := #[.val (.int p1), .val (.int p2), .val (.int p3), .val (.int p4), .val (.int p5), .val (.int p6), .val (.int ((p6 &&& (2147483647 : Int32)) % (6 : Int32))), .unset, .unset, .unset, .unset, .unset]) rfl ?_
    show Steps p.tables e below (s₁.setTop (mkF m 10 #[.val (.int p1), .val (.int p2), .val (.int p3), .val (.int p4), .val (.int p5), .val (.int p6), .val (.int ((p6 &&& (2147483647 : Int32)) % (6 : Int32))), .unset, .unset, .unset, .unset, .unset] [])) _
    rw [hk]
    show Steps p.tables e below (s₁.setTop (mkF m 10 #[.val (.int p1), .val (.int p2), .val (.int p3), .val (.int p4), .val (.int p5), .val (.int p6), .val (.int (1 : Int32)), .unset, .unset, .unset, .unset, .unset] [])) _
    refine XS.iload X0.here hx rfl (hb hby at_10) rfl ?_
    show Steps p.tables e below (s₁.setTop (mkF m 12 #[.val (.int p1), .val (.int p2), .val (.int p3), .val (.int p4), .val (.int p5), .val (.int p6), .val (.int (1 : Int32)), .unset, .unset, .unset, .unset, .unset] [(.int (1 : Int32))])) _
    refine st1 _ ?_
    show Steps p.tables e below (T1.setTop (mkF m 14 #[.val (.int p1), .val (.int p2), .val (.int p3), .val (.int p4), .val (.int p5), .val (.int p6), .val (.int (1 : Int32)), .unset, .unset, .unset, .unset, .unset] [(.ref b1)])) _
    refine XS.astore X1.here hx rfl (hb hby at_14) rfl rfl (l' := #[.val (.int p1), .val (.int p2), .val (.int p3), .val (.int p4), .val (.int p5), .val (.int p6), .val (.int (1 : Int32)), .val (.ref b1), .unset, .unset, .unset, .unset]) rfl ?_
    show Steps p.tables e below (T1.setTop (mkF m 16 #[.val (.int p1), .val (.int p2), .val (.int p3), .val (.int p4), .val (.int p5), .val (.int p6), .val (.int (1 : Int32)), .val (.ref b1), .unset, .unset, .unset, .unset] [])) _
    refine XS.lconst X1.here hx rfl (hb hby at_16) ?_
    show Steps p.tables e below (T1.setTop (mkF m 17 #[.val (.int p1), .val (.int p2), .val (.int p3), .val (.int p4), .val (.int p5), .val (.int p6), .val (.int (1 : Int32)), .val (.ref b1), .unset, .unset, .unset, .unset] [(.long (0 : Int64))])) _
    refine XS.lstore X1.here hx rfl (hb hby at_17) rfl (l' := #[.val (.int p1), .val (.int p2), .val (.int p3), .val (.int p4), .val (.int p5), .val (.int p6), .val (.int (1 : Int32)), .val (.ref b1), .val (.long (0 : Int64)), .second, .unset, .unset]) rfl ?_
    show Steps p.tables e below (T1.setTop (mkF m 19 #[.val (.int p1), .val (.int p2), .val (.int p3), .val (.int p4), .val (.int p5), .val (.int p6), .val (.int (1 : Int32)), .val (.ref b1), .val (.long (0 : Int64)), .second, .unset, .unset] [])) _
    refine XS.iload X1.here hx rfl (hb hby at_19) rfl ?_
    show Steps p.tables e below (T1.setTop (mkF m 21 #[.val (.int p1), .val (.int p2), .val (.int p3), .val (.int p4), .val (.int p5), .val (.int p6), .val (.int (1 : Int32)), .val (.ref b1), .val (.long (0 : Int64)), .second, .unset, .unset] [(.int (1 : Int32))])) _
    refine XS.ifNo X1.here hx rfl (hb hby at_21) rfl ((if0 _ _).trans (tlt (by decide : (0 : Int32) < (1 : Int32))).2.2.2) ?_
    show Steps p.tables e below (T1.setTop (mkF m 24 #[.val (.int p1), .val (.int p2), .val (.int p3), .val (.int p4), .val (.int p5), .val (.int p6), .val (.int (1 : Int32)), .val (.ref b1), .val (.long (0 : Int64)), .second, .unset, .unset] [])) _
    refine XS.aload X1.here hx rfl (hb hby at_24) rfl rfl ?_
    show Steps p.tables e below (T1.setTop (mkF m 26 #[.val (.int p1), .val (.int p2), .val (.int p3), .val (.int p4), .val (.int p5), .val (.int p6), .val (.int (1 : Int32)), .val (.ref b1), .val (.long (0 : Int64)), .second, .unset, .unset] [(.ref b1)])) _
    refine XS.iconst X1.here hx rfl (hb hby at_26) ?_
    show Steps p.tables e below (T1.setTop (mkF m 27 #[.val (.int p1), .val (.int p2), .val (.int p3), .val (.int p4), .val (.int p5), .val (.int p6), .val (.int (1 : Int32)), .val (.ref b1), .val (.long (0 : Int64)), .second, .unset, .unset] [(.int (0 : Int32)), (.ref b1)])) _
    refine XS.iloadN X1.here hx rfl (hb hby at_27) rfl ?_
    show Steps p.tables e below (T1.setTop (mkF m 28 #[.val (.int p1), .val (.int p2), .val (.int p3), .val (.int p4), .val (.int p5), .val (.int p6), .val (.int (1 : Int32)), .val (.ref b1), .val (.long (0 : Int64)), .second, .unset, .unset] [(.int p1), (.int (0 : Int32)), (.ref b1)])) _
    refine XS.i2dS X1.here hx rfl (v := (FP.l2d p1.toInt64)) (hb hby at_28) rfl (i2d_w _) ?_
    show Steps p.tables e below (T1.setTop (mkF m 29 #[.val (.int p1), .val (.int p2), .val (.int p3), .val (.int p4), .val (.int p5), .val (.int p6), .val (.int (1 : Int32)), .val (.ref b1), .val (.long (0 : Int64)), .second, .unset, .unset] [(.double (FP.l2d p1.toInt64)), (.int (0 : Int32)), (.ref b1)])) _
    refine st2 _ ?_
    show Steps p.tables e below (T2.setTop (mkF m 30 #[.val (.int p1), .val (.int p2), .val (.int p3), .val (.int p4), .val (.int p5), .val (.int p6), .val (.int (1 : Int32)), .val (.ref b1), .val (.long (0 : Int64)), .second, .unset, .unset] [])) _
    refine XS.lload X2.here hx rfl (hb hby at_30) rfl ?_
    show Steps p.tables e below (T2.setTop (mkF m 32 #[.val (.int p1), .val (.int p2), .val (.int p3), .val (.int p4), .val (.int p5), .val (.int p6), .val (.int (1 : Int32)), .val (.ref b1), .val (.long (0 : Int64)), .second, .unset, .unset] [(.long (0 : Int64))])) _
    refine XS.iloadN X2.here hx rfl (hb hby at_32) rfl ?_
    show Steps p.tables e below (T2.setTop (mkF m 33 #[.val (.int p1), .val (.int p2), .val (.int p3), .val (.int p4), .val (.int p5), .val (.int p6), .val (.int (1 : Int32)), .val (.ref b1), .val (.long (0 : Int64)), .second, .unset, .unset] [(.int p1), (.long (0 : Int64))])) _
    refine XS.i2l X2.here hx rfl (hb hby at_33) rfl ?_
    show Steps p.tables e below (T2.setTop (mkF m 34 #[.val (.int p1), .val (.int p2), .val (.int p3), .val (.int p4), .val (.int p5), .val (.int p6), .val (.int (1 : Int32)), .val (.ref b1), .val (.long (0 : Int64)), .second, .unset, .unset] [(.long (p1.toInt64)), (.long (0 : Int64))])) _
    refine XS.ladd X2.here hx rfl (hb hby at_34) rfl ?_
    show Steps p.tables e below (T2.setTop (mkF m 35 #[.val (.int p1), .val (.int p2), .val (.int p3), .val (.int p4), .val (.int p5), .val (.int p6), .val (.int (1 : Int32)), .val (.ref b1), .val (.long (0 : Int64)), .second, .unset, .unset] [(.long ((0 : Int64) + (p1.toInt64)))])) _
    refine XS.lstore X2.here hx rfl (hb hby at_35) rfl (l' := #[.val (.int p1), .val (.int p2), .val (.int p3), .val (.int p4), .val (.int p5), .val (.int p6), .val (.int (1 : Int32)), .val (.ref b1), .val (.long ((0 : Int64) + (p1.toInt64))), .second, .unset, .unset]) rfl ?_
    show Steps p.tables e below (T2.setTop (mkF m 37 #[.val (.int p1), .val (.int p2), .val (.int p3), .val (.int p4), .val (.int p5), .val (.int p6), .val (.int (1 : Int32)), .val (.ref b1), .val (.long ((0 : Int64) + (p1.toInt64))), .second, .unset, .unset] [])) _
    refine XS.iload X2.here hx rfl (hb hby at_37) rfl ?_
    show Steps p.tables e below (T2.setTop (mkF m 39 #[.val (.int p1), .val (.int p2), .val (.int p3), .val (.int p4), .val (.int p5), .val (.int p6), .val (.int (1 : Int32)), .val (.ref b1), .val (.long ((0 : Int64) + (p1.toInt64))), .second, .unset, .unset] [(.int (1 : Int32))])) _
    refine XS.iconst X2.here hx rfl (hb hby at_39) ?_
    show Steps p.tables e below (T2.setTop (mkF m 40 #[.val (.int p1), .val (.int p2), .val (.int p3), .val (.int p4), .val (.int p5), .val (.int p6), .val (.int (1 : Int32)), .val (.ref b1), .val (.long ((0 : Int64) + (p1.toInt64))), .second, .unset, .unset] [(.int (1 : Int32)), (.int (1 : Int32))])) _
    refine XS.icmpYes X2.here hx rfl (pc0 := 40) (pc' := 56) rfl (hb hby at_40) rfl (flt (by decide : ¬ ((1 : Int32) < (1 : Int32)))).2.2.2 (by decide) (by decide) ?_
    show Steps p.tables e below (T2.setTop (mkF m 56 #[.val (.int p1), .val (.int p2), .val (.int p3), .val (.int p4), .val (.int p5), .val (.int p6), .val (.int (1 : Int32)), .val (.ref b1), .val (.long ((0 : Int64) + (p1.toInt64))), .second, .unset, .unset] [])) _
    refine XS.iload X2.here hx rfl (hb hby at_56) rfl ?_
    show Steps p.tables e below (T2.setTop (mkF m 58 #[.val (.int p1), .val (.int p2), .val (.int p3), .val (.int p4), .val (.int p5), .val (.int p6), .val (.int (1 : Int32)), .val (.ref b1), .val (.long ((0 : Int64) + (p1.toInt64))), .second, .unset, .unset] [(.int (1 : Int32))])) _
    refine XS.iconst X2.here hx rfl (hb hby at_58) ?_
    show Steps p.tables e below (T2.setTop (mkF m 59 #[.val (.int p1), .val (.int p2), .val (.int p3), .val (.int p4), .val (.int p5), .val (.int p6), .val (.int (1 : Int32)), .val (.ref b1), .val (.long ((0 : Int64) + (p1.toInt64))), .second, .unset, .unset] [(.int (2 : Int32)), (.int (1 : Int32))])) _
    refine XS.icmpYes X2.here hx rfl (pc0 := 59) (pc' := 75) rfl (hb hby at_59) rfl (flt (by decide : ¬ ((2 : Int32) < (1 : Int32)))).2.2.2 (by decide) (by decide) ?_
    show Steps p.tables e below (T2.setTop (mkF m 75 #[.val (.int p1), .val (.int p2), .val (.int p3), .val (.int p4), .val (.int p5), .val (.int p6), .val (.int (1 : Int32)), .val (.ref b1), .val (.long ((0 : Int64) + (p1.toInt64))), .second, .unset, .unset] [])) _
    refine XS.iload X2.here hx rfl (hb hby at_75) rfl ?_
    show Steps p.tables e below (T2.setTop (mkF m 77 #[.val (.int p1), .val (.int p2), .val (.int p3), .val (.int p4), .val (.int p5), .val (.int p6), .val (.int (1 : Int32)), .val (.ref b1), .val (.long ((0 : Int64) + (p1.toInt64))), .second, .unset, .unset] [(.int (1 : Int32))])) _
    refine XS.iconst X2.here hx rfl (hb hby at_77) ?_
    show Steps p.tables e below (T2.setTop (mkF m 78 #[.val (.int p1), .val (.int p2), .val (.int p3), .val (.int p4), .val (.int p5), .val (.int p6), .val (.int (1 : Int32)), .val (.ref b1), .val (.long ((0 : Int64) + (p1.toInt64))), .second, .unset, .unset] [(.int (3 : Int32)), (.int (1 : Int32))])) _
    refine XS.icmpYes X2.here hx rfl (pc0 := 78) (pc' := 94) rfl (hb hby at_78) rfl (flt (by decide : ¬ ((3 : Int32) < (1 : Int32)))).2.2.2 (by decide) (by decide) ?_
    show Steps p.tables e below (T2.setTop (mkF m 94 #[.val (.int p1), .val (.int p2), .val (.int p3), .val (.int p4), .val (.int p5), .val (.int p6), .val (.int (1 : Int32)), .val (.ref b1), .val (.long ((0 : Int64) + (p1.toInt64))), .second, .unset, .unset] [])) _
    refine XS.iload X2.here hx rfl (hb hby at_94) rfl ?_
    show Steps p.tables e below (T2.setTop (mkF m 96 #[.val (.int p1), .val (.int p2), .val (.int p3), .val (.int p4), .val (.int p5), .val (.int p6), .val (.int (1 : Int32)), .val (.ref b1), .val (.long ((0 : Int64) + (p1.toInt64))), .second, .unset, .unset] [(.int (1 : Int32))])) _
    refine XS.iconst X2.here hx rfl (hb hby at_96) ?_
    show Steps p.tables e below (T2.setTop (mkF m 97 #[.val (.int p1), .val (.int p2), .val (.int p3), .val (.int p4), .val (.int p5), .val (.int p6), .val (.int (1 : Int32)), .val (.ref b1), .val (.long ((0 : Int64) + (p1.toInt64))), .second, .unset, .unset] [(.int (4 : Int32)), (.int (1 : Int32))])) _
    refine XS.icmpYes X2.here hx rfl (pc0 := 97) (pc' := 115) rfl (hb hby at_97) rfl (flt (by decide : ¬ ((4 : Int32) < (1 : Int32)))).2.2.2 (by decide) (by decide) ?_
    show Steps p.tables e below (T2.setTop (mkF m 115 #[.val (.int p1), .val (.int p2), .val (.int p3), .val (.int p4), .val (.int p5), .val (.int p6), .val (.int (1 : Int32)), .val (.ref b1), .val (.long ((0 : Int64) + (p1.toInt64))), .second, .unset, .unset] [])) _
    refine XS.aload X2.here hx rfl (hb hby at_115) rfl rfl ?_
    show Steps p.tables e below (T2.setTop (mkF m 117 #[.val (.int p1), .val (.int p2), .val (.int p3), .val (.int p4), .val (.int p5), .val (.int p6), .val (.int (1 : Int32)), .val (.ref b1), .val (.long ((0 : Int64) + (p1.toInt64))), .second, .unset, .unset] [(.ref b1)])) _
    refine st3 _ ?_
    show Steps p.tables e below (T3.setTop (mkF m 120 #[.val (.int p1), .val (.int p2), .val (.int p3), .val (.int p4), .val (.int p5), .val (.int p6), .val (.int (1 : Int32)), .val (.ref b1), .val (.long ((0 : Int64) + (p1.toInt64))), .second, .unset, .unset] [(.double (FP.l2d ((0 : Int64) + p1.toInt64)))])) _
    refine XS.dstore X3.here hx rfl (hb hby at_120) rfl (l' := #[.val (.int p1), .val (.int p2), .val (.int p3), .val (.int p4), .val (.int p5), .val (.int p6), .val (.int (1 : Int32)), .val (.ref b1), .val (.long ((0 : Int64) + (p1.toInt64))), .second, .val (.double (FP.l2d ((0 : Int64) + p1.toInt64))), .second]) rfl ?_
    show Steps p.tables e below (T3.setTop (mkF m 122 #[.val (.int p1), .val (.int p2), .val (.int p3), .val (.int p4), .val (.int p5), .val (.int p6), .val (.int (1 : Int32)), .val (.ref b1), .val (.long ((0 : Int64) + (p1.toInt64))), .second, .val (.double (FP.l2d ((0 : Int64) + p1.toInt64))), .second] [])) _
    refine XS.dload X3.here hx rfl (hb hby at_122) rfl ?_
    show Steps p.tables e below (T3.setTop (mkF m 124 #[.val (.int p1), .val (.int p2), .val (.int p3), .val (.int p4), .val (.int p5), .val (.int p6), .val (.int (1 : Int32)), .val (.ref b1), .val (.long ((0 : Int64) + (p1.toInt64))), .second, .val (.double (FP.l2d ((0 : Int64) + p1.toInt64))), .second] [(.double (FP.l2d ((0 : Int64) + p1.toInt64)))])) _
    refine XS.lload X3.here hx rfl (hb hby at_124) rfl ?_
    show Steps p.tables e below (T3.setTop (mkF m 126 #[.val (.int p1), .val (.int p2), .val (.int p3), .val (.int p4), .val (.int p5), .val (.int p6), .val (.int (1 : Int32)), .val (.ref b1), .val (.long ((0 : Int64) + (p1.toInt64))), .second, .val (.double (FP.l2d ((0 : Int64) + p1.toInt64))), .second] [(.long ((0 : Int64) + (p1.toInt64))), (.double (FP.l2d ((0 : Int64) + p1.toInt64)))])) _
    refine XS.l2dS X3.here hx rfl (v := (FP.l2d ((0 : Int64) + (p1.toInt64)))) (hb hby at_126) rfl rfl ?_
    show Steps p.tables e below (T3.setTop (mkF m 127 #[.val (.int p1), .val (.int p2), .val (.int p3), .val (.int p4), .val (.int p5), .val (.int p6), .val (.int (1 : Int32)), .val (.ref b1), .val (.long ((0 : Int64) + (p1.toInt64))), .second, .val (.double (FP.l2d ((0 : Int64) + p1.toInt64))), .second] [(.double (FP.l2d ((0 : Int64) + (p1.toInt64)))), (.double (FP.l2d ((0 : Int64) + p1.toInt64)))])) _
    refine XS.dcmpS X3.here hx rfl (v := (lcmpW ((0 : Int64) + p1.toInt64) ((0 : Int64) + (p1.toInt64)))) (hb hby at_127) rfl (dcmpV_w ((own_b0.add (BB.i32 _) (by decide)).b53 (by decide)) ((own_b0.add (BB.i32 _) (by decide)).b53 (by decide)) _) ?_
    show Steps p.tables e below (T3.setTop (mkF m 128 #[.val (.int p1), .val (.int p2), .val (.int p3), .val (.int p4), .val (.int p5), .val (.int p6), .val (.int (1 : Int32)), .val (.ref b1), .val (.long ((0 : Int64) + (p1.toInt64))), .second, .val (.double (FP.l2d ((0 : Int64) + p1.toInt64))), .second] [(.int (lcmpW ((0 : Int64) + p1.toInt64) ((0 : Int64) + (p1.toInt64))))])) _
    refine XS.ifNo X3.here hx rfl (hb hby at_128) rfl ((if0 _ _).trans (teq (own_lcmp _ : (lcmpW ((0 : Int64) + p1.toInt64) ((0 : Int64) + (p1.toInt64))) = (0 : Int32))).2) ?_
    show Steps p.tables e below (T3.setTop (mkF m 131 #[.val (.int p1), .val (.int p2), .val (.int p3), .val (.int p4), .val (.int p5), .val (.int p6), .val (.int (1 : Int32)), .val (.ref b1), .val (.long ((0 : Int64) + (p1.toInt64))), .second, .val (.double (FP.l2d ((0 : Int64) + p1.toInt64))), .second] [])) _
    refine XS.iconst X3.here hx rfl (hb hby at_131) ?_
    show Steps p.tables e below (T3.setTop (mkF m 132 #[.val (.int p1), .val (.int p2), .val (.int p3), .val (.int p4), .val (.int p5), .val (.int p6), .val (.int (1 : Int32)), .val (.ref b1), .val (.long ((0 : Int64) + (p1.toInt64))), .second, .val (.double (FP.l2d ((0 : Int64) + p1.toInt64))), .second] [(.int (1 : Int32))])) _
    refine XS.goto X3.here hx rfl (pc0 := 132) (pc' := 136) rfl (hb hby at_132) (by decide) (by decide) ?_
    show Steps p.tables e below (T3.setTop (mkF m 136 #[.val (.int p1), .val (.int p2), .val (.int p3), .val (.int p4), .val (.int p5), .val (.int p6), .val (.int (1 : Int32)), .val (.ref b1), .val (.long ((0 : Int64) + (p1.toInt64))), .second, .val (.double (FP.l2d ((0 : Int64) + p1.toInt64))), .second] [(.int (1 : Int32))])) _
    exact retN X3 hx (t := .boolean) Bd.returns (by simp) (hb hby at_136) hr
  · show Qrm0_1 Z p1 p2 p3 p4 p5 p6 h0 n0 _ T3.heap _
    rw [e3]
    exact ⟨rfl, N3⟩
theorem ef_rm0_2 (m : MethodId) (x0 : Int32) (x1 : Int32) (x2 : Int32) (x3 : Int32) (x4 : Int32) (x5 : Int32) : entryFrame m #[(.int x0), (.int x1), (.int x2), (.int x3), (.int x4), (.int x5)] maxLocals = mkF m 0 #[.val (.int x0), .val (.int x1), .val (.int x2), .val (.int x3), .val (.int x4), .val (.int x5), .unset, .unset, .unset, .unset, .unset, .unset] [] := by first | (simp [entryFrame, mkF, argsToLocals, Value.category, maxLocals]; done) | rfl
def Qrm0_2 (Z : State) (p1 p2 p3 p4 p5 p6 : Int32) (h0 : Heap) (n0 : Nat) (v : Option Value) (h : Heap) (L : List Loc) : Prop := Qrm0 Z p1 p2 p3 p4 p5 p6 h0 n0 v h L
set_option maxRecDepth 65536 in
set_option maxHeartbeats 40000000 in
theorem rm0_2 (l : Launch) (Z : State) (a0 : Array Value) (hw : ∀ d ∈ tables_1, d.before a0 Z = true) (ws : List Jvm.Cond) (p1 p2 p3 p4 p5 p6 : Int32) (h0 : Heap) (n0 : Nat) (Z0 : n0 ≤ h0.size) (hk : ((p6 &&& (2147483647 : Int32)) % (6 : Int32)) = (2 : Int32)) :
    MetFree l x (head1 (Jvm.Cond.code x code maxLocals ret :: ws) room_1) (fun a U => a = #[(.int p1), (.int p2), (.int p3), (.int p4), (.int p5), (.int p6)] ∧ Z.Warmed39 U.vm ∧ U.heap = h0) (fun _ _ _ _ _ => True) (fun _ U o U' => ∃ v L, o = .returned v ∧ Qrm0_2 Z p1 p2 p3 p4 p5 p6 h0 n0 v U'.heap L ∧ FrameEnd U o U' L room_1.cells room_1.slots) := by
  refine MetFree.of_bodySF (plainFor_of_name pn_com_example_weir3_weir3_biology_BiomassMapTotalPinLaw) hisR ?_
  intro p e s m args below meth c s₁ Bd hml0 hP hK
  obtain ⟨rfl, hZ, hh⟩ := hP
  have hx := Bd.exec
  have hby := Bd.bytes
  have hml : c.maxLocals = 12 := hml0
  have hown : s.vm.findClass "com/example/weir3/weir3/biology/BiomassMapTotalPinLaw" = some m.cls := findClass_of_methodNamed Bd.named
  have hnm := (name_of_methodNamed Bd.named Bd.method).1
  have X0 : Stand p l e room_1 s m #[(.int p1), (.int p2), (.int p3), (.int p4), (.int p5), (.int p6)] below meth c s₁ [] 0 0 := Stand.of_body Bd
  have e0 : s₁.heap = h0 := by rw [← hh, Bd.state]; rfl
  have N0 := Fr.nil n0
  have pre0 : ∀ t, Steps p.tables e below (s₁.setTop (mkF m 0 #[.val (.int p1), .val (.int p2), .val (.int p3), .val (.int p4), .val (.int p5), .val (.int p6), .unset, .unset, .unset, .unset, .unset, .unset] [])) t → Steps p.tables e below (s₁.setTop (entryFrame m #[(.int p1), (.int p2), (.int p3), (.int p4), (.int p5), (.int p6)] maxLocals)) t := fun t k => castTop (ef_rm0_2 m p1 p2 p3 p4 p5 p6) k
  obtain ⟨T1, h1, k1, X1, e1, E1, A1, st1⟩ := newP X0 hx hZ (hw _ (List.mem_of_getElem? (i := 1) rfl)) e0 (g := (mkF m 12 #[.val (.int p1), .val (.int p2), .val (.int p3), .val (.int p4), .val (.int p5), .val (.int p6), .val (.int (2 : Int32)), .unset, .unset, .unset, .unset, .unset] [(.int (2 : Int32))])) rfl (hb hby at_12) rfl (by decide) (cap := 2) (by decide) (by decide) (by decide) (by decide)
  obtain ⟨b1, g1⟩ : ∃ z, z = h0.size := ⟨_, rfl⟩
  rw [← g1] at A1 st1
  have g_b1 : n0 ≤ b1 := Nat.le_trans Z0 (Nat.le_of_eq g1.symm)
  have sz_b1 : h0.size ≤ b1 := (Nat.le_trans (Keep.refl h0 []).1 (Nat.le_of_eq g1.symm))
  have V1 : AR Z h1 b1 .double 2 (fun _ => (.double (FP.l2d (0 : Int64)))) := (AR.new A1 (by decide) rfl).eq (fun _ _ => congrArg Value.double l2d_zero)
  have K1 : Keep h0 h1 [] := (Keep.refl h0 []).ext E1
  have Z1 : n0 ≤ h1.size := Nat.le_trans Z0 E1.1
  obtain ⟨T2, h2, X2, e2, W2, V2, st2⟩ := own_stD X1 hx hZ e1 V1 (j := (0 : Int32)) (by decide) (g := (mkF m 29 #[.val (.int p1), .val (.int p2), .val (.int p3), .val (.int p4), .val (.int p5), .val (.int p6), .val (.int (2 : Int32)), .val (.ref b1), .val (.long (0 : Int64)), .second, .unset, .unset] [(.double (FP.l2d p1.toInt64)), (.int (0 : Int32)), (.ref b1)])) rfl rfl (hb hby at_29)
  have K2 : Keep h0 h2 [] := K1.wr W2 (Or.inr sz_b1)
  have N2 := Fr.snoc X2 N0 g_b1
  have Z2 : n0 ≤ h2.size := Nat.le_trans Z1 (Keep.of_wr W2).1
  obtain ⟨T3, h3, X3, e3, W3, V3, st3⟩ := own_stD X2 hx hZ e2 V2 (j := (1 : Int32)) (by decide) (g := (mkF m 48 #[.val (.int p1), .val (.int p2), .val (.int p3), .val (.int p4), .val (.int p5), .val (.int p6), .val (.int (2 : Int32)), .val (.ref b1), .val (.long ((0 : Int64) + (p1.toInt64))), .second, .unset, .unset] [(.double (FP.l2d p2.toInt64)), (.int (1 : Int32)), (.ref b1)])) rfl rfl (hb hby at_48)
  have K3 : Keep h0 h3 [] := K2.wr W3 (Or.inr sz_b1)
  have N3 := Fr.snoc X3 N2 g_b1
  have Z3 : n0 ≤ h3.size := Nat.le_trans Z2 (Keep.of_wr W3).1
  obtain ⟨_, _, ⟨T4, L4, k4, n4⟩, -, X4, ⟨Lc4, hQ4, l4, y4, z4⟩, st4⟩ := Jvm.LawKit.callS X3 hx (y := (⟨"com/example/weir3/weir3/biology/BiomassMap", "total", "([D)D"⟩ : MethodName)) hown (mvT hZ (hw _ (List.mem_of_getElem? (i := 2) rfl))) (mvT hZ (hw _ (List.mem_of_getElem? (i := 3) rfl))) (mvT hZ (hw _ (List.mem_of_getElem? (i := 4) rfl))) (mvT hZ (hw _ (List.mem_of_getElem? (i := 5) rfl))) (by decide) (backOf (W := 0) (rmT2 l Z a0 hw [] b1 p1.toInt64 p2.toInt64 h3 n0 Z3 (BB.i32 _) (BB.i32 _) V3) hZ (hw _ (List.mem_of_getElem? (i := 5) rfl)) (hw _ (List.mem_of_getElem? (i := 4) rfl)) (by decide) (by decide)) (g := (mkF m 117 #[.val (.int p1), .val (.int p2), .val (.int p3), .val (.int p4), .val (.int p5), .val (.int p6), .val (.int (2 : Int32)), .val (.ref b1), .val (.long (((0 : Int64) + (p1.toInt64)) + (p2.toInt64))), .second, .unset, .unset] [(.ref b1)])) rfl (by rw [hml]; rfl) (argsL := [(.ref b1)]) (rest := []) (lenOf pd__28_5bD_29D rfl) rfl (by show 2 * 0 + _ ≤ _; exact Nat.le_of_eq rfl) (hb hby at_117) (fun _ _ => ⟨rfl, e3, (by decide : 1 + 0 ≤ _), (by decide : 2 + 0 ≤ _)⟩)
  dsimp only [Pt.U, Pt.locs, Pt.cells, Pt.slots] at X4 l4 y4 z4 st4 hQ4
  subst l4 y4 z4
  obtain ⟨rfl, N4q, e4⟩ := hQ4
  have N4 := Fr.app N3 N4q
  obtain ⟨fs, hr, hrun, hended, hW, hsame⟩ := X4.leave (v := some (.int (1 : Int32))) (fun h => by rw [Bd.returns] at h; cases h)
  refine ⟨_, _, pre0 _ (?_), hrun, hended, _, _, rfl, ?_, ⟨_, rfl⟩, hW, hsame.mono (by decide) (by decide)⟩
  · show Steps p.tables e below (s₁.setTop (mkF m 0 #[.val (.int p1), .val (.int p2), .val (.int p3), .val (.int p4), .val (.int p5), .val (.int p6), .unset, .unset, .unset, .unset, .unset, .unset] [])) _
    refine XS.iload X0.here hx rfl (hb hby at_0) rfl ?_
    show Steps p.tables e below (s₁.setTop (mkF m 2 #[.val (.int p1), .val (.int p2), .val (.int p3), .val (.int p4), .val (.int p5), .val (.int p6), .unset, .unset, .unset, .unset, .unset, .unset] [(.int p6)])) _
    refine X0.ldcInt hx hown (mvT hZ (hw _ (List.mem_of_getElem? (i := 0) rfl))) (g := (mkF m 2 #[.val (.int p1), .val (.int p2), .val (.int p3), .val (.int p4), .val (.int p5), .val (.int p6), .unset, .unset, .unset, .unset, .unset, .unset] [(.int p6)])) rfl (hb hby at_2) _ ?_
    show Steps p.tables e below (s₁.setTop (mkF m 4 #[.val (.int p1), .val (.int p2), .val (.int p3), .val (.int p4), .val (.int p5), .val (.int p6), .unset, .unset, .unset, .unset, .unset, .unset] [(.int (2147483647 : Int32)), (.int p6)])) _
    refine XS.iand X0.here hx rfl (hb hby at_4) rfl ?_
    show Steps p.tables e below (s₁.setTop (mkF m 5 #[.val (.int p1), .val (.int p2), .val (.int p3), .val (.int p4), .val (.int p5), .val (.int p6), .unset, .unset, .unset, .unset, .unset, .unset] [(.int (p6 &&& (2147483647 : Int32)))])) _
    refine XS.bipush X0.here hx rfl (hb hby at_5) ?_
    show Steps p.tables e below (s₁.setTop (mkF m 7 #[.val (.int p1), .val (.int p2), .val (.int p3), .val (.int p4), .val (.int p5), .val (.int p6), .unset, .unset, .unset, .unset, .unset, .unset] [(.int (6 : Int32)), (.int (p6 &&& (2147483647 : Int32)))])) _
    refine Jvm.RoadKit.iremM (g := (mkF m 7 #[.val (.int p1), .val (.int p2), .val (.int p3), .val (.int p4), .val (.int p5), .val (.int p6), .unset, .unset, .unset, .unset, .unset, .unset] [(.int (6 : Int32)), (.int (p6 &&& (2147483647 : Int32)))])) X0 hx rfl (hb hby at_7) rfl (by decide) ?_
    show Steps p.tables e below (s₁.setTop (mkF m 8 #[.val (.int p1), .val (.int p2), .val (.int p3), .val (.int p4), .val (.int p5), .val (.int p6), .unset, .unset, .unset, .unset, .unset, .unset] [(.int ((p6 &&& (2147483647 : Int32)) % (6 : Int32)))])) _
    refine XS.istore X0.here hx rfl (hb hby at_8) rfl (l' := #[.val (.int p1), .val (.int p2), .val (.int p3), .val (.int p4), .val (.int p5), .val (.int p6), .val (.int ((p6 &&& (2147483647 : Int32)) % (6 : Int32))), .unset, .unset, .unset, .unset, .unset]) rfl ?_
    show Steps p.tables e below (s₁.setTop (mkF m 10 #[.val (.int p1), .val (.int p2), .val (.int p3), .val (.int p4), .val (.int p5), .val (.int p6), .val (.int ((p6 &&& (2147483647 : Int32)) % (6 : Int32))), .unset, .unset, .unset, .unset, .unset] [])) _
    rw [hk]
    show Steps p.tables e below (s₁.setTop (mkF m 10 #[.val (.int p1), .val (.int p2), .val (.int p3), .val (.int p4), .val (.int p5), .val (.int p6), .val (.int (2 : Int32)), .unset, .unset, .unset, .unset, .unset] [])) _
    refine XS.iload X0.here hx rfl (hb hby at_10) rfl ?_
    show Steps p.tables e below (s₁.setTop (mkF m 12 #[.val (.int p1), .val (.int p2), .val (.int p3), .val (.int p4), .val (.int p5), .val (.int p6), .val (.int (2 : Int32)), .unset, .unset, .unset, .unset, .unset] [(.int (2 : Int32))])) _
    refine st1 _ ?_
    show Steps p.tables e below (T1.setTop (mkF m 14 #[.val (.int p1), .val (.int p2), .val (.int p3), .val (.int p4), .val (.int p5), .val (.int p6), .val (.int (2 : Int32)), .unset, .unset, .unset, .unset, .unset] [(.ref b1)])) _
    refine XS.astore X1.here hx rfl (hb hby at_14) rfl rfl (l' := #[.val (.int p1), .val (.int p2), .val (.int p3), .val (.int p4), .val (.int p5), .val (.int p6), .val (.int (2 : Int32)), .val (.ref b1), .unset, .unset, .unset, .unset]) rfl ?_
    show Steps p.tables e below (T1.setTop (mkF m 16 #[.val (.int p1), .val (.int p2), .val (.int p3), .val (.int p4), .val (.int p5), .val (.int p6), .val (.int (2 : Int32)), .val (.ref b1), .unset, .unset, .unset, .unset] [])) _
    refine XS.lconst X1.here hx rfl (hb hby at_16) ?_
    show Steps p.tables e below (T1.setTop (mkF m 17 #[.val (.int p1), .val (.int p2), .val (.int p3), .val (.int p4), .val (.int p5), .val (.int p6), .val (.int (2 : Int32)), .val (.ref b1), .unset, .unset, .unset, .unset] [(.long (0 : Int64))])) _
    refine XS.lstore X1.here hx rfl (hb hby at_17) rfl (l' := #[.val (.int p1), .val (.int p2), .val (.int p3), .val (.int p4), .val (.int p5), .val (.int p6), .val (.int (2 : Int32)), .val (.ref b1), .val (.long (0 : Int64)), .second, .unset, .unset]) rfl ?_
    show Steps p.tables e below (T1.setTop (mkF m 19 #[.val (.int p1), .val (.int p2), .val (.int p3), .val (.int p4), .val (.int p5), .val (.int p6), .val (.int (2 : Int32)), .val (.ref b1), .val (.long (0 : Int64)), .second, .unset, .unset] [])) _
    refine XS.iload X1.here hx rfl (hb hby at_19) rfl ?_
    show Steps p.tables e below (T1.setTop (mkF m 21 #[.val (.int p1), .val (.int p2), .val (.int p3), .val (.int p4), .val (.int p5), .val (.int p6), .val (.int (2 : Int32)), .val (.ref b1), .val (.long (0 : Int64)), .second, .unset, .unset] [(.int (2 : Int32))])) _
    refine XS.ifNo X1.here hx rfl (hb hby at_21) rfl ((if0 _ _).trans (tlt (by decide : (0 : Int32) < (2 : Int32))).2.2.2) ?_
    show Steps p.tables e below (T1.setTop (mkF m 24 #[.val (.int p1), .val (.int p2), .val (.int p3), .val (.int p4), .val (.int p5), .val (.int p6), .val (.int (2 : Int32)), .val (.ref b1), .val (.long (0 : Int64)), .second, .unset, .unset] [])) _
    refine XS.aload X1.here hx rfl (hb hby at_24) rfl rfl ?_
    show Steps p.tables e below (T1.setTop (mkF m 26 #[.val (.int p1), .val (.int p2), .val (.int p3), .val (.int p4), .val (.int p5), .val (.int p6), .val (.int (2 : Int32)), .val (.ref b1), .val (.long (0 : Int64)), .second, .unset, .unset] [(.ref b1)])) _
    refine XS.iconst X1.here hx rfl (hb hby at_26) ?_
    show Steps p.tables e below (T1.setTop (mkF m 27 #[.val (.int p1), .val (.int p2), .val (.int p3), .val (.int p4), .val (.int p5), .val (.int p6), .val (.int (2 : Int32)), .val (.ref b1), .val (.long (0 : Int64)), .second, .unset, .unset] [(.int (0 : Int32)), (.ref b1)])) _
    refine XS.iloadN X1.here hx rfl (hb hby at_27) rfl ?_
    show Steps p.tables e below (T1.setTop (mkF m 28 #[.val (.int p1), .val (.int p2), .val (.int p3), .val (.int p4), .val (.int p5), .val (.int p6), .val (.int (2 : Int32)), .val (.ref b1), .val (.long (0 : Int64)), .second, .unset, .unset] [(.int p1), (.int (0 : Int32)), (.ref b1)])) _
    refine XS.i2dS X1.here hx rfl (v := (FP.l2d p1.toInt64)) (hb hby at_28) rfl (i2d_w _) ?_
    show Steps p.tables e below (T1.setTop (mkF m 29 #[.val (.int p1), .val (.int p2), .val (.int p3), .val (.int p4), .val (.int p5), .val (.int p6), .val (.int (2 : Int32)), .val (.ref b1), .val (.long (0 : Int64)), .second, .unset, .unset] [(.double (FP.l2d p1.toInt64)), (.int (0 : Int32)), (.ref b1)])) _
    refine st2 _ ?_
    show Steps p.tables e below (T2.setTop (mkF m 30 #[.val (.int p1), .val (.int p2), .val (.int p3), .val (.int p4), .val (.int p5), .val (.int p6), .val (.int (2 : Int32)), .val (.ref b1), .val (.long (0 : Int64)), .second, .unset, .unset] [])) _
    refine XS.lload X2.here hx rfl (hb hby at_30) rfl ?_
    show Steps p.tables e below (T2.setTop (mkF m 32 #[.val (.int p1), .val (.int p2), .val (.int p3), .val (.int p4), .val (.int p5), .val (.int p6), .val (.int (2 : Int32)), .val (.ref b1), .val (.long (0 : Int64)), .second, .unset, .unset] [(.long (0 : Int64))])) _
    refine XS.iloadN X2.here hx rfl (hb hby at_32) rfl ?_
    show Steps p.tables e below (T2.setTop (mkF m 33 #[.val (.int p1), .val (.int p2), .val (.int p3), .val (.int p4), .val (.int p5), .val (.int p6), .val (.int (2 : Int32)), .val (.ref b1), .val (.long (0 : Int64)), .second, .unset, .unset] [(.int p1), (.long (0 : Int64))])) _
    refine XS.i2l X2.here hx rfl (hb hby at_33) rfl ?_
    show Steps p.tables e below (T2.setTop (mkF m 34 #[.val (.int p1), .val (.int p2), .val (.int p3), .val (.int p4), .val (.int p5), .val (.int p6), .val (.int (2 : Int32)), .val (.ref b1), .val (.long (0 : Int64)), .second, .unset, .unset] [(.long (p1.toInt64)), (.long (0 : Int64))])) _
    refine XS.ladd X2.here hx rfl (hb hby at_34) rfl ?_
    show Steps p.tables e below (T2.setTop (mkF m 35 #[.val (.int p1), .val (.int p2), .val (.int p3), .val (.int p4), .val (.int p5), .val (.int p6), .val (.int (2 : Int32)), .val (.ref b1), .val (.long (0 : Int64)), .second, .unset, .unset] [(.long ((0 : Int64) + (p1.toInt64)))])) _
    refine XS.lstore X2.here hx rfl (hb hby at_35) rfl (l' := #[.val (.int p1), .val (.int p2), .val (.int p3), .val (.int p4), .val (.int p5), .val (.int p6), .val (.int (2 : Int32)), .val (.ref b1), .val (.long ((0 : Int64) + (p1.toInt64))), .second, .unset, .unset]) rfl ?_
    show Steps p.tables e below (T2.setTop (mkF m 37 #[.val (.int p1), .val (.int p2), .val (.int p3), .val (.int p4), .val (.int p5), .val (.int p6), .val (.int (2 : Int32)), .val (.ref b1), .val (.long ((0 : Int64) + (p1.toInt64))), .second, .unset, .unset] [])) _
    refine XS.iload X2.here hx rfl (hb hby at_37) rfl ?_
    show Steps p.tables e below (T2.setTop (mkF m 39 #[.val (.int p1), .val (.int p2), .val (.int p3), .val (.int p4), .val (.int p5), .val (.int p6), .val (.int (2 : Int32)), .val (.ref b1), .val (.long ((0 : Int64) + (p1.toInt64))), .second, .unset, .unset] [(.int (2 : Int32))])) _
    refine XS.iconst X2.here hx rfl (hb hby at_39) ?_
    show Steps p.tables e below (T2.setTop (mkF m 40 #[.val (.int p1), .val (.int p2), .val (.int p3), .val (.int p4), .val (.int p5), .val (.int p6), .val (.int (2 : Int32)), .val (.ref b1), .val (.long ((0 : Int64) + (p1.toInt64))), .second, .unset, .unset] [(.int (1 : Int32)), (.int (2 : Int32))])) _
    refine XS.icmpNo X2.here hx rfl (hb hby at_40) rfl (tlt (by decide : (1 : Int32) < (2 : Int32))).2.2.2 ?_
    show Steps p.tables e below (T2.setTop (mkF m 43 #[.val (.int p1), .val (.int p2), .val (.int p3), .val (.int p4), .val (.int p5), .val (.int p6), .val (.int (2 : Int32)), .val (.ref b1), .val (.long ((0 : Int64) + (p1.toInt64))), .second, .unset, .unset] [])) _
    refine XS.aload X2.here hx rfl (hb hby at_43) rfl rfl ?_
    show Steps p.tables e below (T2.setTop (mkF m 45 #[.val (.int p1), .val (.int p2), .val (.int p3), .val (.int p4), .val (.int p5), .val (.int p6), .val (.int (2 : Int32)), .val (.ref b1), .val (.long ((0 : Int64) + (p1.toInt64))), .second, .unset, .unset] [(.ref b1)])) _
    refine XS.iconst X2.here hx rfl (hb hby at_45) ?_
    show Steps p.tables e below (T2.setTop (mkF m 46 #[.val (.int p1), .val (.int p2), .val (.int p3), .val (.int p4), .val (.int p5), .val (.int p6), .val (.int (2 : Int32)), .val (.ref b1), .val (.long ((0 : Int64) + (p1.toInt64))), .second, .unset, .unset] [(.int (1 : Int32)), (.ref b1)])) _
    refine XS.iloadN X2.here hx rfl (hb hby at_46) rfl ?_
    show Steps p.tables e below (T2.setTop (mkF m 47 #[.val (.int p1), .val (.int p2), .val (.int p3), .val (.int p4), .val (.int p5), .val (.int p6), .val (.int (2 : Int32)), .val (.ref b1), .val (.long ((0 : Int64) + (p1.toInt64))), .second, .unset, .unset] [(.int p2), (.int (1 : Int32)), (.ref b1)])) _
    refine XS.i2dS X2.here hx rfl (v := (FP.l2d p2.toInt64)) (hb hby at_47) rfl (i2d_w _) ?_
    show Steps p.tables e below (T2.setTop (mkF m 48 #[.val (.int p1), .val (.int p2), .val (.int p3), .val (.int p4), .val (.int p5), .val (.int p6), .val (.int (2 : Int32)), .val (.ref b1), .val (.long ((0 : Int64) + (p1.toInt64))), .second, .unset, .unset] [(.double (FP.l2d p2.toInt64)), (.int (1 : Int32)), (.ref b1)])) _
    refine st3 _ ?_
    show Steps p.tables e below (T3.setTop (mkF m 49 #[.val (.int p1), .val (.int p2), .val (.int p3), .val (.int p4), .val (.int p5), .val (.int p6), .val (.int (2 : Int32)), .val (.ref b1), .val (.long ((0 : Int64) + (p1.toInt64))), .second, .unset, .unset] [])) _
    refine XS.lload X3.here hx rfl (hb hby at_49) rfl ?_
    show Steps p.tables e below (T3.setTop (mkF m 51 #[.val (.int p1), .val (.int p2), .val (.int p3), .val (.int p4), .val (.int p5), .val (.int p6), .val (.int (2 : Int32)), .val (.ref b1), .val (.long ((0 : Int64) + (p1.toInt64))), .second, .unset, .unset] [(.long ((0 : Int64) + (p1.toInt64)))])) _
    refine XS.iloadN X3.here hx rfl (hb hby at_51) rfl ?_
    show Steps p.tables e below (T3.setTop (mkF m 52 #[.val (.int p1), .val (.int p2), .val (.int p3), .val (.int p4), .val (.int p5), .val (.int p6), .val (.int (2 : Int32)), .val (.ref b1), .val (.long ((0 : Int64) + (p1.toInt64))), .second, .unset, .unset] [(.int p2), (.long ((0 : Int64) + (p1.toInt64)))])) _
    refine XS.i2l X3.here hx rfl (hb hby at_52) rfl ?_
    show Steps p.tables e below (T3.setTop (mkF m 53 #[.val (.int p1), .val (.int p2), .val (.int p3), .val (.int p4), .val (.int p5), .val (.int p6), .val (.int (2 : Int32)), .val (.ref b1), .val (.long ((0 : Int64) + (p1.toInt64))), .second, .unset, .unset] [(.long (p2.toInt64)), (.long ((0 : Int64) + (p1.toInt64)))])) _
    refine XS.ladd X3.here hx rfl (hb hby at_53) rfl ?_
    show Steps p.tables e below (T3.setTop (mkF m 54 #[.val (.int p1), .val (.int p2), .val (.int p3), .val (.int p4), .val (.int p5), .val (.int p6), .val (.int (2 : Int32)), .val (.ref b1), .val (.long ((0 : Int64) + (p1.toInt64))), .second, .unset, .unset] [(.long (((0 : Int64) + (p1.toInt64)) + (p2.toInt64)))])) _
    refine XS.lstore X3.here hx rfl (hb hby at_54) rfl (l' := #[.val (.int p1), .val (.int p2), .val (.int p3), .val (.int p4), .val (.int p5), .val (.int p6), .val (.int (2 : Int32)), .val (.ref b1), .val (.long (((0 : Int64) + (p1.toInt64)) + (p2.toInt64))), .second, .unset, .unset]) rfl ?_
    show Steps p.tables e below (T3.setTop (mkF m 56 #[.val (.int p1), .val (.int p2), .val (.int p3), .val (.int p4), .val (.int p5), .val (.int p6), .val (.int (2 : Int32)), .val (.ref b1), .val (.long (((0 : Int64) + (p1.toInt64)) + (p2.toInt64))), .second, .unset, .unset] [])) _
    refine XS.iload X3.here hx rfl (hb hby at_56) rfl ?_
    show Steps p.tables e below (T3.setTop (mkF m 58 #[.val (.int p1), .val (.int p2), .val (.int p3), .val (.int p4), .val (.int p5), .val (.int p6), .val (.int (2 : Int32)), .val (.ref b1), .val (.long (((0 : Int64) + (p1.toInt64)) + (p2.toInt64))), .second, .unset, .unset] [(.int (2 : Int32))])) _
    refine XS.iconst X3.here hx rfl (hb hby at_58) ?_
    show Steps p.tables e below (T3.setTop (mkF m 59 #[.val (.int p1), .val (.int p2), .val (.int p3), .val (.int p4), .val (.int p5), .val (.int p6), .val (.int (2 : Int32)), .val (.ref b1), .val (.long (((0 : Int64) + (p1.toInt64)) + (p2.toInt64))), .second, .unset, .unset] [(.int (2 : Int32)), (.int (2 : Int32))])) _
    refine XS.icmpYes X3.here hx rfl (pc0 := 59) (pc' := 75) rfl (hb hby at_59) rfl (flt (by decide : ¬ ((2 : Int32) < (2 : Int32)))).2.2.2 (by decide) (by decide) ?_
    show Steps p.tables e below (T3.setTop (mkF m 75 #[.val (.int p1), .val (.int p2), .val (.int p3), .val (.int p4), .val (.int p5), .val (.int p6), .val (.int (2 : Int32)), .val (.ref b1), .val (.long (((0 : Int64) + (p1.toInt64)) + (p2.toInt64))), .second, .unset, .unset] [])) _
    refine XS.iload X3.here hx rfl (hb hby at_75) rfl ?_
    show Steps p.tables e below (T3.setTop (mkF m 77 #[.val (.int p1), .val (.int p2), .val (.int p3), .val (.int p4), .val (.int p5), .val (.int p6), .val (.int (2 : Int32)), .val (.ref b1), .val (.long (((0 : Int64) + (p1.toInt64)) + (p2.toInt64))), .second, .unset, .unset] [(.int (2 : Int32))])) _
    refine XS.iconst X3.here hx rfl (hb hby at_77) ?_
    show Steps p.tables e below (T3.setTop (mkF m 78 #[.val (.int p1), .val (.int p2), .val (.int p3), .val (.int p4), .val (.int p5), .val (.int p6), .val (.int (2 : Int32)), .val (.ref b1), .val (.long (((0 : Int64) + (p1.toInt64)) + (p2.toInt64))), .second, .unset, .unset] [(.int (3 : Int32)), (.int (2 : Int32))])) _
    refine XS.icmpYes X3.here hx rfl (pc0 := 78) (pc' := 94) rfl (hb hby at_78) rfl (flt (by decide : ¬ ((3 : Int32) < (2 : Int32)))).2.2.2 (by decide) (by decide) ?_
    show Steps p.tables e below (T3.setTop (mkF m 94 #[.val (.int p1), .val (.int p2), .val (.int p3), .val (.int p4), .val (.int p5), .val (.int p6), .val (.int (2 : Int32)), .val (.ref b1), .val (.long (((0 : Int64) + (p1.toInt64)) + (p2.toInt64))), .second, .unset, .unset] [])) _
    refine XS.iload X3.here hx rfl (hb hby at_94) rfl ?_
    show Steps p.tables e below (T3.setTop (mkF m 96 #[.val (.int p1), .val (.int p2), .val (.int p3), .val (.int p4), .val (.int p5), .val (.int p6), .val (.int (2 : Int32)), .val (.ref b1), .val (.long (((0 : Int64) + (p1.toInt64)) + (p2.toInt64))), .second, .unset, .unset] [(.int (2 : Int32))])) _
    refine XS.iconst X3.here hx rfl (hb hby at_96) ?_
    show Steps p.tables e below (T3.setTop (mkF m 97 #[.val (.int p1), .val (.int p2), .val (.int p3), .val (.int p4), .val (.int p5), .val (.int p6), .val (.int (2 : Int32)), .val (.ref b1), .val (.long (((0 : Int64) + (p1.toInt64)) + (p2.toInt64))), .second, .unset, .unset] [(.int (4 : Int32)), (.int (2 : Int32))])) _
    refine XS.icmpYes X3.here hx rfl (pc0 := 97) (pc' := 115) rfl (hb hby at_97) rfl (flt (by decide : ¬ ((4 : Int32) < (2 : Int32)))).2.2.2 (by decide) (by decide) ?_
    show Steps p.tables e below (T3.setTop (mkF m 115 #[.val (.int p1), .val (.int p2), .val (.int p3), .val (.int p4), .val (.int p5), .val (.int p6), .val (.int (2 : Int32)), .val (.ref b1), .val (.long (((0 : Int64) + (p1.toInt64)) + (p2.toInt64))), .second, .unset, .unset] [])) _
    refine XS.aload X3.here hx rfl (hb hby at_115) rfl rfl ?_
    show Steps p.tables e below (T3.setTop (mkF m 117 #[.val (.int p1), .val (.int p2), .val (.int p3), .val (.int p4), .val (.int p5), .val (.int p6), .val (.int (2 : Int32)), .val (.ref b1), .val (.long (((0 : Int64) + (p1.toInt64)) + (p2.toInt64))), .second, .unset, .unset] [(.ref b1)])) _
    refine st4 _ ?_
    show Steps p.tables e below (T4.setTop (mkF m 120 #[.val (.int p1), .val (.int p2), .val (.int p3), .val (.int p4), .val (.int p5), .val (.int p6), .val (.int (2 : Int32)), .val (.ref b1), .val (.long (((0 : Int64) + (p1.toInt64)) + (p2.toInt64))), .second, .unset, .unset] [(.double (FP.l2d (((0 : Int64) + p1.toInt64) + p2.toInt64)))])) _
    refine XS.dstore X4.here hx rfl (hb hby at_120) rfl (l' := #[.val (.int p1), .val (.int p2), .val (.int p3), .val (.int p4), .val (.int p5), .val (.int p6), .val (.int (2 : Int32)), .val (.ref b1), .val (.long (((0 : Int64) + (p1.toInt64)) + (p2.toInt64))), .second, .val (.double (FP.l2d (((0 : Int64) + p1.toInt64) + p2.toInt64))), .second]) rfl ?_
    show Steps p.tables e below (T4.setTop (mkF m 122 #[.val (.int p1), .val (.int p2), .val (.int p3), .val (.int p4), .val (.int p5), .val (.int p6), .val (.int (2 : Int32)), .val (.ref b1), .val (.long (((0 : Int64) + (p1.toInt64)) + (p2.toInt64))), .second, .val (.double (FP.l2d (((0 : Int64) + p1.toInt64) + p2.toInt64))), .second] [])) _
    refine XS.dload X4.here hx rfl (hb hby at_122) rfl ?_
    show Steps p.tables e below (T4.setTop (mkF m 124 #[.val (.int p1), .val (.int p2), .val (.int p3), .val (.int p4), .val (.int p5), .val (.int p6), .val (.int (2 : Int32)), .val (.ref b1), .val (.long (((0 : Int64) + (p1.toInt64)) + (p2.toInt64))), .second, .val (.double (FP.l2d (((0 : Int64) + p1.toInt64) + p2.toInt64))), .second] [(.double (FP.l2d (((0 : Int64) + p1.toInt64) + p2.toInt64)))])) _
    refine XS.lload X4.here hx rfl (hb hby at_124) rfl ?_
    show Steps p.tables e below (T4.setTop (mkF m 126 #[.val (.int p1), .val (.int p2), .val (.int p3), .val (.int p4), .val (.int p5), .val (.int p6), .val (.int (2 : Int32)), .val (.ref b1), .val (.long (((0 : Int64) + (p1.toInt64)) + (p2.toInt64))), .second, .val (.double (FP.l2d (((0 : Int64) + p1.toInt64) + p2.toInt64))), .second] [(.long (((0 : Int64) + (p1.toInt64)) + (p2.toInt64))), (.double (FP.l2d (((0 : Int64) + p1.toInt64) + p2.toInt64)))])) _
    refine XS.l2dS X4.here hx rfl (v := (FP.l2d (((0 : Int64) + (p1.toInt64)) + (p2.toInt64)))) (hb hby at_126) rfl rfl ?_
    show Steps p.tables e below (T4.setTop (mkF m 127 #[.val (.int p1), .val (.int p2), .val (.int p3), .val (.int p4), .val (.int p5), .val (.int p6), .val (.int (2 : Int32)), .val (.ref b1), .val (.long (((0 : Int64) + (p1.toInt64)) + (p2.toInt64))), .second, .val (.double (FP.l2d (((0 : Int64) + p1.toInt64) + p2.toInt64))), .second] [(.double (FP.l2d (((0 : Int64) + (p1.toInt64)) + (p2.toInt64)))), (.double (FP.l2d (((0 : Int64) + p1.toInt64) + p2.toInt64)))])) _
    refine XS.dcmpS X4.here hx rfl (v := (lcmpW (((0 : Int64) + p1.toInt64) + p2.toInt64) (((0 : Int64) + (p1.toInt64)) + (p2.toInt64)))) (hb hby at_127) rfl (dcmpV_w (((own_b0.add (BB.i32 _) (by decide)).add (BB.i32 _) (by decide)).b53 (by decide)) (((own_b0.add (BB.i32 _) (by decide)).add (BB.i32 _) (by decide)).b53 (by decide)) _) ?_
    show Steps p.tables e below (T4.setTop (mkF m 128 #[.val (.int p1), .val (.int p2), .val (.int p3), .val (.int p4), .val (.int p5), .val (.int p6), .val (.int (2 : Int32)), .val (.ref b1), .val (.long (((0 : Int64) + (p1.toInt64)) + (p2.toInt64))), .second, .val (.double (FP.l2d (((0 : Int64) + p1.toInt64) + p2.toInt64))), .second] [(.int (lcmpW (((0 : Int64) + p1.toInt64) + p2.toInt64) (((0 : Int64) + (p1.toInt64)) + (p2.toInt64))))])) _
    refine XS.ifNo X4.here hx rfl (hb hby at_128) rfl ((if0 _ _).trans (teq (own_lcmp _ : (lcmpW (((0 : Int64) + p1.toInt64) + p2.toInt64) (((0 : Int64) + (p1.toInt64)) + (p2.toInt64))) = (0 : Int32))).2) ?_
    show Steps p.tables e below (T4.setTop (mkF m 131 #[.val (.int p1), .val (.int p2), .val (.int p3), .val (.int p4), .val (.int p5), .val (.int p6), .val (.int (2 : Int32)), .val (.ref b1), .val (.long (((0 : Int64) + (p1.toInt64)) + (p2.toInt64))), .second, .val (.double (FP.l2d (((0 : Int64) + p1.toInt64) + p2.toInt64))), .second] [])) _
    refine XS.iconst X4.here hx rfl (hb hby at_131) ?_
    show Steps p.tables e below (T4.setTop (mkF m 132 #[.val (.int p1), .val (.int p2), .val (.int p3), .val (.int p4), .val (.int p5), .val (.int p6), .val (.int (2 : Int32)), .val (.ref b1), .val (.long (((0 : Int64) + (p1.toInt64)) + (p2.toInt64))), .second, .val (.double (FP.l2d (((0 : Int64) + p1.toInt64) + p2.toInt64))), .second] [(.int (1 : Int32))])) _
    refine XS.goto X4.here hx rfl (pc0 := 132) (pc' := 136) rfl (hb hby at_132) (by decide) (by decide) ?_
    show Steps p.tables e below (T4.setTop (mkF m 136 #[.val (.int p1), .val (.int p2), .val (.int p3), .val (.int p4), .val (.int p5), .val (.int p6), .val (.int (2 : Int32)), .val (.ref b1), .val (.long (((0 : Int64) + (p1.toInt64)) + (p2.toInt64))), .second, .val (.double (FP.l2d (((0 : Int64) + p1.toInt64) + p2.toInt64))), .second] [(.int (1 : Int32))])) _
    exact retN X4 hx (t := .boolean) Bd.returns (by simp) (hb hby at_136) hr
  · show Qrm0_2 Z p1 p2 p3 p4 p5 p6 h0 n0 _ T4.heap _
    rw [e4]
    exact ⟨rfl, N4⟩
theorem ef_rm0_3 (m : MethodId) (x0 : Int32) (x1 : Int32) (x2 : Int32) (x3 : Int32) (x4 : Int32) (x5 : Int32) : entryFrame m #[(.int x0), (.int x1), (.int x2), (.int x3), (.int x4), (.int x5)] maxLocals = mkF m 0 #[.val (.int x0), .val (.int x1), .val (.int x2), .val (.int x3), .val (.int x4), .val (.int x5), .unset, .unset, .unset, .unset, .unset, .unset] [] := by first | (simp [entryFrame, mkF, argsToLocals, Value.category, maxLocals]; done) | rfl
def Qrm0_3 (Z : State) (p1 p2 p3 p4 p5 p6 : Int32) (h0 : Heap) (n0 : Nat) (v : Option Value) (h : Heap) (L : List Loc) : Prop := Qrm0 Z p1 p2 p3 p4 p5 p6 h0 n0 v h L
set_option maxRecDepth 65536 in
set_option maxHeartbeats 40000000 in
theorem rm0_3 (l : Launch) (Z : State) (a0 : Array Value) (hw : ∀ d ∈ tables_1, d.before a0 Z = true) (ws : List Jvm.Cond) (p1 p2 p3 p4 p5 p6 : Int32) (h0 : Heap) (n0 : Nat) (Z0 : n0 ≤ h0.size) (hk : ((p6 &&& (2147483647 : Int32)) % (6 : Int32)) = (3 : Int32)) :
    MetFree l x (head1 (Jvm.Cond.code x code maxLocals ret :: ws) room_1) (fun a U => a = #[(.int p1), (.int p2), (.int p3), (.int p4), (.int p5), (.int p6)] ∧ Z.Warmed39 U.vm ∧ U.heap = h0) (fun _ _ _ _ _ => True) (fun _ U o U' => ∃ v L, o = .returned v ∧ Qrm0_3 Z p1 p2 p3 p4 p5 p6 h0 n0 v U'.heap L ∧ FrameEnd U o U' L room_1.cells room_1.slots) := by
  refine MetFree.of_bodySF (plainFor_of_name pn_com_example_weir3_weir3_biology_BiomassMapTotalPinLaw) hisR ?_
  intro p e s m args below meth c s₁ Bd hml0 hP hK
  obtain ⟨rfl, hZ, hh⟩ := hP
  have hx := Bd.exec
  have hby := Bd.bytes
  have hml : c.maxLocals = 12 := hml0
  have hown : s.vm.findClass "com/example/weir3/weir3/biology/BiomassMapTotalPinLaw" = some m.cls := findClass_of_methodNamed Bd.named
  have hnm := (name_of_methodNamed Bd.named Bd.method).1
  have X0 : Stand p l e room_1 s m #[(.int p1), (.int p2), (.int p3), (.int p4), (.int p5), (.int p6)] below meth c s₁ [] 0 0 := Stand.of_body Bd
  have e0 : s₁.heap = h0 := by rw [← hh, Bd.state]; rfl
  have N0 := Fr.nil n0
  have pre0 : ∀ t, Steps p.tables e below (s₁.setTop (mkF m 0 #[.val (.int p1), .val (.int p2), .val (.int p3), .val (.int p4), .val (.int p5), .val (.int p6), .unset, .unset, .unset, .unset, .unset, .unset] [])) t → Steps p.tables e below (s₁.setTop (entryFrame m #[(.int p1), (.int p2), (.int p3), (.int p4), (.int p5), (.int p6)] maxLocals)) t := fun t k => castTop (ef_rm0_3 m p1 p2 p3 p4 p5 p6) k
  obtain ⟨T1, h1, k1, X1, e1, E1, A1, st1⟩ := newP X0 hx hZ (hw _ (List.mem_of_getElem? (i := 1) rfl)) e0 (g := (mkF m 12 #[.val (.int p1), .val (.int p2), .val (.int p3), .val (.int p4), .val (.int p5), .val (.int p6), .val (.int (3 : Int32)), .unset, .unset, .unset, .unset, .unset] [(.int (3 : Int32))])) rfl (hb hby at_12) rfl (by decide) (cap := 3) (by decide) (by decide) (by decide) (by decide)
  obtain ⟨b1, g1⟩ : ∃ z, z = h0.size := ⟨_, rfl⟩
  rw [← g1] at A1 st1
  have g_b1 : n0 ≤ b1 := Nat.le_trans Z0 (Nat.le_of_eq g1.symm)
  have sz_b1 : h0.size ≤ b1 := (Nat.le_trans (Keep.refl h0 []).1 (Nat.le_of_eq g1.symm))
  have V1 : AR Z h1 b1 .double 3 (fun _ => (.double (FP.l2d (0 : Int64)))) := (AR.new A1 (by decide) rfl).eq (fun _ _ => congrArg Value.double l2d_zero)
  have K1 : Keep h0 h1 [] := (Keep.refl h0 []).ext E1
  have Z1 : n0 ≤ h1.size := Nat.le_trans Z0 E1.1
  obtain ⟨T2, h2, X2, e2, W2, V2, st2⟩ := own_stD X1 hx hZ e1 V1 (j := (0 : Int32)) (by decide) (g := (mkF m 29 #[.val (.int p1), .val (.int p2), .val (.int p3), .val (.int p4), .val (.int p5), .val (.int p6), .val (.int (3 : Int32)), .val (.ref b1), .val (.long (0 : Int64)), .second, .unset, .unset] [(.double (FP.l2d p1.toInt64)), (.int (0 : Int32)), (.ref b1)])) rfl rfl (hb hby at_29)
  have K2 : Keep h0 h2 [] := K1.wr W2 (Or.inr sz_b1)
  have N2 := Fr.snoc X2 N0 g_b1
  have Z2 : n0 ≤ h2.size := Nat.le_trans Z1 (Keep.of_wr W2).1
  obtain ⟨T3, h3, X3, e3, W3, V3, st3⟩ := own_stD X2 hx hZ e2 V2 (j := (1 : Int32)) (by decide) (g := (mkF m 48 #[.val (.int p1), .val (.int p2), .val (.int p3), .val (.int p4), .val (.int p5), .val (.int p6), .val (.int (3 : Int32)), .val (.ref b1), .val (.long ((0 : Int64) + (p1.toInt64))), .second, .unset, .unset] [(.double (FP.l2d p2.toInt64)), (.int (1 : Int32)), (.ref b1)])) rfl rfl (hb hby at_48)
  have K3 : Keep h0 h3 [] := K2.wr W3 (Or.inr sz_b1)
  have N3 := Fr.snoc X3 N2 g_b1
  have Z3 : n0 ≤ h3.size := Nat.le_trans Z2 (Keep.of_wr W3).1
  obtain ⟨T4, h4, X4, e4, W4, V4, st4⟩ := own_stD X3 hx hZ e3 V3 (j := (2 : Int32)) (by decide) (g := (mkF m 67 #[.val (.int p1), .val (.int p2), .val (.int p3), .val (.int p4), .val (.int p5), .val (.int p6), .val (.int (3 : Int32)), .val (.ref b1), .val (.long (((0 : Int64) + (p1.toInt64)) + (p2.toInt64))), .second, .unset, .unset] [(.double (FP.l2d p3.toInt64)), (.int (2 : Int32)), (.ref b1)])) rfl rfl (hb hby at_67)
  have K4 : Keep h0 h4 [] := K3.wr W4 (Or.inr sz_b1)
  have N4 := Fr.snoc X4 N3 g_b1
  have Z4 : n0 ≤ h4.size := Nat.le_trans Z3 (Keep.of_wr W4).1
  obtain ⟨_, _, ⟨T5, L5, k5, n5⟩, -, X5, ⟨Lc5, hQ5, l5, y5, z5⟩, st5⟩ := Jvm.LawKit.callS X4 hx (y := (⟨"com/example/weir3/weir3/biology/BiomassMap", "total", "([D)D"⟩ : MethodName)) hown (mvT hZ (hw _ (List.mem_of_getElem? (i := 2) rfl))) (mvT hZ (hw _ (List.mem_of_getElem? (i := 3) rfl))) (mvT hZ (hw _ (List.mem_of_getElem? (i := 4) rfl))) (mvT hZ (hw _ (List.mem_of_getElem? (i := 5) rfl))) (by decide) (backOf (W := 0) (rmT3 l Z a0 hw [] b1 p1.toInt64 p2.toInt64 p3.toInt64 h4 n0 Z4 (BB.i32 _) (BB.i32 _) (BB.i32 _) V4) hZ (hw _ (List.mem_of_getElem? (i := 5) rfl)) (hw _ (List.mem_of_getElem? (i := 4) rfl)) (by decide) (by decide)) (g := (mkF m 117 #[.val (.int p1), .val (.int p2), .val (.int p3), .val (.int p4), .val (.int p5), .val (.int p6), .val (.int (3 : Int32)), .val (.ref b1), .val (.long ((((0 : Int64) + (p1.toInt64)) + (p2.toInt64)) + (p3.toInt64))), .second, .unset, .unset] [(.ref b1)])) rfl (by rw [hml]; rfl) (argsL := [(.ref b1)]) (rest := []) (lenOf pd__28_5bD_29D rfl) rfl (by show 2 * 0 + _ ≤ _; exact Nat.le_of_eq rfl) (hb hby at_117) (fun _ _ => ⟨rfl, e4, (by decide : 1 + 0 ≤ _), (by decide : 3 + 0 ≤ _)⟩)
  dsimp only [Pt.U, Pt.locs, Pt.cells, Pt.slots] at X5 l5 y5 z5 st5 hQ5
  subst l5 y5 z5
  obtain ⟨rfl, N5q, e5⟩ := hQ5
  have N5 := Fr.app N4 N5q
  obtain ⟨fs, hr, hrun, hended, hW, hsame⟩ := X5.leave (v := some (.int (1 : Int32))) (fun h => by rw [Bd.returns] at h; cases h)
  refine ⟨_, _, pre0 _ (?_), hrun, hended, _, _, rfl, ?_, ⟨_, rfl⟩, hW, hsame.mono (by decide) (by decide)⟩
  · show Steps p.tables e below (s₁.setTop (mkF m 0 #[.val (.int p1), .val (.int p2), .val (.int p3), .val (.int p4), .val (.int p5), .val (.int p6), .unset, .unset, .unset, .unset, .unset, .unset] [])) _
    refine XS.iload X0.here hx rfl (hb hby at_0) rfl ?_
    show Steps p.tables e below (s₁.setTop (mkF m 2 #[.val (.int p1), .val (.int p2), .val (.int p3), .val (.int p4), .val (.int p5), .val (.int p6), .unset, .unset, .unset, .unset, .unset, .unset] [(.int p6)])) _
    refine X0.ldcInt hx hown (mvT hZ (hw _ (List.mem_of_getElem? (i := 0) rfl))) (g := (mkF m 2 #[.val (.int p1), .val (.int p2), .val (.int p3), .val (.int p4), .val (.int p5), .val (.int p6), .unset, .unset, .unset, .unset, .unset, .unset] [(.int p6)])) rfl (hb hby at_2) _ ?_
    show Steps p.tables e below (s₁.setTop (mkF m 4 #[.val (.int p1), .val (.int p2), .val (.int p3), .val (.int p4), .val (.int p5), .val (.int p6), .unset, .unset, .unset, .unset, .unset, .unset] [(.int (2147483647 : Int32)), (.int p6)])) _
    refine XS.iand X0.here hx rfl (hb hby at_4) rfl ?_
    show Steps p.tables e below (s₁.setTop (mkF m 5 #[.val (.int p1), .val (.int p2), .val (.int p3), .val (.int p4), .val (.int p5), .val (.int p6), .unset, .unset, .unset, .unset, .unset, .unset] [(.int (p6 &&& (2147483647 : Int32)))])) _
    refine XS.bipush X0.here hx rfl (hb hby at_5) ?_
    show Steps p.tables e below (s₁.setTop (mkF m 7 #[.val (.int p1), .val (.int p2), .val (.int p3), .val (.int p4), .val (.int p5), .val (.int p6), .unset, .unset, .unset, .unset, .unset, .unset] [(.int (6 : Int32)), (.int (p6 &&& (2147483647 : Int32)))])) _
    refine Jvm.RoadKit.iremM (g := (mkF m 7 #[.val (.int p1), .val (.int p2), .val (.int p3), .val (.int p4), .val (.int p5), .val (.int p6), .unset, .unset, .unset, .unset, .unset, .unset] [(.int (6 : Int32)), (.int (p6 &&& (2147483647 : Int32)))])) X0 hx rfl (hb hby at_7) rfl (by decide) ?_
    show Steps p.tables e below (s₁.setTop (mkF m 8 #[.val (.int p1), .val (.int p2), .val (.int p3), .val (.int p4), .val (.int p5), .val (.int p6), .unset, .unset, .unset, .unset, .unset, .unset] [(.int ((p6 &&& (2147483647 : Int32)) % (6 : Int32)))])) _
    refine XS.istore X0.here hx rfl (hb hby at_8) rfl (l' := #[.val (.int p1), .val (.int p2), .val (.int p3), .val (.int p4), .val (.int p5), .val (.int p6), .val (.int ((p6 &&& (2147483647 : Int32)) % (6 : Int32))), .unset, .unset, .unset, .unset, .unset]) rfl ?_
    show Steps p.tables e below (s₁.setTop (mkF m 10 #[.val (.int p1), .val (.int p2), .val (.int p3), .val (.int p4), .val (.int p5), .val (.int p6), .val (.int ((p6 &&& (2147483647 : Int32)) % (6 : Int32))), .unset, .unset, .unset, .unset, .unset] [])) _
    rw [hk]
    show Steps p.tables e below (s₁.setTop (mkF m 10 #[.val (.int p1), .val (.int p2), .val (.int p3), .val (.int p4), .val (.int p5), .val (.int p6), .val (.int (3 : Int32)), .unset, .unset, .unset, .unset, .unset] [])) _
    refine XS.iload X0.here hx rfl (hb hby at_10) rfl ?_
    show Steps p.tables e below (s₁.setTop (mkF m 12 #[.val (.int p1), .val (.int p2), .val (.int p3), .val (.int p4), .val (.int p5), .val (.int p6), .val (.int (3 : Int32)), .unset, .unset, .unset, .unset, .unset] [(.int (3 : Int32))])) _
    refine st1 _ ?_
    show Steps p.tables e below (T1.setTop (mkF m 14 #[.val (.int p1), .val (.int p2), .val (.int p3), .val (.int p4), .val (.int p5), .val (.int p6), .val (.int (3 : Int32)), .unset, .unset, .unset, .unset, .unset] [(.ref b1)])) _
    refine XS.astore X1.here hx rfl (hb hby at_14) rfl rfl (l' := #[.val (.int p1), .val (.int p2), .val (.int p3), .val (.int p4), .val (.int p5), .val (.int p6), .val (.int (3 : Int32)), .val (.ref b1), .unset, .unset, .unset, .unset]) rfl ?_
    show Steps p.tables e below (T1.setTop (mkF m 16 #[.val (.int p1), .val (.int p2), .val (.int p3), .val (.int p4), .val (.int p5), .val (.int p6), .val (.int (3 : Int32)), .val (.ref b1), .unset, .unset, .unset, .unset] [])) _
    refine XS.lconst X1.here hx rfl (hb hby at_16) ?_
    show Steps p.tables e below (T1.setTop (mkF m 17 #[.val (.int p1), .val (.int p2), .val (.int p3), .val (.int p4), .val (.int p5), .val (.int p6), .val (.int (3 : Int32)), .val (.ref b1), .unset, .unset, .unset, .unset] [(.long (0 : Int64))])) _
    refine XS.lstore X1.here hx rfl (hb hby at_17) rfl (l' := #[.val (.int p1), .val (.int p2), .val (.int p3), .val (.int p4), .val (.int p5), .val (.int p6), .val (.int (3 : Int32)), .val (.ref b1), .val (.long (0 : Int64)), .second, .unset, .unset]) rfl ?_
    show Steps p.tables e below (T1.setTop (mkF m 19 #[.val (.int p1), .val (.int p2), .val (.int p3), .val (.int p4), .val (.int p5), .val (.int p6), .val (.int (3 : Int32)), .val (.ref b1), .val (.long (0 : Int64)), .second, .unset, .unset] [])) _
    refine XS.iload X1.here hx rfl (hb hby at_19) rfl ?_
    show Steps p.tables e below (T1.setTop (mkF m 21 #[.val (.int p1), .val (.int p2), .val (.int p3), .val (.int p4), .val (.int p5), .val (.int p6), .val (.int (3 : Int32)), .val (.ref b1), .val (.long (0 : Int64)), .second, .unset, .unset] [(.int (3 : Int32))])) _
    refine XS.ifNo X1.here hx rfl (hb hby at_21) rfl ((if0 _ _).trans (tlt (by decide : (0 : Int32) < (3 : Int32))).2.2.2) ?_
    show Steps p.tables e below (T1.setTop (mkF m 24 #[.val (.int p1), .val (.int p2), .val (.int p3), .val (.int p4), .val (.int p5), .val (.int p6), .val (.int (3 : Int32)), .val (.ref b1), .val (.long (0 : Int64)), .second, .unset, .unset] [])) _
    refine XS.aload X1.here hx rfl (hb hby at_24) rfl rfl ?_
    show Steps p.tables e below (T1.setTop (mkF m 26 #[.val (.int p1), .val (.int p2), .val (.int p3), .val (.int p4), .val (.int p5), .val (.int p6), .val (.int (3 : Int32)), .val (.ref b1), .val (.long (0 : Int64)), .second, .unset, .unset] [(.ref b1)])) _
    refine XS.iconst X1.here hx rfl (hb hby at_26) ?_
    show Steps p.tables e below (T1.setTop (mkF m 27 #[.val (.int p1), .val (.int p2), .val (.int p3), .val (.int p4), .val (.int p5), .val (.int p6), .val (.int (3 : Int32)), .val (.ref b1), .val (.long (0 : Int64)), .second, .unset, .unset] [(.int (0 : Int32)), (.ref b1)])) _
    refine XS.iloadN X1.here hx rfl (hb hby at_27) rfl ?_
    show Steps p.tables e below (T1.setTop (mkF m 28 #[.val (.int p1), .val (.int p2), .val (.int p3), .val (.int p4), .val (.int p5), .val (.int p6), .val (.int (3 : Int32)), .val (.ref b1), .val (.long (0 : Int64)), .second, .unset, .unset] [(.int p1), (.int (0 : Int32)), (.ref b1)])) _
    refine XS.i2dS X1.here hx rfl (v := (FP.l2d p1.toInt64)) (hb hby at_28) rfl (i2d_w _) ?_
    show Steps p.tables e below (T1.setTop (mkF m 29 #[.val (.int p1), .val (.int p2), .val (.int p3), .val (.int p4), .val (.int p5), .val (.int p6), .val (.int (3 : Int32)), .val (.ref b1), .val (.long (0 : Int64)), .second, .unset, .unset] [(.double (FP.l2d p1.toInt64)), (.int (0 : Int32)), (.ref b1)])) _
    refine st2 _ ?_
    show Steps p.tables e below (T2.setTop (mkF m 30 #[.val (.int p1), .val (.int p2), .val (.int p3), .val (.int p4), .val (.int p5), .val (.int p6), .val (.int (3 : Int32)), .val (.ref b1), .val (.long (0 : Int64)), .second, .unset, .unset] [])) _
    refine XS.lload X2.here hx rfl (hb hby at_30) rfl ?_
    show Steps p.tables e below (T2.setTop (mkF m 32 #[.val (.int p1), .val (.int p2), .val (.int p3), .val (.int p4), .val (.int p5), .val (.int p6), .val (.int (3 : Int32)), .val (.ref b1), .val (.long (0 : Int64)), .second, .unset, .unset] [(.long (0 : Int64))])) _
    refine XS.iloadN X2.here hx rfl (hb hby at_32) rfl ?_
    show Steps p.tables e below (T2.setTop (mkF m 33 #[.val (.int p1), .val (.int p2), .val (.int p3), .val (.int p4), .val (.int p5), .val (.int p6), .val (.int (3 : Int32)), .val (.ref b1), .val (.long (0 : Int64)), .second, .unset, .unset] [(.int p1), (.long (0 : Int64))])) _
    refine XS.i2l X2.here hx rfl (hb hby at_33) rfl ?_
    show Steps p.tables e below (T2.setTop (mkF m 34 #[.val (.int p1), .val (.int p2), .val (.int p3), .val (.int p4), .val (.int p5), .val (.int p6), .val (.int (3 : Int32)), .val (.ref b1), .val (.long (0 : Int64)), .second, .unset, .unset] [(.long (p1.toInt64)), (.long (0 : Int64))])) _
    refine XS.ladd X2.here hx rfl (hb hby at_34) rfl ?_
    show Steps p.tables e below (T2.setTop (mkF m 35 #[.val (.int p1), .val (.int p2), .val (.int p3), .val (.int p4), .val (.int p5), .val (.int p6), .val (.int (3 : Int32)), .val (.ref b1), .val (.long (0 : Int64)), .second, .unset, .unset] [(.long ((0 : Int64) + (p1.toInt64)))])) _
    refine XS.lstore X2.here hx rfl (hb hby at_35) rfl (l' := #[.val (.int p1), .val (.int p2), .val (.int p3), .val (.int p4), .val (.int p5), .val (.int p6), .val (.int (3 : Int32)), .val (.ref b1), .val (.long ((0 : Int64) + (p1.toInt64))), .second, .unset, .unset]) rfl ?_
    show Steps p.tables e below (T2.setTop (mkF m 37 #[.val (.int p1), .val (.int p2), .val (.int p3), .val (.int p4), .val (.int p5), .val (.int p6), .val (.int (3 : Int32)), .val (.ref b1), .val (.long ((0 : Int64) + (p1.toInt64))), .second, .unset, .unset] [])) _
    refine XS.iload X2.here hx rfl (hb hby at_37) rfl ?_
    show Steps p.tables e below (T2.setTop (mkF m 39 #[.val (.int p1), .val (.int p2), .val (.int p3), .val (.int p4), .val (.int p5), .val (.int p6), .val (.int (3 : Int32)), .val (.ref b1), .val (.long ((0 : Int64) + (p1.toInt64))), .second, .unset, .unset] [(.int (3 : Int32))])) _
    refine XS.iconst X2.here hx rfl (hb hby at_39) ?_
    show Steps p.tables e below (T2.setTop (mkF m 40 #[.val (.int p1), .val (.int p2), .val (.int p3), .val (.int p4), .val (.int p5), .val (.int p6), .val (.int (3 : Int32)), .val (.ref b1), .val (.long ((0 : Int64) + (p1.toInt64))), .second, .unset, .unset] [(.int (1 : Int32)), (.int (3 : Int32))])) _
    refine XS.icmpNo X2.here hx rfl (hb hby at_40) rfl (tlt (by decide : (1 : Int32) < (3 : Int32))).2.2.2 ?_
    show Steps p.tables e below (T2.setTop (mkF m 43 #[.val (.int p1), .val (.int p2), .val (.int p3), .val (.int p4), .val (.int p5), .val (.int p6), .val (.int (3 : Int32)), .val (.ref b1), .val (.long ((0 : Int64) + (p1.toInt64))), .second, .unset, .unset] [])) _
    refine XS.aload X2.here hx rfl (hb hby at_43) rfl rfl ?_
    show Steps p.tables e below (T2.setTop (mkF m 45 #[.val (.int p1), .val (.int p2), .val (.int p3), .val (.int p4), .val (.int p5), .val (.int p6), .val (.int (3 : Int32)), .val (.ref b1), .val (.long ((0 : Int64) + (p1.toInt64))), .second, .unset, .unset] [(.ref b1)])) _
    refine XS.iconst X2.here hx rfl (hb hby at_45) ?_
    show Steps p.tables e below (T2.setTop (mkF m 46 #[.val (.int p1), .val (.int p2), .val (.int p3), .val (.int p4), .val (.int p5), .val (.int p6), .val (.int (3 : Int32)), .val (.ref b1), .val (.long ((0 : Int64) + (p1.toInt64))), .second, .unset, .unset] [(.int (1 : Int32)), (.ref b1)])) _
    refine XS.iloadN X2.here hx rfl (hb hby at_46) rfl ?_
    show Steps p.tables e below (T2.setTop (mkF m 47 #[.val (.int p1), .val (.int p2), .val (.int p3), .val (.int p4), .val (.int p5), .val (.int p6), .val (.int (3 : Int32)), .val (.ref b1), .val (.long ((0 : Int64) + (p1.toInt64))), .second, .unset, .unset] [(.int p2), (.int (1 : Int32)), (.ref b1)])) _
    refine XS.i2dS X2.here hx rfl (v := (FP.l2d p2.toInt64)) (hb hby at_47) rfl (i2d_w _) ?_
    show Steps p.tables e below (T2.setTop (mkF m 48 #[.val (.int p1), .val (.int p2), .val (.int p3), .val (.int p4), .val (.int p5), .val (.int p6), .val (.int (3 : Int32)), .val (.ref b1), .val (.long ((0 : Int64) + (p1.toInt64))), .second, .unset, .unset] [(.double (FP.l2d p2.toInt64)), (.int (1 : Int32)), (.ref b1)])) _
    refine st3 _ ?_
    show Steps p.tables e below (T3.setTop (mkF m 49 #[.val (.int p1), .val (.int p2), .val (.int p3), .val (.int p4), .val (.int p5), .val (.int p6), .val (.int (3 : Int32)), .val (.ref b1), .val (.long ((0 : Int64) + (p1.toInt64))), .second, .unset, .unset] [])) _
    refine XS.lload X3.here hx rfl (hb hby at_49) rfl ?_
    show Steps p.tables e below (T3.setTop (mkF m 51 #[.val (.int p1), .val (.int p2), .val (.int p3), .val (.int p4), .val (.int p5), .val (.int p6), .val (.int (3 : Int32)), .val (.ref b1), .val (.long ((0 : Int64) + (p1.toInt64))), .second, .unset, .unset] [(.long ((0 : Int64) + (p1.toInt64)))])) _
    refine XS.iloadN X3.here hx rfl (hb hby at_51) rfl ?_
    show Steps p.tables e below (T3.setTop (mkF m 52 #[.val (.int p1), .val (.int p2), .val (.int p3), .val (.int p4), .val (.int p5), .val (.int p6), .val (.int (3 : Int32)), .val (.ref b1), .val (.long ((0 : Int64) + (p1.toInt64))), .second, .unset, .unset] [(.int p2), (.long ((0 : Int64) + (p1.toInt64)))])) _
    refine XS.i2l X3.here hx rfl (hb hby at_52) rfl ?_
    show Steps p.tables e below (T3.setTop (mkF m 53 #[.val (.int p1), .val (.int p2), .val (.int p3), .val (.int p4), .val (.int p5), .val (.int p6), .val (.int (3 : Int32)), .val (.ref b1), .val (.long ((0 : Int64) + (p1.toInt64))), .second, .unset, .unset] [(.long (p2.toInt64)), (.long ((0 : Int64) + (p1.toInt64)))])) _
    refine XS.ladd X3.here hx rfl (hb hby at_53) rfl ?_
    show Steps p.tables e below (T3.setTop (mkF m 54 #[.val (.int p1), .val (.int p2), .val (.int p3), .val (.int p4), .val (.int p5), .val (.int p6), .val (.int (3 : Int32)), .val (.ref b1), .val (.long ((0 : Int64) + (p1.toInt64))), .second, .unset, .unset] [(.long (((0 : Int64) + (p1.toInt64)) + (p2.toInt64)))])) _
    refine XS.lstore X3.here hx rfl (hb hby at_54) rfl (l' := #[.val (.int p1), .val (.int p2), .val (.int p3), .val (.int p4), .val (.int p5), .val (.int p6), .val (.int (3 : Int32)), .val (.ref b1), .val (.long (((0 : Int64) + (p1.toInt64)) + (p2.toInt64))), .second, .unset, .unset]) rfl ?_
    show Steps p.tables e below (T3.setTop (mkF m 56 #[.val (.int p1), .val (.int p2), .val (.int p3), .val (.int p4), .val (.int p5), .val (.int p6), .val (.int (3 : Int32)), .val (.ref b1), .val (.long (((0 : Int64) + (p1.toInt64)) + (p2.toInt64))), .second, .unset, .unset] [])) _
    refine XS.iload X3.here hx rfl (hb hby at_56) rfl ?_
    show Steps p.tables e below (T3.setTop (mkF m 58 #[.val (.int p1), .val (.int p2), .val (.int p3), .val (.int p4), .val (.int p5), .val (.int p6), .val (.int (3 : Int32)), .val (.ref b1), .val (.long (((0 : Int64) + (p1.toInt64)) + (p2.toInt64))), .second, .unset, .unset] [(.int (3 : Int32))])) _
    refine XS.iconst X3.here hx rfl (hb hby at_58) ?_
    show Steps p.tables e below (T3.setTop (mkF m 59 #[.val (.int p1), .val (.int p2), .val (.int p3), .val (.int p4), .val (.int p5), .val (.int p6), .val (.int (3 : Int32)), .val (.ref b1), .val (.long (((0 : Int64) + (p1.toInt64)) + (p2.toInt64))), .second, .unset, .unset] [(.int (2 : Int32)), (.int (3 : Int32))])) _
    refine XS.icmpNo X3.here hx rfl (hb hby at_59) rfl (tlt (by decide : (2 : Int32) < (3 : Int32))).2.2.2 ?_
    show Steps p.tables e below (T3.setTop (mkF m 62 #[.val (.int p1), .val (.int p2), .val (.int p3), .val (.int p4), .val (.int p5), .val (.int p6), .val (.int (3 : Int32)), .val (.ref b1), .val (.long (((0 : Int64) + (p1.toInt64)) + (p2.toInt64))), .second, .unset, .unset] [])) _
    refine XS.aload X3.here hx rfl (hb hby at_62) rfl rfl ?_
    show Steps p.tables e below (T3.setTop (mkF m 64 #[.val (.int p1), .val (.int p2), .val (.int p3), .val (.int p4), .val (.int p5), .val (.int p6), .val (.int (3 : Int32)), .val (.ref b1), .val (.long (((0 : Int64) + (p1.toInt64)) + (p2.toInt64))), .second, .unset, .unset] [(.ref b1)])) _
    refine XS.iconst X3.here hx rfl (hb hby at_64) ?_
    show Steps p.tables e below (T3.setTop (mkF m 65 #[.val (.int p1), .val (.int p2), .val (.int p3), .val (.int p4), .val (.int p5), .val (.int p6), .val (.int (3 : Int32)), .val (.ref b1), .val (.long (((0 : Int64) + (p1.toInt64)) + (p2.toInt64))), .second, .unset, .unset] [(.int (2 : Int32)), (.ref b1)])) _
    refine XS.iloadN X3.here hx rfl (hb hby at_65) rfl ?_
    show Steps p.tables e below (T3.setTop (mkF m 66 #[.val (.int p1), .val (.int p2), .val (.int p3), .val (.int p4), .val (.int p5), .val (.int p6), .val (.int (3 : Int32)), .val (.ref b1), .val (.long (((0 : Int64) + (p1.toInt64)) + (p2.toInt64))), .second, .unset, .unset] [(.int p3), (.int (2 : Int32)), (.ref b1)])) _
    refine XS.i2dS X3.here hx rfl (v := (FP.l2d p3.toInt64)) (hb hby at_66) rfl (i2d_w _) ?_
    show Steps p.tables e below (T3.setTop (mkF m 67 #[.val (.int p1), .val (.int p2), .val (.int p3), .val (.int p4), .val (.int p5), .val (.int p6), .val (.int (3 : Int32)), .val (.ref b1), .val (.long (((0 : Int64) + (p1.toInt64)) + (p2.toInt64))), .second, .unset, .unset] [(.double (FP.l2d p3.toInt64)), (.int (2 : Int32)), (.ref b1)])) _
    refine st4 _ ?_
    show Steps p.tables e below (T4.setTop (mkF m 68 #[.val (.int p1), .val (.int p2), .val (.int p3), .val (.int p4), .val (.int p5), .val (.int p6), .val (.int (3 : Int32)), .val (.ref b1), .val (.long (((0 : Int64) + (p1.toInt64)) + (p2.toInt64))), .second, .unset, .unset] [])) _
    refine XS.lload X4.here hx rfl (hb hby at_68) rfl ?_
    show Steps p.tables e below (T4.setTop (mkF m 70 #[.val (.int p1), .val (.int p2), .val (.int p3), .val (.int p4), .val (.int p5), .val (.int p6), .val (.int (3 : Int32)), .val (.ref b1), .val (.long (((0 : Int64) + (p1.toInt64)) + (p2.toInt64))), .second, .unset, .unset] [(.long (((0 : Int64) + (p1.toInt64)) + (p2.toInt64)))])) _
    refine XS.iloadN X4.here hx rfl (hb hby at_70) rfl ?_
    show Steps p.tables e below (T4.setTop (mkF m 71 #[.val (.int p1), .val (.int p2), .val (.int p3), .val (.int p4), .val (.int p5), .val (.int p6), .val (.int (3 : Int32)), .val (.ref b1), .val (.long (((0 : Int64) + (p1.toInt64)) + (p2.toInt64))), .second, .unset, .unset] [(.int p3), (.long (((0 : Int64) + (p1.toInt64)) + (p2.toInt64)))])) _
    refine XS.i2l X4.here hx rfl (hb hby at_71) rfl ?_
    show Steps p.tables e below (T4.setTop (mkF m 72 #[.val (.int p1), .val (.int p2), .val (.int p3), .val (.int p4), .val (.int p5), .val (.int p6), .val (.int (3 : Int32)), .val (.ref b1), .val (.long (((0 : Int64) + (p1.toInt64)) + (p2.toInt64))), .second, .unset, .unset] [(.long (p3.toInt64)), (.long (((0 : Int64) + (p1.toInt64)) + (p2.toInt64)))])) _
    refine XS.ladd X4.here hx rfl (hb hby at_72) rfl ?_
    show Steps p.tables e below (T4.setTop (mkF m 73 #[.val (.int p1), .val (.int p2), .val (.int p3), .val (.int p4), .val (.int p5), .val (.int p6), .val (.int (3 : Int32)), .val (.ref b1), .val (.long (((0 : Int64) + (p1.toInt64)) + (p2.toInt64))), .second, .unset, .unset] [(.long ((((0 : Int64) + (p1.toInt64)) + (p2.toInt64)) + (p3.toInt64)))])) _
    refine XS.lstore X4.here hx rfl (hb hby at_73) rfl (l' := #[.val (.int p1), .val (.int p2), .val (.int p3), .val (.int p4), .val (.int p5), .val (.int p6), .val (.int (3 : Int32)), .val (.ref b1), .val (.long ((((0 : Int64) + (p1.toInt64)) + (p2.toInt64)) + (p3.toInt64))), .second, .unset, .unset]) rfl ?_
    show Steps p.tables e below (T4.setTop (mkF m 75 #[.val (.int p1), .val (.int p2), .val (.int p3), .val (.int p4), .val (.int p5), .val (.int p6), .val (.int (3 : Int32)), .val (.ref b1), .val (.long ((((0 : Int64) + (p1.toInt64)) + (p2.toInt64)) + (p3.toInt64))), .second, .unset, .unset] [])) _
    refine XS.iload X4.here hx rfl (hb hby at_75) rfl ?_
    show Steps p.tables e below (T4.setTop (mkF m 77 #[.val (.int p1), .val (.int p2), .val (.int p3), .val (.int p4), .val (.int p5), .val (.int p6), .val (.int (3 : Int32)), .val (.ref b1), .val (.long ((((0 : Int64) + (p1.toInt64)) + (p2.toInt64)) + (p3.toInt64))), .second, .unset, .unset] [(.int (3 : Int32))])) _
    refine XS.iconst X4.here hx rfl (hb hby at_77) ?_
    show Steps p.tables e below (T4.setTop (mkF m 78 #[.val (.int p1), .val (.int p2), .val (.int p3), .val (.int p4), .val (.int p5), .val (.int p6), .val (.int (3 : Int32)), .val (.ref b1), .val (.long ((((0 : Int64) + (p1.toInt64)) + (p2.toInt64)) + (p3.toInt64))), .second, .unset, .unset] [(.int (3 : Int32)), (.int (3 : Int32))])) _
    refine XS.icmpYes X4.here hx rfl (pc0 := 78) (pc' := 94) rfl (hb hby at_78) rfl (flt (by decide : ¬ ((3 : Int32) < (3 : Int32)))).2.2.2 (by decide) (by decide) ?_
    show Steps p.tables e below (T4.setTop (mkF m 94 #[.val (.int p1), .val (.int p2), .val (.int p3), .val (.int p4), .val (.int p5), .val (.int p6), .val (.int (3 : Int32)), .val (.ref b1), .val (.long ((((0 : Int64) + (p1.toInt64)) + (p2.toInt64)) + (p3.toInt64))), .second, .unset, .unset] [])) _
    refine XS.iload X4.here hx rfl (hb hby at_94) rfl ?_
    show Steps p.tables e below (T4.setTop (mkF m 96 #[.val (.int p1), .val (.int p2), .val (.int p3), .val (.int p4), .val (.int p5), .val (.int p6), .val (.int (3 : Int32)), .val (.ref b1), .val (.long ((((0 : Int64) + (p1.toInt64)) + (p2.toInt64)) + (p3.toInt64))), .second, .unset, .unset] [(.int (3 : Int32))])) _
    refine XS.iconst X4.here hx rfl (hb hby at_96) ?_
    show Steps p.tables e below (T4.setTop (mkF m 97 #[.val (.int p1), .val (.int p2), .val (.int p3), .val (.int p4), .val (.int p5), .val (.int p6), .val (.int (3 : Int32)), .val (.ref b1), .val (.long ((((0 : Int64) + (p1.toInt64)) + (p2.toInt64)) + (p3.toInt64))), .second, .unset, .unset] [(.int (4 : Int32)), (.int (3 : Int32))])) _
    refine XS.icmpYes X4.here hx rfl (pc0 := 97) (pc' := 115) rfl (hb hby at_97) rfl (flt (by decide : ¬ ((4 : Int32) < (3 : Int32)))).2.2.2 (by decide) (by decide) ?_
    show Steps p.tables e below (T4.setTop (mkF m 115 #[.val (.int p1), .val (.int p2), .val (.int p3), .val (.int p4), .val (.int p5), .val (.int p6), .val (.int (3 : Int32)), .val (.ref b1), .val (.long ((((0 : Int64) + (p1.toInt64)) + (p2.toInt64)) + (p3.toInt64))), .second, .unset, .unset] [])) _
    refine XS.aload X4.here hx rfl (hb hby at_115) rfl rfl ?_
    show Steps p.tables e below (T4.setTop (mkF m 117 #[.val (.int p1), .val (.int p2), .val (.int p3), .val (.int p4), .val (.int p5), .val (.int p6), .val (.int (3 : Int32)), .val (.ref b1), .val (.long ((((0 : Int64) + (p1.toInt64)) + (p2.toInt64)) + (p3.toInt64))), .second, .unset, .unset] [(.ref b1)])) _
    refine st5 _ ?_
    show Steps p.tables e below (T5.setTop (mkF m 120 #[.val (.int p1), .val (.int p2), .val (.int p3), .val (.int p4), .val (.int p5), .val (.int p6), .val (.int (3 : Int32)), .val (.ref b1), .val (.long ((((0 : Int64) + (p1.toInt64)) + (p2.toInt64)) + (p3.toInt64))), .second, .unset, .unset] [(.double (FP.l2d ((((0 : Int64) + p1.toInt64) + p2.toInt64) + p3.toInt64)))])) _
    refine XS.dstore X5.here hx rfl (hb hby at_120) rfl (l' := #[.val (.int p1), .val (.int p2), .val (.int p3), .val (.int p4), .val (.int p5), .val (.int p6), .val (.int (3 : Int32)), .val (.ref b1), .val (.long ((((0 : Int64) + (p1.toInt64)) + (p2.toInt64)) + (p3.toInt64))), .second, .val (.double (FP.l2d ((((0 : Int64) + p1.toInt64) + p2.toInt64) + p3.toInt64))), .second]) rfl ?_
    show Steps p.tables e below (T5.setTop (mkF m 122 #[.val (.int p1), .val (.int p2), .val (.int p3), .val (.int p4), .val (.int p5), .val (.int p6), .val (.int (3 : Int32)), .val (.ref b1), .val (.long ((((0 : Int64) + (p1.toInt64)) + (p2.toInt64)) + (p3.toInt64))), .second, .val (.double (FP.l2d ((((0 : Int64) + p1.toInt64) + p2.toInt64) + p3.toInt64))), .second] [])) _
    refine XS.dload X5.here hx rfl (hb hby at_122) rfl ?_
    show Steps p.tables e below (T5.setTop (mkF m 124 #[.val (.int p1), .val (.int p2), .val (.int p3), .val (.int p4), .val (.int p5), .val (.int p6), .val (.int (3 : Int32)), .val (.ref b1), .val (.long ((((0 : Int64) + (p1.toInt64)) + (p2.toInt64)) + (p3.toInt64))), .second, .val (.double (FP.l2d ((((0 : Int64) + p1.toInt64) + p2.toInt64) + p3.toInt64))), .second] [(.double (FP.l2d ((((0 : Int64) + p1.toInt64) + p2.toInt64) + p3.toInt64)))])) _
    refine XS.lload X5.here hx rfl (hb hby at_124) rfl ?_
    show Steps p.tables e below (T5.setTop (mkF m 126 #[.val (.int p1), .val (.int p2), .val (.int p3), .val (.int p4), .val (.int p5), .val (.int p6), .val (.int (3 : Int32)), .val (.ref b1), .val (.long ((((0 : Int64) + (p1.toInt64)) + (p2.toInt64)) + (p3.toInt64))), .second, .val (.double (FP.l2d ((((0 : Int64) + p1.toInt64) + p2.toInt64) + p3.toInt64))), .second] [(.long ((((0 : Int64) + (p1.toInt64)) + (p2.toInt64)) + (p3.toInt64))), (.double (FP.l2d ((((0 : Int64) + p1.toInt64) + p2.toInt64) + p3.toInt64)))])) _
    refine XS.l2dS X5.here hx rfl (v := (FP.l2d ((((0 : Int64) + (p1.toInt64)) + (p2.toInt64)) + (p3.toInt64)))) (hb hby at_126) rfl rfl ?_
    show Steps p.tables e below (T5.setTop (mkF m 127 #[.val (.int p1), .val (.int p2), .val (.int p3), .val (.int p4), .val (.int p5), .val (.int p6), .val (.int (3 : Int32)), .val (.ref b1), .val (.long ((((0 : Int64) + (p1.toInt64)) + (p2.toInt64)) + (p3.toInt64))), .second, .val (.double (FP.l2d ((((0 : Int64) + p1.toInt64) + p2.toInt64) + p3.toInt64))), .second] [(.double (FP.l2d ((((0 : Int64) + (p1.toInt64)) + (p2.toInt64)) + (p3.toInt64)))), (.double (FP.l2d ((((0 : Int64) + p1.toInt64) + p2.toInt64) + p3.toInt64)))])) _
    refine XS.dcmpS X5.here hx rfl (v := (lcmpW ((((0 : Int64) + p1.toInt64) + p2.toInt64) + p3.toInt64) ((((0 : Int64) + (p1.toInt64)) + (p2.toInt64)) + (p3.toInt64)))) (hb hby at_127) rfl (dcmpV_w ((((own_b0.add (BB.i32 _) (by decide)).add (BB.i32 _) (by decide)).add (BB.i32 _) (by decide)).b53 (by decide)) ((((own_b0.add (BB.i32 _) (by decide)).add (BB.i32 _) (by decide)).add (BB.i32 _) (by decide)).b53 (by decide)) _) ?_
    show Steps p.tables e below (T5.setTop (mkF m 128 #[.val (.int p1), .val (.int p2), .val (.int p3), .val (.int p4), .val (.int p5), .val (.int p6), .val (.int (3 : Int32)), .val (.ref b1), .val (.long ((((0 : Int64) + (p1.toInt64)) + (p2.toInt64)) + (p3.toInt64))), .second, .val (.double (FP.l2d ((((0 : Int64) + p1.toInt64) + p2.toInt64) + p3.toInt64))), .second] [(.int (lcmpW ((((0 : Int64) + p1.toInt64) + p2.toInt64) + p3.toInt64) ((((0 : Int64) + (p1.toInt64)) + (p2.toInt64)) + (p3.toInt64))))])) _
    refine XS.ifNo X5.here hx rfl (hb hby at_128) rfl ((if0 _ _).trans (teq (own_lcmp _ : (lcmpW ((((0 : Int64) + p1.toInt64) + p2.toInt64) + p3.toInt64) ((((0 : Int64) + (p1.toInt64)) + (p2.toInt64)) + (p3.toInt64))) = (0 : Int32))).2) ?_
    show Steps p.tables e below (T5.setTop (mkF m 131 #[.val (.int p1), .val (.int p2), .val (.int p3), .val (.int p4), .val (.int p5), .val (.int p6), .val (.int (3 : Int32)), .val (.ref b1), .val (.long ((((0 : Int64) + (p1.toInt64)) + (p2.toInt64)) + (p3.toInt64))), .second, .val (.double (FP.l2d ((((0 : Int64) + p1.toInt64) + p2.toInt64) + p3.toInt64))), .second] [])) _
    refine XS.iconst X5.here hx rfl (hb hby at_131) ?_
    show Steps p.tables e below (T5.setTop (mkF m 132 #[.val (.int p1), .val (.int p2), .val (.int p3), .val (.int p4), .val (.int p5), .val (.int p6), .val (.int (3 : Int32)), .val (.ref b1), .val (.long ((((0 : Int64) + (p1.toInt64)) + (p2.toInt64)) + (p3.toInt64))), .second, .val (.double (FP.l2d ((((0 : Int64) + p1.toInt64) + p2.toInt64) + p3.toInt64))), .second] [(.int (1 : Int32))])) _
    refine XS.goto X5.here hx rfl (pc0 := 132) (pc' := 136) rfl (hb hby at_132) (by decide) (by decide) ?_
    show Steps p.tables e below (T5.setTop (mkF m 136 #[.val (.int p1), .val (.int p2), .val (.int p3), .val (.int p4), .val (.int p5), .val (.int p6), .val (.int (3 : Int32)), .val (.ref b1), .val (.long ((((0 : Int64) + (p1.toInt64)) + (p2.toInt64)) + (p3.toInt64))), .second, .val (.double (FP.l2d ((((0 : Int64) + p1.toInt64) + p2.toInt64) + p3.toInt64))), .second] [(.int (1 : Int32))])) _
    exact retN X5 hx (t := .boolean) Bd.returns (by simp) (hb hby at_136) hr
  · show Qrm0_3 Z p1 p2 p3 p4 p5 p6 h0 n0 _ T5.heap _
    rw [e5]
    exact ⟨rfl, N5⟩
theorem ef_rm0_4 (m : MethodId) (x0 : Int32) (x1 : Int32) (x2 : Int32) (x3 : Int32) (x4 : Int32) (x5 : Int32) : entryFrame m #[(.int x0), (.int x1), (.int x2), (.int x3), (.int x4), (.int x5)] maxLocals = mkF m 0 #[.val (.int x0), .val (.int x1), .val (.int x2), .val (.int x3), .val (.int x4), .val (.int x5), .unset, .unset, .unset, .unset, .unset, .unset] [] := by first | (simp [entryFrame, mkF, argsToLocals, Value.category, maxLocals]; done) | rfl
def Qrm0_4 (Z : State) (p1 p2 p3 p4 p5 p6 : Int32) (h0 : Heap) (n0 : Nat) (v : Option Value) (h : Heap) (L : List Loc) : Prop := Qrm0 Z p1 p2 p3 p4 p5 p6 h0 n0 v h L
set_option maxRecDepth 65536 in
set_option maxHeartbeats 40000000 in
theorem rm0_4 (l : Launch) (Z : State) (a0 : Array Value) (hw : ∀ d ∈ tables_1, d.before a0 Z = true) (ws : List Jvm.Cond) (p1 p2 p3 p4 p5 p6 : Int32) (h0 : Heap) (n0 : Nat) (Z0 : n0 ≤ h0.size) (hk : ((p6 &&& (2147483647 : Int32)) % (6 : Int32)) = (4 : Int32)) :
    MetFree l x (head1 (Jvm.Cond.code x code maxLocals ret :: ws) room_1) (fun a U => a = #[(.int p1), (.int p2), (.int p3), (.int p4), (.int p5), (.int p6)] ∧ Z.Warmed39 U.vm ∧ U.heap = h0) (fun _ _ _ _ _ => True) (fun _ U o U' => ∃ v L, o = .returned v ∧ Qrm0_4 Z p1 p2 p3 p4 p5 p6 h0 n0 v U'.heap L ∧ FrameEnd U o U' L room_1.cells room_1.slots) := by
  refine MetFree.of_bodySF (plainFor_of_name pn_com_example_weir3_weir3_biology_BiomassMapTotalPinLaw) hisR ?_
  intro p e s m args below meth c s₁ Bd hml0 hP hK
  obtain ⟨rfl, hZ, hh⟩ := hP
  have hx := Bd.exec
  have hby := Bd.bytes
  have hml : c.maxLocals = 12 := hml0
  have hown : s.vm.findClass "com/example/weir3/weir3/biology/BiomassMapTotalPinLaw" = some m.cls := findClass_of_methodNamed Bd.named
  have hnm := (name_of_methodNamed Bd.named Bd.method).1
  have X0 : Stand p l e room_1 s m #[(.int p1), (.int p2), (.int p3), (.int p4), (.int p5), (.int p6)] below meth c s₁ [] 0 0 := Stand.of_body Bd
  have e0 : s₁.heap = h0 := by rw [← hh, Bd.state]; rfl
  have N0 := Fr.nil n0
  have pre0 : ∀ t, Steps p.tables e below (s₁.setTop (mkF m 0 #[.val (.int p1), .val (.int p2), .val (.int p3), .val (.int p4), .val (.int p5), .val (.int p6), .unset, .unset, .unset, .unset, .unset, .unset] [])) t → Steps p.tables e below (s₁.setTop (entryFrame m #[(.int p1), (.int p2), (.int p3), (.int p4), (.int p5), (.int p6)] maxLocals)) t := fun t k => castTop (ef_rm0_4 m p1 p2 p3 p4 p5 p6) k
  obtain ⟨T1, h1, k1, X1, e1, E1, A1, st1⟩ := newP X0 hx hZ (hw _ (List.mem_of_getElem? (i := 1) rfl)) e0 (g := (mkF m 12 #[.val (.int p1), .val (.int p2), .val (.int p3), .val (.int p4), .val (.int p5), .val (.int p6), .val (.int (4 : Int32)), .unset, .unset, .unset, .unset, .unset] [(.int (4 : Int32))])) rfl (hb hby at_12) rfl (by decide) (cap := 4) (by decide) (by decide) (by decide) (by decide)
  obtain ⟨b1, g1⟩ : ∃ z, z = h0.size := ⟨_, rfl⟩
  rw [← g1] at A1 st1
  have g_b1 : n0 ≤ b1 := Nat.le_trans Z0 (Nat.le_of_eq g1.symm)
  have sz_b1 : h0.size ≤ b1 := (Nat.le_trans (Keep.refl h0 []).1 (Nat.le_of_eq g1.symm))
  have V1 : AR Z h1 b1 .double 4 (fun _ => (.double (FP.l2d (0 : Int64)))) := (AR.new A1 (by decide) rfl).eq (fun _ _ => congrArg Value.double l2d_zero)
  have K1 : Keep h0 h1 [] := (Keep.refl h0 []).ext E1
  have Z1 : n0 ≤ h1.size := Nat.le_trans Z0 E1.1
  obtain ⟨T2, h2, X2, e2, W2, V2, st2⟩ := own_stD X1 hx hZ e1 V1 (j := (0 : Int32)) (by decide) (g := (mkF m 29 #[.val (.int p1), .val (.int p2), .val (.int p3), .val (.int p4), .val (.int p5), .val (.int p6), .val (.int (4 : Int32)), .val (.ref b1), .val (.long (0 : Int64)), .second, .unset, .unset] [(.double (FP.l2d p1.toInt64)), (.int (0 : Int32)), (.ref b1)])) rfl rfl (hb hby at_29)
  have K2 : Keep h0 h2 [] := K1.wr W2 (Or.inr sz_b1)
  have N2 := Fr.snoc X2 N0 g_b1
  have Z2 : n0 ≤ h2.size := Nat.le_trans Z1 (Keep.of_wr W2).1
  obtain ⟨T3, h3, X3, e3, W3, V3, st3⟩ := own_stD X2 hx hZ e2 V2 (j := (1 : Int32)) (by decide) (g := (mkF m 48 #[.val (.int p1), .val (.int p2), .val (.int p3), .val (.int p4), .val (.int p5), .val (.int p6), .val (.int (4 : Int32)), .val (.ref b1), .val (.long ((0 : Int64) + (p1.toInt64))), .second, .unset, .unset] [(.double (FP.l2d p2.toInt64)), (.int (1 : Int32)), (.ref b1)])) rfl rfl (hb hby at_48)
  have K3 : Keep h0 h3 [] := K2.wr W3 (Or.inr sz_b1)
  have N3 := Fr.snoc X3 N2 g_b1
  have Z3 : n0 ≤ h3.size := Nat.le_trans Z2 (Keep.of_wr W3).1
  obtain ⟨T4, h4, X4, e4, W4, V4, st4⟩ := own_stD X3 hx hZ e3 V3 (j := (2 : Int32)) (by decide) (g := (mkF m 67 #[.val (.int p1), .val (.int p2), .val (.int p3), .val (.int p4), .val (.int p5), .val (.int p6), .val (.int (4 : Int32)), .val (.ref b1), .val (.long (((0 : Int64) + (p1.toInt64)) + (p2.toInt64))), .second, .unset, .unset] [(.double (FP.l2d p3.toInt64)), (.int (2 : Int32)), (.ref b1)])) rfl rfl (hb hby at_67)
  have K4 : Keep h0 h4 [] := K3.wr W4 (Or.inr sz_b1)
  have N4 := Fr.snoc X4 N3 g_b1
  have Z4 : n0 ≤ h4.size := Nat.le_trans Z3 (Keep.of_wr W4).1
  obtain ⟨T5, h5, X5, e5, W5, V5, st5⟩ := own_stD X4 hx hZ e4 V4 (j := (3 : Int32)) (by decide) (g := (mkF m 86 #[.val (.int p1), .val (.int p2), .val (.int p3), .val (.int p4), .val (.int p5), .val (.int p6), .val (.int (4 : Int32)), .val (.ref b1), .val (.long ((((0 : Int64) + (p1.toInt64)) + (p2.toInt64)) + (p3.toInt64))), .second, .unset, .unset] [(.double (FP.l2d p4.toInt64)), (.int (3 : Int32)), (.ref b1)])) rfl rfl (hb hby at_86)
  have K5 : Keep h0 h5 [] := K4.wr W5 (Or.inr sz_b1)
  have N5 := Fr.snoc X5 N4 g_b1
  have Z5 : n0 ≤ h5.size := Nat.le_trans Z4 (Keep.of_wr W5).1
  obtain ⟨_, _, ⟨T6, L6, k6, n6⟩, -, X6, ⟨Lc6, hQ6, l6, y6, z6⟩, st6⟩ := Jvm.LawKit.callS X5 hx (y := (⟨"com/example/weir3/weir3/biology/BiomassMap", "total", "([D)D"⟩ : MethodName)) hown (mvT hZ (hw _ (List.mem_of_getElem? (i := 2) rfl))) (mvT hZ (hw _ (List.mem_of_getElem? (i := 3) rfl))) (mvT hZ (hw _ (List.mem_of_getElem? (i := 4) rfl))) (mvT hZ (hw _ (List.mem_of_getElem? (i := 5) rfl))) (by decide) (backOf (W := 0) (rmT4 l Z a0 hw [] b1 p1.toInt64 p2.toInt64 p3.toInt64 p4.toInt64 h5 n0 Z5 (BB.i32 _) (BB.i32 _) (BB.i32 _) (BB.i32 _) V5) hZ (hw _ (List.mem_of_getElem? (i := 5) rfl)) (hw _ (List.mem_of_getElem? (i := 4) rfl)) (by decide) (by decide)) (g := (mkF m 117 #[.val (.int p1), .val (.int p2), .val (.int p3), .val (.int p4), .val (.int p5), .val (.int p6), .val (.int (4 : Int32)), .val (.ref b1), .val (.long (((((0 : Int64) + (p1.toInt64)) + (p2.toInt64)) + (p3.toInt64)) + (p4.toInt64))), .second, .unset, .unset] [(.ref b1)])) rfl (by rw [hml]; rfl) (argsL := [(.ref b1)]) (rest := []) (lenOf pd__28_5bD_29D rfl) rfl (by show 2 * 0 + _ ≤ _; exact Nat.le_of_eq rfl) (hb hby at_117) (fun _ _ => ⟨rfl, e5, (by decide : 1 + 0 ≤ _), (by decide : 4 + 0 ≤ _)⟩)
  dsimp only [Pt.U, Pt.locs, Pt.cells, Pt.slots] at X6 l6 y6 z6 st6 hQ6
  subst l6 y6 z6
  obtain ⟨rfl, N6q, e6⟩ := hQ6
  have N6 := Fr.app N5 N6q
  obtain ⟨fs, hr, hrun, hended, hW, hsame⟩ := X6.leave (v := some (.int (1 : Int32))) (fun h => by rw [Bd.returns] at h; cases h)
  refine ⟨_, _, pre0 _ (?_), hrun, hended, _, _, rfl, ?_, ⟨_, rfl⟩, hW, hsame.mono (by decide) (by decide)⟩
  · show Steps p.tables e below (s₁.setTop (mkF m 0 #[.val (.int p1), .val (.int p2), .val (.int p3), .val (.int p4), .val (.int p5), .val (.int p6), .unset, .unset, .unset, .unset, .unset, .unset] [])) _
    refine XS.iload X0.here hx rfl (hb hby at_0) rfl ?_
    show Steps p.tables e below (s₁.setTop (mkF m 2 #[.val (.int p1), .val (.int p2), .val (.int p3), .val (.int p4), .val (.int p5), .val (.int p6), .unset, .unset, .unset, .unset, .unset, .unset] [(.int p6)])) _
    refine X0.ldcInt hx hown (mvT hZ (hw _ (List.mem_of_getElem? (i := 0) rfl))) (g := (mkF m 2 #[.val (.int p1), .val (.int p2), .val (.int p3), .val (.int p4), .val (.int p5), .val (.int p6), .unset, .unset, .unset, .unset, .unset, .unset] [(.int p6)])) rfl (hb hby at_2) _ ?_
    show Steps p.tables e below (s₁.setTop (mkF m 4 #[.val (.int p1), .val (.int p2), .val (.int p3), .val (.int p4), .val (.int p5), .val (.int p6), .unset, .unset, .unset, .unset, .unset, .unset] [(.int (2147483647 : Int32)), (.int p6)])) _
    refine XS.iand X0.here hx rfl (hb hby at_4) rfl ?_
    show Steps p.tables e below (s₁.setTop (mkF m 5 #[.val (.int p1), .val (.int p2), .val (.int p3), .val (.int p4), .val (.int p5), .val (.int p6), .unset, .unset, .unset, .unset, .unset, .unset] [(.int (p6 &&& (2147483647 : Int32)))])) _
    refine XS.bipush X0.here hx rfl (hb hby at_5) ?_
    show Steps p.tables e below (s₁.setTop (mkF m 7 #[.val (.int p1), .val (.int p2), .val (.int p3), .val (.int p4), .val (.int p5), .val (.int p6), .unset, .unset, .unset, .unset, .unset, .unset] [(.int (6 : Int32)), (.int (p6 &&& (2147483647 : Int32)))])) _
    refine Jvm.RoadKit.iremM (g := (mkF m 7 #[.val (.int p1), .val (.int p2), .val (.int p3), .val (.int p4), .val (.int p5), .val (.int p6), .unset, .unset, .unset, .unset, .unset, .unset] [(.int (6 : Int32)), (.int (p6 &&& (2147483647 : Int32)))])) X0 hx rfl (hb hby at_7) rfl (by decide) ?_
    show Steps p.tables e below (s₁.setTop (mkF m 8 #[.val (.int p1), .val (.int p2), .val (.int p3), .val (.int p4), .val (.int p5), .val (.int p6), .unset, .unset, .unset, .unset, .unset, .unset] [(.int ((p6 &&& (2147483647 : Int32)) % (6 : Int32)))])) _
    refine XS.istore X0.here hx rfl (hb hby at_8) rfl (l' := #[.val (.int p1), .val (.int p2), .val (.int p3), .val (.int p4), .val (.int p5), .val (.int p6), .val (.int ((p6 &&& (2147483647 : Int32)) % (6 : Int32))), .unset, .unset, .unset, .unset, .unset]) rfl ?_
    show Steps p.tables e below (s₁.setTop (mkF m 10 #[.val (.int p1), .val (.int p2), .val (.int p3), .val (.int p4), .val (.int p5), .val (.int p6), .val (.int ((p6 &&& (2147483647 : Int32)) % (6 : Int32))), .unset, .unset, .unset, .unset, .unset] [])) _
    rw [hk]
    show Steps p.tables e below (s₁.setTop (mkF m 10 #[.val (.int p1), .val (.int p2), .val (.int p3), .val (.int p4), .val (.int p5), .val (.int p6), .val (.int (4 : Int32)), .unset, .unset, .unset, .unset, .unset] [])) _
    refine XS.iload X0.here hx rfl (hb hby at_10) rfl ?_
    show Steps p.tables e below (s₁.setTop (mkF m 12 #[.val (.int p1), .val (.int p2), .val (.int p3), .val (.int p4), .val (.int p5), .val (.int p6), .val (.int (4 : Int32)), .unset, .unset, .unset, .unset, .unset] [(.int (4 : Int32))])) _
    refine st1 _ ?_
    show Steps p.tables e below (T1.setTop (mkF m 14 #[.val (.int p1), .val (.int p2), .val (.int p3), .val (.int p4), .val (.int p5), .val (.int p6), .val (.int (4 : Int32)), .unset, .unset, .unset, .unset, .unset] [(.ref b1)])) _
    refine XS.astore X1.here hx rfl (hb hby at_14) rfl rfl (l' := #[.val (.int p1), .val (.int p2), .val (.int p3), .val (.int p4), .val (.int p5), .val (.int p6), .val (.int (4 : Int32)), .val (.ref b1), .unset, .unset, .unset, .unset]) rfl ?_
    show Steps p.tables e below (T1.setTop (mkF m 16 #[.val (.int p1), .val (.int p2), .val (.int p3), .val (.int p4), .val (.int p5), .val (.int p6), .val (.int (4 : Int32)), .val (.ref b1), .unset, .unset, .unset, .unset] [])) _
    refine XS.lconst X1.here hx rfl (hb hby at_16) ?_
    show Steps p.tables e below (T1.setTop (mkF m 17 #[.val (.int p1), .val (.int p2), .val (.int p3), .val (.int p4), .val (.int p5), .val (.int p6), .val (.int (4 : Int32)), .val (.ref b1), .unset, .unset, .unset, .unset] [(.long (0 : Int64))])) _
    refine XS.lstore X1.here hx rfl (hb hby at_17) rfl (l' := #[.val (.int p1), .val (.int p2), .val (.int p3), .val (.int p4), .val (.int p5), .val (.int p6), .val (.int (4 : Int32)), .val (.ref b1), .val (.long (0 : Int64)), .second, .unset, .unset]) rfl ?_
    show Steps p.tables e below (T1.setTop (mkF m 19 #[.val (.int p1), .val (.int p2), .val (.int p3), .val (.int p4), .val (.int p5), .val (.int p6), .val (.int (4 : Int32)), .val (.ref b1), .val (.long (0 : Int64)), .second, .unset, .unset] [])) _
    refine XS.iload X1.here hx rfl (hb hby at_19) rfl ?_
    show Steps p.tables e below (T1.setTop (mkF m 21 #[.val (.int p1), .val (.int p2), .val (.int p3), .val (.int p4), .val (.int p5), .val (.int p6), .val (.int (4 : Int32)), .val (.ref b1), .val (.long (0 : Int64)), .second, .unset, .unset] [(.int (4 : Int32))])) _
    refine XS.ifNo X1.here hx rfl (hb hby at_21) rfl ((if0 _ _).trans (tlt (by decide : (0 : Int32) < (4 : Int32))).2.2.2) ?_
    show Steps p.tables e below (T1.setTop (mkF m 24 #[.val (.int p1), .val (.int p2), .val (.int p3), .val (.int p4), .val (.int p5), .val (.int p6), .val (.int (4 : Int32)), .val (.ref b1), .val (.long (0 : Int64)), .second, .unset, .unset] [])) _
    refine XS.aload X1.here hx rfl (hb hby at_24) rfl rfl ?_
    show Steps p.tables e below (T1.setTop (mkF m 26 #[.val (.int p1), .val (.int p2), .val (.int p3), .val (.int p4), .val (.int p5), .val (.int p6), .val (.int (4 : Int32)), .val (.ref b1), .val (.long (0 : Int64)), .second, .unset, .unset] [(.ref b1)])) _
    refine XS.iconst X1.here hx rfl (hb hby at_26) ?_
    show Steps p.tables e below (T1.setTop (mkF m 27 #[.val (.int p1), .val (.int p2), .val (.int p3), .val (.int p4), .val (.int p5), .val (.int p6), .val (.int (4 : Int32)), .val (.ref b1), .val (.long (0 : Int64)), .second, .unset, .unset] [(.int (0 : Int32)), (.ref b1)])) _
    refine XS.iloadN X1.here hx rfl (hb hby at_27) rfl ?_
    show Steps p.tables e below (T1.setTop (mkF m 28 #[.val (.int p1), .val (.int p2), .val (.int p3), .val (.int p4), .val (.int p5), .val (.int p6), .val (.int (4 : Int32)), .val (.ref b1), .val (.long (0 : Int64)), .second, .unset, .unset] [(.int p1), (.int (0 : Int32)), (.ref b1)])) _
    refine XS.i2dS X1.here hx rfl (v := (FP.l2d p1.toInt64)) (hb hby at_28) rfl (i2d_w _) ?_
    show Steps p.tables e below (T1.setTop (mkF m 29 #[.val (.int p1), .val (.int p2), .val (.int p3), .val (.int p4), .val (.int p5), .val (.int p6), .val (.int (4 : Int32)), .val (.ref b1), .val (.long (0 : Int64)), .second, .unset, .unset] [(.double (FP.l2d p1.toInt64)), (.int (0 : Int32)), (.ref b1)])) _
    refine st2 _ ?_
    show Steps p.tables e below (T2.setTop (mkF m 30 #[.val (.int p1), .val (.int p2), .val (.int p3), .val (.int p4), .val (.int p5), .val (.int p6), .val (.int (4 : Int32)), .val (.ref b1), .val (.long (0 : Int64)), .second, .unset, .unset] [])) _
    refine XS.lload X2.here hx rfl (hb hby at_30) rfl ?_
    show Steps p.tables e below (T2.setTop (mkF m 32 #[.val (.int p1), .val (.int p2), .val (.int p3), .val (.int p4), .val (.int p5), .val (.int p6), .val (.int (4 : Int32)), .val (.ref b1), .val (.long (0 : Int64)), .second, .unset, .unset] [(.long (0 : Int64))])) _
    refine XS.iloadN X2.here hx rfl (hb hby at_32) rfl ?_
    show Steps p.tables e below (T2.setTop (mkF m 33 #[.val (.int p1), .val (.int p2), .val (.int p3), .val (.int p4), .val (.int p5), .val (.int p6), .val (.int (4 : Int32)), .val (.ref b1), .val (.long (0 : Int64)), .second, .unset, .unset] [(.int p1), (.long (0 : Int64))])) _
    refine XS.i2l X2.here hx rfl (hb hby at_33) rfl ?_
    show Steps p.tables e below (T2.setTop (mkF m 34 #[.val (.int p1), .val (.int p2), .val (.int p3), .val (.int p4), .val (.int p5), .val (.int p6), .val (.int (4 : Int32)), .val (.ref b1), .val (.long (0 : Int64)), .second, .unset, .unset] [(.long (p1.toInt64)), (.long (0 : Int64))])) _
    refine XS.ladd X2.here hx rfl (hb hby at_34) rfl ?_
    show Steps p.tables e below (T2.setTop (mkF m 35 #[.val (.int p1), .val (.int p2), .val (.int p3), .val (.int p4), .val (.int p5), .val (.int p6), .val (.int (4 : Int32)), .val (.ref b1), .val (.long (0 : Int64)), .second, .unset, .unset] [(.long ((0 : Int64) + (p1.toInt64)))])) _
    refine XS.lstore X2.here hx rfl (hb hby at_35) rfl (l' := #[.val (.int p1), .val (.int p2), .val (.int p3), .val (.int p4), .val (.int p5), .val (.int p6), .val (.int (4 : Int32)), .val (.ref b1), .val (.long ((0 : Int64) + (p1.toInt64))), .second, .unset, .unset]) rfl ?_
    show Steps p.tables e below (T2.setTop (mkF m 37 #[.val (.int p1), .val (.int p2), .val (.int p3), .val (.int p4), .val (.int p5), .val (.int p6), .val (.int (4 : Int32)), .val (.ref b1), .val (.long ((0 : Int64) + (p1.toInt64))), .second, .unset, .unset] [])) _
    refine XS.iload X2.here hx rfl (hb hby at_37) rfl ?_
    show Steps p.tables e below (T2.setTop (mkF m 39 #[.val (.int p1), .val (.int p2), .val (.int p3), .val (.int p4), .val (.int p5), .val (.int p6), .val (.int (4 : Int32)), .val (.ref b1), .val (.long ((0 : Int64) + (p1.toInt64))), .second, .unset, .unset] [(.int (4 : Int32))])) _
    refine XS.iconst X2.here hx rfl (hb hby at_39) ?_
    show Steps p.tables e below (T2.setTop (mkF m 40 #[.val (.int p1), .val (.int p2), .val (.int p3), .val (.int p4), .val (.int p5), .val (.int p6), .val (.int (4 : Int32)), .val (.ref b1), .val (.long ((0 : Int64) + (p1.toInt64))), .second, .unset, .unset] [(.int (1 : Int32)), (.int (4 : Int32))])) _
    refine XS.icmpNo X2.here hx rfl (hb hby at_40) rfl (tlt (by decide : (1 : Int32) < (4 : Int32))).2.2.2 ?_
    show Steps p.tables e below (T2.setTop (mkF m 43 #[.val (.int p1), .val (.int p2), .val (.int p3), .val (.int p4), .val (.int p5), .val (.int p6), .val (.int (4 : Int32)), .val (.ref b1), .val (.long ((0 : Int64) + (p1.toInt64))), .second, .unset, .unset] [])) _
    refine XS.aload X2.here hx rfl (hb hby at_43) rfl rfl ?_
    show Steps p.tables e below (T2.setTop (mkF m 45 #[.val (.int p1), .val (.int p2), .val (.int p3), .val (.int p4), .val (.int p5), .val (.int p6), .val (.int (4 : Int32)), .val (.ref b1), .val (.long ((0 : Int64) + (p1.toInt64))), .second, .unset, .unset] [(.ref b1)])) _
    refine XS.iconst X2.here hx rfl (hb hby at_45) ?_
    show Steps p.tables e below (T2.setTop (mkF m 46 #[.val (.int p1), .val (.int p2), .val (.int p3), .val (.int p4), .val (.int p5), .val (.int p6), .val (.int (4 : Int32)), .val (.ref b1), .val (.long ((0 : Int64) + (p1.toInt64))), .second, .unset, .unset] [(.int (1 : Int32)), (.ref b1)])) _
    refine XS.iloadN X2.here hx rfl (hb hby at_46) rfl ?_
    show Steps p.tables e below (T2.setTop (mkF m 47 #[.val (.int p1), .val (.int p2), .val (.int p3), .val (.int p4), .val (.int p5), .val (.int p6), .val (.int (4 : Int32)), .val (.ref b1), .val (.long ((0 : Int64) + (p1.toInt64))), .second, .unset, .unset] [(.int p2), (.int (1 : Int32)), (.ref b1)])) _
    refine XS.i2dS X2.here hx rfl (v := (FP.l2d p2.toInt64)) (hb hby at_47) rfl (i2d_w _) ?_
    show Steps p.tables e below (T2.setTop (mkF m 48 #[.val (.int p1), .val (.int p2), .val (.int p3), .val (.int p4), .val (.int p5), .val (.int p6), .val (.int (4 : Int32)), .val (.ref b1), .val (.long ((0 : Int64) + (p1.toInt64))), .second, .unset, .unset] [(.double (FP.l2d p2.toInt64)), (.int (1 : Int32)), (.ref b1)])) _
    refine st3 _ ?_
    show Steps p.tables e below (T3.setTop (mkF m 49 #[.val (.int p1), .val (.int p2), .val (.int p3), .val (.int p4), .val (.int p5), .val (.int p6), .val (.int (4 : Int32)), .val (.ref b1), .val (.long ((0 : Int64) + (p1.toInt64))), .second, .unset, .unset] [])) _
    refine XS.lload X3.here hx rfl (hb hby at_49) rfl ?_
    show Steps p.tables e below (T3.setTop (mkF m 51 #[.val (.int p1), .val (.int p2), .val (.int p3), .val (.int p4), .val (.int p5), .val (.int p6), .val (.int (4 : Int32)), .val (.ref b1), .val (.long ((0 : Int64) + (p1.toInt64))), .second, .unset, .unset] [(.long ((0 : Int64) + (p1.toInt64)))])) _
    refine XS.iloadN X3.here hx rfl (hb hby at_51) rfl ?_
    show Steps p.tables e below (T3.setTop (mkF m 52 #[.val (.int p1), .val (.int p2), .val (.int p3), .val (.int p4), .val (.int p5), .val (.int p6), .val (.int (4 : Int32)), .val (.ref b1), .val (.long ((0 : Int64) + (p1.toInt64))), .second, .unset, .unset] [(.int p2), (.long ((0 : Int64) + (p1.toInt64)))])) _
    refine XS.i2l X3.here hx rfl (hb hby at_52) rfl ?_
    show Steps p.tables e below (T3.setTop (mkF m 53 #[.val (.int p1), .val (.int p2), .val (.int p3), .val (.int p4), .val (.int p5), .val (.int p6), .val (.int (4 : Int32)), .val (.ref b1), .val (.long ((0 : Int64) + (p1.toInt64))), .second, .unset, .unset] [(.long (p2.toInt64)), (.long ((0 : Int64) + (p1.toInt64)))])) _
    refine XS.ladd X3.here hx rfl (hb hby at_53) rfl ?_
    show Steps p.tables e below (T3.setTop (mkF m 54 #[.val (.int p1), .val (.int p2), .val (.int p3), .val (.int p4), .val (.int p5), .val (.int p6), .val (.int (4 : Int32)), .val (.ref b1), .val (.long ((0 : Int64) + (p1.toInt64))), .second, .unset, .unset] [(.long (((0 : Int64) + (p1.toInt64)) + (p2.toInt64)))])) _
    refine XS.lstore X3.here hx rfl (hb hby at_54) rfl (l' := #[.val (.int p1), .val (.int p2), .val (.int p3), .val (.int p4), .val (.int p5), .val (.int p6), .val (.int (4 : Int32)), .val (.ref b1), .val (.long (((0 : Int64) + (p1.toInt64)) + (p2.toInt64))), .second, .unset, .unset]) rfl ?_
    show Steps p.tables e below (T3.setTop (mkF m 56 #[.val (.int p1), .val (.int p2), .val (.int p3), .val (.int p4), .val (.int p5), .val (.int p6), .val (.int (4 : Int32)), .val (.ref b1), .val (.long (((0 : Int64) + (p1.toInt64)) + (p2.toInt64))), .second, .unset, .unset] [])) _
    refine XS.iload X3.here hx rfl (hb hby at_56) rfl ?_
    show Steps p.tables e below (T3.setTop (mkF m 58 #[.val (.int p1), .val (.int p2), .val (.int p3), .val (.int p4), .val (.int p5), .val (.int p6), .val (.int (4 : Int32)), .val (.ref b1), .val (.long (((0 : Int64) + (p1.toInt64)) + (p2.toInt64))), .second, .unset, .unset] [(.int (4 : Int32))])) _
    refine XS.iconst X3.here hx rfl (hb hby at_58) ?_
    show Steps p.tables e below (T3.setTop (mkF m 59 #[.val (.int p1), .val (.int p2), .val (.int p3), .val (.int p4), .val (.int p5), .val (.int p6), .val (.int (4 : Int32)), .val (.ref b1), .val (.long (((0 : Int64) + (p1.toInt64)) + (p2.toInt64))), .second, .unset, .unset] [(.int (2 : Int32)), (.int (4 : Int32))])) _
    refine XS.icmpNo X3.here hx rfl (hb hby at_59) rfl (tlt (by decide : (2 : Int32) < (4 : Int32))).2.2.2 ?_
    show Steps p.tables e below (T3.setTop (mkF m 62 #[.val (.int p1), .val (.int p2), .val (.int p3), .val (.int p4), .val (.int p5), .val (.int p6), .val (.int (4 : Int32)), .val (.ref b1), .val (.long (((0 : Int64) + (p1.toInt64)) + (p2.toInt64))), .second, .unset, .unset] [])) _
    refine XS.aload X3.here hx rfl (hb hby at_62) rfl rfl ?_
    show Steps p.tables e below (T3.setTop (mkF m 64 #[.val (.int p1), .val (.int p2), .val (.int p3), .val (.int p4), .val (.int p5), .val (.int p6), .val (.int (4 : Int32)), .val (.ref b1), .val (.long (((0 : Int64) + (p1.toInt64)) + (p2.toInt64))), .second, .unset, .unset] [(.ref b1)])) _
    refine XS.iconst X3.here hx rfl (hb hby at_64) ?_
    show Steps p.tables e below (T3.setTop (mkF m 65 #[.val (.int p1), .val (.int p2), .val (.int p3), .val (.int p4), .val (.int p5), .val (.int p6), .val (.int (4 : Int32)), .val (.ref b1), .val (.long (((0 : Int64) + (p1.toInt64)) + (p2.toInt64))), .second, .unset, .unset] [(.int (2 : Int32)), (.ref b1)])) _
    refine XS.iloadN X3.here hx rfl (hb hby at_65) rfl ?_
    show Steps p.tables e below (T3.setTop (mkF m 66 #[.val (.int p1), .val (.int p2), .val (.int p3), .val (.int p4), .val (.int p5), .val (.int p6), .val (.int (4 : Int32)), .val (.ref b1), .val (.long (((0 : Int64) + (p1.toInt64)) + (p2.toInt64))), .second, .unset, .unset] [(.int p3), (.int (2 : Int32)), (.ref b1)])) _
    refine XS.i2dS X3.here hx rfl (v := (FP.l2d p3.toInt64)) (hb hby at_66) rfl (i2d_w _) ?_
    show Steps p.tables e below (T3.setTop (mkF m 67 #[.val (.int p1), .val (.int p2), .val (.int p3), .val (.int p4), .val (.int p5), .val (.int p6), .val (.int (4 : Int32)), .val (.ref b1), .val (.long (((0 : Int64) + (p1.toInt64)) + (p2.toInt64))), .second, .unset, .unset] [(.double (FP.l2d p3.toInt64)), (.int (2 : Int32)), (.ref b1)])) _
    refine st4 _ ?_
    show Steps p.tables e below (T4.setTop (mkF m 68 #[.val (.int p1), .val (.int p2), .val (.int p3), .val (.int p4), .val (.int p5), .val (.int p6), .val (.int (4 : Int32)), .val (.ref b1), .val (.long (((0 : Int64) + (p1.toInt64)) + (p2.toInt64))), .second, .unset, .unset] [])) _
    refine XS.lload X4.here hx rfl (hb hby at_68) rfl ?_
    show Steps p.tables e below (T4.setTop (mkF m 70 #[.val (.int p1), .val (.int p2), .val (.int p3), .val (.int p4), .val (.int p5), .val (.int p6), .val (.int (4 : Int32)), .val (.ref b1), .val (.long (((0 : Int64) + (p1.toInt64)) + (p2.toInt64))), .second, .unset, .unset] [(.long (((0 : Int64) + (p1.toInt64)) + (p2.toInt64)))])) _
    refine XS.iloadN X4.here hx rfl (hb hby at_70) rfl ?_
    show Steps p.tables e below (T4.setTop (mkF m 71 #[.val (.int p1), .val (.int p2), .val (.int p3), .val (.int p4), .val (.int p5), .val (.int p6), .val (.int (4 : Int32)), .val (.ref b1), .val (.long (((0 : Int64) + (p1.toInt64)) + (p2.toInt64))), .second, .unset, .unset] [(.int p3), (.long (((0 : Int64) + (p1.toInt64)) + (p2.toInt64)))])) _
    refine XS.i2l X4.here hx rfl (hb hby at_71) rfl ?_
    show Steps p.tables e below (T4.setTop (mkF m 72 #[.val (.int p1), .val (.int p2), .val (.int p3), .val (.int p4), .val (.int p5), .val (.int p6), .val (.int (4 : Int32)), .val (.ref b1), .val (.long (((0 : Int64) + (p1.toInt64)) + (p2.toInt64))), .second, .unset, .unset] [(.long (p3.toInt64)), (.long (((0 : Int64) + (p1.toInt64)) + (p2.toInt64)))])) _
    refine XS.ladd X4.here hx rfl (hb hby at_72) rfl ?_
    show Steps p.tables e below (T4.setTop (mkF m 73 #[.val (.int p1), .val (.int p2), .val (.int p3), .val (.int p4), .val (.int p5), .val (.int p6), .val (.int (4 : Int32)), .val (.ref b1), .val (.long (((0 : Int64) + (p1.toInt64)) + (p2.toInt64))), .second, .unset, .unset] [(.long ((((0 : Int64) + (p1.toInt64)) + (p2.toInt64)) + (p3.toInt64)))])) _
    refine XS.lstore X4.here hx rfl (hb hby at_73) rfl (l' := #[.val (.int p1), .val (.int p2), .val (.int p3), .val (.int p4), .val (.int p5), .val (.int p6), .val (.int (4 : Int32)), .val (.ref b1), .val (.long ((((0 : Int64) + (p1.toInt64)) + (p2.toInt64)) + (p3.toInt64))), .second, .unset, .unset]) rfl ?_
    show Steps p.tables e below (T4.setTop (mkF m 75 #[.val (.int p1), .val (.int p2), .val (.int p3), .val (.int p4), .val (.int p5), .val (.int p6), .val (.int (4 : Int32)), .val (.ref b1), .val (.long ((((0 : Int64) + (p1.toInt64)) + (p2.toInt64)) + (p3.toInt64))), .second, .unset, .unset] [])) _
    refine XS.iload X4.here hx rfl (hb hby at_75) rfl ?_
    show Steps p.tables e below (T4.setTop (mkF m 77 #[.val (.int p1), .val (.int p2), .val (.int p3), .val (.int p4), .val (.int p5), .val (.int p6), .val (.int (4 : Int32)), .val (.ref b1), .val (.long ((((0 : Int64) + (p1.toInt64)) + (p2.toInt64)) + (p3.toInt64))), .second, .unset, .unset] [(.int (4 : Int32))])) _
    refine XS.iconst X4.here hx rfl (hb hby at_77) ?_
    show Steps p.tables e below (T4.setTop (mkF m 78 #[.val (.int p1), .val (.int p2), .val (.int p3), .val (.int p4), .val (.int p5), .val (.int p6), .val (.int (4 : Int32)), .val (.ref b1), .val (.long ((((0 : Int64) + (p1.toInt64)) + (p2.toInt64)) + (p3.toInt64))), .second, .unset, .unset] [(.int (3 : Int32)), (.int (4 : Int32))])) _
    refine XS.icmpNo X4.here hx rfl (hb hby at_78) rfl (tlt (by decide : (3 : Int32) < (4 : Int32))).2.2.2 ?_
    show Steps p.tables e below (T4.setTop (mkF m 81 #[.val (.int p1), .val (.int p2), .val (.int p3), .val (.int p4), .val (.int p5), .val (.int p6), .val (.int (4 : Int32)), .val (.ref b1), .val (.long ((((0 : Int64) + (p1.toInt64)) + (p2.toInt64)) + (p3.toInt64))), .second, .unset, .unset] [])) _
    refine XS.aload X4.here hx rfl (hb hby at_81) rfl rfl ?_
    show Steps p.tables e below (T4.setTop (mkF m 83 #[.val (.int p1), .val (.int p2), .val (.int p3), .val (.int p4), .val (.int p5), .val (.int p6), .val (.int (4 : Int32)), .val (.ref b1), .val (.long ((((0 : Int64) + (p1.toInt64)) + (p2.toInt64)) + (p3.toInt64))), .second, .unset, .unset] [(.ref b1)])) _
    refine XS.iconst X4.here hx rfl (hb hby at_83) ?_
    show Steps p.tables e below (T4.setTop (mkF m 84 #[.val (.int p1), .val (.int p2), .val (.int p3), .val (.int p4), .val (.int p5), .val (.int p6), .val (.int (4 : Int32)), .val (.ref b1), .val (.long ((((0 : Int64) + (p1.toInt64)) + (p2.toInt64)) + (p3.toInt64))), .second, .unset, .unset] [(.int (3 : Int32)), (.ref b1)])) _
    refine XS.iloadN X4.here hx rfl (hb hby at_84) rfl ?_
    show Steps p.tables e below (T4.setTop (mkF m 85 #[.val (.int p1), .val (.int p2), .val (.int p3), .val (.int p4), .val (.int p5), .val (.int p6), .val (.int (4 : Int32)), .val (.ref b1), .val (.long ((((0 : Int64) + (p1.toInt64)) + (p2.toInt64)) + (p3.toInt64))), .second, .unset, .unset] [(.int p4), (.int (3 : Int32)), (.ref b1)])) _
    refine XS.i2dS X4.here hx rfl (v := (FP.l2d p4.toInt64)) (hb hby at_85) rfl (i2d_w _) ?_
    show Steps p.tables e below (T4.setTop (mkF m 86 #[.val (.int p1), .val (.int p2), .val (.int p3), .val (.int p4), .val (.int p5), .val (.int p6), .val (.int (4 : Int32)), .val (.ref b1), .val (.long ((((0 : Int64) + (p1.toInt64)) + (p2.toInt64)) + (p3.toInt64))), .second, .unset, .unset] [(.double (FP.l2d p4.toInt64)), (.int (3 : Int32)), (.ref b1)])) _
    refine st5 _ ?_
    show Steps p.tables e below (T5.setTop (mkF m 87 #[.val (.int p1), .val (.int p2), .val (.int p3), .val (.int p4), .val (.int p5), .val (.int p6), .val (.int (4 : Int32)), .val (.ref b1), .val (.long ((((0 : Int64) + (p1.toInt64)) + (p2.toInt64)) + (p3.toInt64))), .second, .unset, .unset] [])) _
    refine XS.lload X5.here hx rfl (hb hby at_87) rfl ?_
    show Steps p.tables e below (T5.setTop (mkF m 89 #[.val (.int p1), .val (.int p2), .val (.int p3), .val (.int p4), .val (.int p5), .val (.int p6), .val (.int (4 : Int32)), .val (.ref b1), .val (.long ((((0 : Int64) + (p1.toInt64)) + (p2.toInt64)) + (p3.toInt64))), .second, .unset, .unset] [(.long ((((0 : Int64) + (p1.toInt64)) + (p2.toInt64)) + (p3.toInt64)))])) _
    refine XS.iloadN X5.here hx rfl (hb hby at_89) rfl ?_
    show Steps p.tables e below (T5.setTop (mkF m 90 #[.val (.int p1), .val (.int p2), .val (.int p3), .val (.int p4), .val (.int p5), .val (.int p6), .val (.int (4 : Int32)), .val (.ref b1), .val (.long ((((0 : Int64) + (p1.toInt64)) + (p2.toInt64)) + (p3.toInt64))), .second, .unset, .unset] [(.int p4), (.long ((((0 : Int64) + (p1.toInt64)) + (p2.toInt64)) + (p3.toInt64)))])) _
    refine XS.i2l X5.here hx rfl (hb hby at_90) rfl ?_
    show Steps p.tables e below (T5.setTop (mkF m 91 #[.val (.int p1), .val (.int p2), .val (.int p3), .val (.int p4), .val (.int p5), .val (.int p6), .val (.int (4 : Int32)), .val (.ref b1), .val (.long ((((0 : Int64) + (p1.toInt64)) + (p2.toInt64)) + (p3.toInt64))), .second, .unset, .unset] [(.long (p4.toInt64)), (.long ((((0 : Int64) + (p1.toInt64)) + (p2.toInt64)) + (p3.toInt64)))])) _
    refine XS.ladd X5.here hx rfl (hb hby at_91) rfl ?_
    show Steps p.tables e below (T5.setTop (mkF m 92 #[.val (.int p1), .val (.int p2), .val (.int p3), .val (.int p4), .val (.int p5), .val (.int p6), .val (.int (4 : Int32)), .val (.ref b1), .val (.long ((((0 : Int64) + (p1.toInt64)) + (p2.toInt64)) + (p3.toInt64))), .second, .unset, .unset] [(.long (((((0 : Int64) + (p1.toInt64)) + (p2.toInt64)) + (p3.toInt64)) + (p4.toInt64)))])) _
    refine XS.lstore X5.here hx rfl (hb hby at_92) rfl (l' := #[.val (.int p1), .val (.int p2), .val (.int p3), .val (.int p4), .val (.int p5), .val (.int p6), .val (.int (4 : Int32)), .val (.ref b1), .val (.long (((((0 : Int64) + (p1.toInt64)) + (p2.toInt64)) + (p3.toInt64)) + (p4.toInt64))), .second, .unset, .unset]) rfl ?_
    show Steps p.tables e below (T5.setTop (mkF m 94 #[.val (.int p1), .val (.int p2), .val (.int p3), .val (.int p4), .val (.int p5), .val (.int p6), .val (.int (4 : Int32)), .val (.ref b1), .val (.long (((((0 : Int64) + (p1.toInt64)) + (p2.toInt64)) + (p3.toInt64)) + (p4.toInt64))), .second, .unset, .unset] [])) _
    refine XS.iload X5.here hx rfl (hb hby at_94) rfl ?_
    show Steps p.tables e below (T5.setTop (mkF m 96 #[.val (.int p1), .val (.int p2), .val (.int p3), .val (.int p4), .val (.int p5), .val (.int p6), .val (.int (4 : Int32)), .val (.ref b1), .val (.long (((((0 : Int64) + (p1.toInt64)) + (p2.toInt64)) + (p3.toInt64)) + (p4.toInt64))), .second, .unset, .unset] [(.int (4 : Int32))])) _
    refine XS.iconst X5.here hx rfl (hb hby at_96) ?_
    show Steps p.tables e below (T5.setTop (mkF m 97 #[.val (.int p1), .val (.int p2), .val (.int p3), .val (.int p4), .val (.int p5), .val (.int p6), .val (.int (4 : Int32)), .val (.ref b1), .val (.long (((((0 : Int64) + (p1.toInt64)) + (p2.toInt64)) + (p3.toInt64)) + (p4.toInt64))), .second, .unset, .unset] [(.int (4 : Int32)), (.int (4 : Int32))])) _
    refine XS.icmpYes X5.here hx rfl (pc0 := 97) (pc' := 115) rfl (hb hby at_97) rfl (flt (by decide : ¬ ((4 : Int32) < (4 : Int32)))).2.2.2 (by decide) (by decide) ?_
    show Steps p.tables e below (T5.setTop (mkF m 115 #[.val (.int p1), .val (.int p2), .val (.int p3), .val (.int p4), .val (.int p5), .val (.int p6), .val (.int (4 : Int32)), .val (.ref b1), .val (.long (((((0 : Int64) + (p1.toInt64)) + (p2.toInt64)) + (p3.toInt64)) + (p4.toInt64))), .second, .unset, .unset] [])) _
    refine XS.aload X5.here hx rfl (hb hby at_115) rfl rfl ?_
    show Steps p.tables e below (T5.setTop (mkF m 117 #[.val (.int p1), .val (.int p2), .val (.int p3), .val (.int p4), .val (.int p5), .val (.int p6), .val (.int (4 : Int32)), .val (.ref b1), .val (.long (((((0 : Int64) + (p1.toInt64)) + (p2.toInt64)) + (p3.toInt64)) + (p4.toInt64))), .second, .unset, .unset] [(.ref b1)])) _
    refine st6 _ ?_
    show Steps p.tables e below (T6.setTop (mkF m 120 #[.val (.int p1), .val (.int p2), .val (.int p3), .val (.int p4), .val (.int p5), .val (.int p6), .val (.int (4 : Int32)), .val (.ref b1), .val (.long (((((0 : Int64) + (p1.toInt64)) + (p2.toInt64)) + (p3.toInt64)) + (p4.toInt64))), .second, .unset, .unset] [(.double (FP.l2d (((((0 : Int64) + p1.toInt64) + p2.toInt64) + p3.toInt64) + p4.toInt64)))])) _
    refine XS.dstore X6.here hx rfl (hb hby at_120) rfl (l' := #[.val (.int p1), .val (.int p2), .val (.int p3), .val (.int p4), .val (.int p5), .val (.int p6), .val (.int (4 : Int32)), .val (.ref b1), .val (.long (((((0 : Int64) + (p1.toInt64)) + (p2.toInt64)) + (p3.toInt64)) + (p4.toInt64))), .second, .val (.double (FP.l2d (((((0 : Int64) + p1.toInt64) + p2.toInt64) + p3.toInt64) + p4.toInt64))), .second]) rfl ?_
    show Steps p.tables e below (T6.setTop (mkF m 122 #[.val (.int p1), .val (.int p2), .val (.int p3), .val (.int p4), .val (.int p5), .val (.int p6), .val (.int (4 : Int32)), .val (.ref b1), .val (.long (((((0 : Int64) + (p1.toInt64)) + (p2.toInt64)) + (p3.toInt64)) + (p4.toInt64))), .second, .val (.double (FP.l2d (((((0 : Int64) + p1.toInt64) + p2.toInt64) + p3.toInt64) + p4.toInt64))), .second] [])) _
    refine XS.dload X6.here hx rfl (hb hby at_122) rfl ?_
    show Steps p.tables e below (T6.setTop (mkF m 124 #[.val (.int p1), .val (.int p2), .val (.int p3), .val (.int p4), .val (.int p5), .val (.int p6), .val (.int (4 : Int32)), .val (.ref b1), .val (.long (((((0 : Int64) + (p1.toInt64)) + (p2.toInt64)) + (p3.toInt64)) + (p4.toInt64))), .second, .val (.double (FP.l2d (((((0 : Int64) + p1.toInt64) + p2.toInt64) + p3.toInt64) + p4.toInt64))), .second] [(.double (FP.l2d (((((0 : Int64) + p1.toInt64) + p2.toInt64) + p3.toInt64) + p4.toInt64)))])) _
    refine XS.lload X6.here hx rfl (hb hby at_124) rfl ?_
    show Steps p.tables e below (T6.setTop (mkF m 126 #[.val (.int p1), .val (.int p2), .val (.int p3), .val (.int p4), .val (.int p5), .val (.int p6), .val (.int (4 : Int32)), .val (.ref b1), .val (.long (((((0 : Int64) + (p1.toInt64)) + (p2.toInt64)) + (p3.toInt64)) + (p4.toInt64))), .second, .val (.double (FP.l2d (((((0 : Int64) + p1.toInt64) + p2.toInt64) + p3.toInt64) + p4.toInt64))), .second] [(.long (((((0 : Int64) + (p1.toInt64)) + (p2.toInt64)) + (p3.toInt64)) + (p4.toInt64))), (.double (FP.l2d (((((0 : Int64) + p1.toInt64) + p2.toInt64) + p3.toInt64) + p4.toInt64)))])) _
    refine XS.l2dS X6.here hx rfl (v := (FP.l2d (((((0 : Int64) + (p1.toInt64)) + (p2.toInt64)) + (p3.toInt64)) + (p4.toInt64)))) (hb hby at_126) rfl rfl ?_
    show Steps p.tables e below (T6.setTop (mkF m 127 #[.val (.int p1), .val (.int p2), .val (.int p3), .val (.int p4), .val (.int p5), .val (.int p6), .val (.int (4 : Int32)), .val (.ref b1), .val (.long (((((0 : Int64) + (p1.toInt64)) + (p2.toInt64)) + (p3.toInt64)) + (p4.toInt64))), .second, .val (.double (FP.l2d (((((0 : Int64) + p1.toInt64) + p2.toInt64) + p3.toInt64) + p4.toInt64))), .second] [(.double (FP.l2d (((((0 : Int64) + (p1.toInt64)) + (p2.toInt64)) + (p3.toInt64)) + (p4.toInt64)))), (.double (FP.l2d (((((0 : Int64) + p1.toInt64) + p2.toInt64) + p3.toInt64) + p4.toInt64)))])) _
    refine XS.dcmpS X6.here hx rfl (v := (lcmpW (((((0 : Int64) + p1.toInt64) + p2.toInt64) + p3.toInt64) + p4.toInt64) (((((0 : Int64) + (p1.toInt64)) + (p2.toInt64)) + (p3.toInt64)) + (p4.toInt64)))) (hb hby at_127) rfl (dcmpV_w (((((own_b0.add (BB.i32 _) (by decide)).add (BB.i32 _) (by decide)).add (BB.i32 _) (by decide)).add (BB.i32 _) (by decide)).b53 (by decide)) (((((own_b0.add (BB.i32 _) (by decide)).add (BB.i32 _) (by decide)).add (BB.i32 _) (by decide)).add (BB.i32 _) (by decide)).b53 (by decide)) _) ?_
    show Steps p.tables e below (T6.setTop (mkF m 128 #[.val (.int p1), .val (.int p2), .val (.int p3), .val (.int p4), .val (.int p5), .val (.int p6), .val (.int (4 : Int32)), .val (.ref b1), .val (.long (((((0 : Int64) + (p1.toInt64)) + (p2.toInt64)) + (p3.toInt64)) + (p4.toInt64))), .second, .val (.double (FP.l2d (((((0 : Int64) + p1.toInt64) + p2.toInt64) + p3.toInt64) + p4.toInt64))), .second] [(.int (lcmpW (((((0 : Int64) + p1.toInt64) + p2.toInt64) + p3.toInt64) + p4.toInt64) (((((0 : Int64) + (p1.toInt64)) + (p2.toInt64)) + (p3.toInt64)) + (p4.toInt64))))])) _
    refine XS.ifNo X6.here hx rfl (hb hby at_128) rfl ((if0 _ _).trans (teq (own_lcmp _ : (lcmpW (((((0 : Int64) + p1.toInt64) + p2.toInt64) + p3.toInt64) + p4.toInt64) (((((0 : Int64) + (p1.toInt64)) + (p2.toInt64)) + (p3.toInt64)) + (p4.toInt64))) = (0 : Int32))).2) ?_
    show Steps p.tables e below (T6.setTop (mkF m 131 #[.val (.int p1), .val (.int p2), .val (.int p3), .val (.int p4), .val (.int p5), .val (.int p6), .val (.int (4 : Int32)), .val (.ref b1), .val (.long (((((0 : Int64) + (p1.toInt64)) + (p2.toInt64)) + (p3.toInt64)) + (p4.toInt64))), .second, .val (.double (FP.l2d (((((0 : Int64) + p1.toInt64) + p2.toInt64) + p3.toInt64) + p4.toInt64))), .second] [])) _
    refine XS.iconst X6.here hx rfl (hb hby at_131) ?_
    show Steps p.tables e below (T6.setTop (mkF m 132 #[.val (.int p1), .val (.int p2), .val (.int p3), .val (.int p4), .val (.int p5), .val (.int p6), .val (.int (4 : Int32)), .val (.ref b1), .val (.long (((((0 : Int64) + (p1.toInt64)) + (p2.toInt64)) + (p3.toInt64)) + (p4.toInt64))), .second, .val (.double (FP.l2d (((((0 : Int64) + p1.toInt64) + p2.toInt64) + p3.toInt64) + p4.toInt64))), .second] [(.int (1 : Int32))])) _
    refine XS.goto X6.here hx rfl (pc0 := 132) (pc' := 136) rfl (hb hby at_132) (by decide) (by decide) ?_
    show Steps p.tables e below (T6.setTop (mkF m 136 #[.val (.int p1), .val (.int p2), .val (.int p3), .val (.int p4), .val (.int p5), .val (.int p6), .val (.int (4 : Int32)), .val (.ref b1), .val (.long (((((0 : Int64) + (p1.toInt64)) + (p2.toInt64)) + (p3.toInt64)) + (p4.toInt64))), .second, .val (.double (FP.l2d (((((0 : Int64) + p1.toInt64) + p2.toInt64) + p3.toInt64) + p4.toInt64))), .second] [(.int (1 : Int32))])) _
    exact retN X6 hx (t := .boolean) Bd.returns (by simp) (hb hby at_136) hr
  · show Qrm0_4 Z p1 p2 p3 p4 p5 p6 h0 n0 _ T6.heap _
    rw [e6]
    exact ⟨rfl, N6⟩
theorem ef_rm0_5 (m : MethodId) (x0 : Int32) (x1 : Int32) (x2 : Int32) (x3 : Int32) (x4 : Int32) (x5 : Int32) : entryFrame m #[(.int x0), (.int x1), (.int x2), (.int x3), (.int x4), (.int x5)] maxLocals = mkF m 0 #[.val (.int x0), .val (.int x1), .val (.int x2), .val (.int x3), .val (.int x4), .val (.int x5), .unset, .unset, .unset, .unset, .unset, .unset] [] := by first | (simp [entryFrame, mkF, argsToLocals, Value.category, maxLocals]; done) | rfl
def Qrm0_5 (Z : State) (p1 p2 p3 p4 p5 p6 : Int32) (h0 : Heap) (n0 : Nat) (v : Option Value) (h : Heap) (L : List Loc) : Prop := Qrm0 Z p1 p2 p3 p4 p5 p6 h0 n0 v h L
set_option maxRecDepth 65536 in
set_option maxHeartbeats 40000000 in
theorem rm0_5 (l : Launch) (Z : State) (a0 : Array Value) (hw : ∀ d ∈ tables_1, d.before a0 Z = true) (ws : List Jvm.Cond) (p1 p2 p3 p4 p5 p6 : Int32) (h0 : Heap) (n0 : Nat) (Z0 : n0 ≤ h0.size) (hk : ((p6 &&& (2147483647 : Int32)) % (6 : Int32)) = (5 : Int32)) :
    MetFree l x (head1 (Jvm.Cond.code x code maxLocals ret :: ws) room_1) (fun a U => a = #[(.int p1), (.int p2), (.int p3), (.int p4), (.int p5), (.int p6)] ∧ Z.Warmed39 U.vm ∧ U.heap = h0) (fun _ _ _ _ _ => True) (fun _ U o U' => ∃ v L, o = .returned v ∧ Qrm0_5 Z p1 p2 p3 p4 p5 p6 h0 n0 v U'.heap L ∧ FrameEnd U o U' L room_1.cells room_1.slots) := by
  refine MetFree.of_bodySF (plainFor_of_name pn_com_example_weir3_weir3_biology_BiomassMapTotalPinLaw) hisR ?_
  intro p e s m args below meth c s₁ Bd hml0 hP hK
  obtain ⟨rfl, hZ, hh⟩ := hP
  have hx := Bd.exec
  have hby := Bd.bytes
  have hml : c.maxLocals = 12 := hml0
  have hown : s.vm.findClass "com/example/weir3/weir3/biology/BiomassMapTotalPinLaw" = some m.cls := findClass_of_methodNamed Bd.named
  have hnm := (name_of_methodNamed Bd.named Bd.method).1
  have X0 : Stand p l e room_1 s m #[(.int p1), (.int p2), (.int p3), (.int p4), (.int p5), (.int p6)] below meth c s₁ [] 0 0 := Stand.of_body Bd
  have e0 : s₁.heap = h0 := by rw [← hh, Bd.state]; rfl
  have N0 := Fr.nil n0
  have pre0 : ∀ t, Steps p.tables e below (s₁.setTop (mkF m 0 #[.val (.int p1), .val (.int p2), .val (.int p3), .val (.int p4), .val (.int p5), .val (.int p6), .unset, .unset, .unset, .unset, .unset, .unset] [])) t → Steps p.tables e below (s₁.setTop (entryFrame m #[(.int p1), (.int p2), (.int p3), (.int p4), (.int p5), (.int p6)] maxLocals)) t := fun t k => castTop (ef_rm0_5 m p1 p2 p3 p4 p5 p6) k
  obtain ⟨T1, h1, k1, X1, e1, E1, A1, st1⟩ := newP X0 hx hZ (hw _ (List.mem_of_getElem? (i := 1) rfl)) e0 (g := (mkF m 12 #[.val (.int p1), .val (.int p2), .val (.int p3), .val (.int p4), .val (.int p5), .val (.int p6), .val (.int (5 : Int32)), .unset, .unset, .unset, .unset, .unset] [(.int (5 : Int32))])) rfl (hb hby at_12) rfl (by decide) (cap := 5) (by decide) (by decide) (by decide) (by decide)
  obtain ⟨b1, g1⟩ : ∃ z, z = h0.size := ⟨_, rfl⟩
  rw [← g1] at A1 st1
  have g_b1 : n0 ≤ b1 := Nat.le_trans Z0 (Nat.le_of_eq g1.symm)
  have sz_b1 : h0.size ≤ b1 := (Nat.le_trans (Keep.refl h0 []).1 (Nat.le_of_eq g1.symm))
  have V1 : AR Z h1 b1 .double 5 (fun _ => (.double (FP.l2d (0 : Int64)))) := (AR.new A1 (by decide) rfl).eq (fun _ _ => congrArg Value.double l2d_zero)
  have K1 : Keep h0 h1 [] := (Keep.refl h0 []).ext E1
  have Z1 : n0 ≤ h1.size := Nat.le_trans Z0 E1.1
  obtain ⟨T2, h2, X2, e2, W2, V2, st2⟩ := own_stD X1 hx hZ e1 V1 (j := (0 : Int32)) (by decide) (g := (mkF m 29 #[.val (.int p1), .val (.int p2), .val (.int p3), .val (.int p4), .val (.int p5), .val (.int p6), .val (.int (5 : Int32)), .val (.ref b1), .val (.long (0 : Int64)), .second, .unset, .unset] [(.double (FP.l2d p1.toInt64)), (.int (0 : Int32)), (.ref b1)])) rfl rfl (hb hby at_29)
  have K2 : Keep h0 h2 [] := K1.wr W2 (Or.inr sz_b1)
  have N2 := Fr.snoc X2 N0 g_b1
  have Z2 : n0 ≤ h2.size := Nat.le_trans Z1 (Keep.of_wr W2).1
  obtain ⟨T3, h3, X3, e3, W3, V3, st3⟩ := own_stD X2 hx hZ e2 V2 (j := (1 : Int32)) (by decide) (g := (mkF m 48 #[.val (.int p1), .val (.int p2), .val (.int p3), .val (.int p4), .val (.int p5), .val (.int p6), .val (.int (5 : Int32)), .val (.ref b1), .val (.long ((0 : Int64) + (p1.toInt64))), .second, .unset, .unset] [(.double (FP.l2d p2.toInt64)), (.int (1 : Int32)), (.ref b1)])) rfl rfl (hb hby at_48)
  have K3 : Keep h0 h3 [] := K2.wr W3 (Or.inr sz_b1)
  have N3 := Fr.snoc X3 N2 g_b1
  have Z3 : n0 ≤ h3.size := Nat.le_trans Z2 (Keep.of_wr W3).1
  obtain ⟨T4, h4, X4, e4, W4, V4, st4⟩ := own_stD X3 hx hZ e3 V3 (j := (2 : Int32)) (by decide) (g := (mkF m 67 #[.val (.int p1), .val (.int p2), .val (.int p3), .val (.int p4), .val (.int p5), .val (.int p6), .val (.int (5 : Int32)), .val (.ref b1), .val (.long (((0 : Int64) + (p1.toInt64)) + (p2.toInt64))), .second, .unset, .unset] [(.double (FP.l2d p3.toInt64)), (.int (2 : Int32)), (.ref b1)])) rfl rfl (hb hby at_67)
  have K4 : Keep h0 h4 [] := K3.wr W4 (Or.inr sz_b1)
  have N4 := Fr.snoc X4 N3 g_b1
  have Z4 : n0 ≤ h4.size := Nat.le_trans Z3 (Keep.of_wr W4).1
  obtain ⟨T5, h5, X5, e5, W5, V5, st5⟩ := own_stD X4 hx hZ e4 V4 (j := (3 : Int32)) (by decide) (g := (mkF m 86 #[.val (.int p1), .val (.int p2), .val (.int p3), .val (.int p4), .val (.int p5), .val (.int p6), .val (.int (5 : Int32)), .val (.ref b1), .val (.long ((((0 : Int64) + (p1.toInt64)) + (p2.toInt64)) + (p3.toInt64))), .second, .unset, .unset] [(.double (FP.l2d p4.toInt64)), (.int (3 : Int32)), (.ref b1)])) rfl rfl (hb hby at_86)
  have K5 : Keep h0 h5 [] := K4.wr W5 (Or.inr sz_b1)
  have N5 := Fr.snoc X5 N4 g_b1
  have Z5 : n0 ≤ h5.size := Nat.le_trans Z4 (Keep.of_wr W5).1
  obtain ⟨T6, h6, X6, e6, W6, V6, st6⟩ := own_stD X5 hx hZ e5 V5 (j := (4 : Int32)) (by decide) (g := (mkF m 106 #[.val (.int p1), .val (.int p2), .val (.int p3), .val (.int p4), .val (.int p5), .val (.int p6), .val (.int (5 : Int32)), .val (.ref b1), .val (.long (((((0 : Int64) + (p1.toInt64)) + (p2.toInt64)) + (p3.toInt64)) + (p4.toInt64))), .second, .unset, .unset] [(.double (FP.l2d p5.toInt64)), (.int (4 : Int32)), (.ref b1)])) rfl rfl (hb hby at_106)
  have K6 : Keep h0 h6 [] := K5.wr W6 (Or.inr sz_b1)
  have N6 := Fr.snoc X6 N5 g_b1
  have Z6 : n0 ≤ h6.size := Nat.le_trans Z5 (Keep.of_wr W6).1
  obtain ⟨_, _, ⟨T7, L7, k7, n7⟩, -, X7, ⟨Lc7, hQ7, l7, y7, z7⟩, st7⟩ := Jvm.LawKit.callS X6 hx (y := (⟨"com/example/weir3/weir3/biology/BiomassMap", "total", "([D)D"⟩ : MethodName)) hown (mvT hZ (hw _ (List.mem_of_getElem? (i := 2) rfl))) (mvT hZ (hw _ (List.mem_of_getElem? (i := 3) rfl))) (mvT hZ (hw _ (List.mem_of_getElem? (i := 4) rfl))) (mvT hZ (hw _ (List.mem_of_getElem? (i := 5) rfl))) (by decide) (backOf (W := 0) (rmT5 l Z a0 hw [] b1 p1.toInt64 p2.toInt64 p3.toInt64 p4.toInt64 p5.toInt64 h6 n0 Z6 (BB.i32 _) (BB.i32 _) (BB.i32 _) (BB.i32 _) (BB.i32 _) V6) hZ (hw _ (List.mem_of_getElem? (i := 5) rfl)) (hw _ (List.mem_of_getElem? (i := 4) rfl)) (by decide) (by decide)) (g := (mkF m 117 #[.val (.int p1), .val (.int p2), .val (.int p3), .val (.int p4), .val (.int p5), .val (.int p6), .val (.int (5 : Int32)), .val (.ref b1), .val (.long ((((((0 : Int64) + (p1.toInt64)) + (p2.toInt64)) + (p3.toInt64)) + (p4.toInt64)) + (p5.toInt64))), .second, .unset, .unset] [(.ref b1)])) rfl (by rw [hml]; rfl) (argsL := [(.ref b1)]) (rest := []) (lenOf pd__28_5bD_29D rfl) rfl (by show 2 * 0 + _ ≤ _; exact Nat.le_of_eq rfl) (hb hby at_117) (fun _ _ => ⟨rfl, e6, (by decide : 1 + 0 ≤ _), (by decide : 5 + 0 ≤ _)⟩)
  dsimp only [Pt.U, Pt.locs, Pt.cells, Pt.slots] at X7 l7 y7 z7 st7 hQ7
  subst l7 y7 z7
  obtain ⟨rfl, N7q, e7⟩ := hQ7
  have N7 := Fr.app N6 N7q
  obtain ⟨fs, hr, hrun, hended, hW, hsame⟩ := X7.leave (v := some (.int (1 : Int32))) (fun h => by rw [Bd.returns] at h; cases h)
  refine ⟨_, _, pre0 _ (?_), hrun, hended, _, _, rfl, ?_, ⟨_, rfl⟩, hW, hsame.mono (by decide) (by decide)⟩
  · show Steps p.tables e below (s₁.setTop (mkF m 0 #[.val (.int p1), .val (.int p2), .val (.int p3), .val (.int p4), .val (.int p5), .val (.int p6), .unset, .unset, .unset, .unset, .unset, .unset] [])) _
    refine XS.iload X0.here hx rfl (hb hby at_0) rfl ?_
    show Steps p.tables e below (s₁.setTop (mkF m 2 #[.val (.int p1), .val (.int p2), .val (.int p3), .val (.int p4), .val (.int p5), .val (.int p6), .unset, .unset, .unset, .unset, .unset, .unset] [(.int p6)])) _
    refine X0.ldcInt hx hown (mvT hZ (hw _ (List.mem_of_getElem? (i := 0) rfl))) (g := (mkF m 2 #[.val (.int p1), .val (.int p2), .val (.int p3), .val (.int p4), .val (.int p5), .val (.int p6), .unset, .unset, .unset, .unset, .unset, .unset] [(.int p6)])) rfl (hb hby at_2) _ ?_
    show Steps p.tables e below (s₁.setTop (mkF m 4 #[.val (.int p1), .val (.int p2), .val (.int p3), .val (.int p4), .val (.int p5), .val (.int p6), .unset, .unset, .unset, .unset, .unset, .unset] [(.int (2147483647 : Int32)), (.int p6)])) _
    refine XS.iand X0.here hx rfl (hb hby at_4) rfl ?_
    show Steps p.tables e below (s₁.setTop (mkF m 5 #[.val (.int p1), .val (.int p2), .val (.int p3), .val (.int p4), .val (.int p5), .val (.int p6), .unset, .unset, .unset, .unset, .unset, .unset] [(.int (p6 &&& (2147483647 : Int32)))])) _
    refine XS.bipush X0.here hx rfl (hb hby at_5) ?_
    show Steps p.tables e below (s₁.setTop (mkF m 7 #[.val (.int p1), .val (.int p2), .val (.int p3), .val (.int p4), .val (.int p5), .val (.int p6), .unset, .unset, .unset, .unset, .unset, .unset] [(.int (6 : Int32)), (.int (p6 &&& (2147483647 : Int32)))])) _
    refine Jvm.RoadKit.iremM (g := (mkF m 7 #[.val (.int p1), .val (.int p2), .val (.int p3), .val (.int p4), .val (.int p5), .val (.int p6), .unset, .unset, .unset, .unset, .unset, .unset] [(.int (6 : Int32)), (.int (p6 &&& (2147483647 : Int32)))])) X0 hx rfl (hb hby at_7) rfl (by decide) ?_
    show Steps p.tables e below (s₁.setTop (mkF m 8 #[.val (.int p1), .val (.int p2), .val (.int p3), .val (.int p4), .val (.int p5), .val (.int p6), .unset, .unset, .unset, .unset, .unset, .unset] [(.int ((p6 &&& (2147483647 : Int32)) % (6 : Int32)))])) _
    refine XS.istore X0.here hx rfl (hb hby at_8) rfl (l' := #[.val (.int p1), .val (.int p2), .val (.int p3), .val (.int p4), .val (.int p5), .val (.int p6), .val (.int ((p6 &&& (2147483647 : Int32)) % (6 : Int32))), .unset, .unset, .unset, .unset, .unset]) rfl ?_
    show Steps p.tables e below (s₁.setTop (mkF m 10 #[.val (.int p1), .val (.int p2), .val (.int p3), .val (.int p4), .val (.int p5), .val (.int p6), .val (.int ((p6 &&& (2147483647 : Int32)) % (6 : Int32))), .unset, .unset, .unset, .unset, .unset] [])) _
    rw [hk]
    show Steps p.tables e below (s₁.setTop (mkF m 10 #[.val (.int p1), .val (.int p2), .val (.int p3), .val (.int p4), .val (.int p5), .val (.int p6), .val (.int (5 : Int32)), .unset, .unset, .unset, .unset, .unset] [])) _
    refine XS.iload X0.here hx rfl (hb hby at_10) rfl ?_
    show Steps p.tables e below (s₁.setTop (mkF m 12 #[.val (.int p1), .val (.int p2), .val (.int p3), .val (.int p4), .val (.int p5), .val (.int p6), .val (.int (5 : Int32)), .unset, .unset, .unset, .unset, .unset] [(.int (5 : Int32))])) _
    refine st1 _ ?_
    show Steps p.tables e below (T1.setTop (mkF m 14 #[.val (.int p1), .val (.int p2), .val (.int p3), .val (.int p4), .val (.int p5), .val (.int p6), .val (.int (5 : Int32)), .unset, .unset, .unset, .unset, .unset] [(.ref b1)])) _
    refine XS.astore X1.here hx rfl (hb hby at_14) rfl rfl (l' := #[.val (.int p1), .val (.int p2), .val (.int p3), .val (.int p4), .val (.int p5), .val (.int p6), .val (.int (5 : Int32)), .val (.ref b1), .unset, .unset, .unset, .unset]) rfl ?_
    show Steps p.tables e below (T1.setTop (mkF m 16 #[.val (.int p1), .val (.int p2), .val (.int p3), .val (.int p4), .val (.int p5), .val (.int p6), .val (.int (5 : Int32)), .val (.ref b1), .unset, .unset, .unset, .unset] [])) _
    refine XS.lconst X1.here hx rfl (hb hby at_16) ?_
    show Steps p.tables e below (T1.setTop (mkF m 17 #[.val (.int p1), .val (.int p2), .val (.int p3), .val (.int p4), .val (.int p5), .val (.int p6), .val (.int (5 : Int32)), .val (.ref b1), .unset, .unset, .unset, .unset] [(.long (0 : Int64))])) _
    refine XS.lstore X1.here hx rfl (hb hby at_17) rfl (l' := #[.val (.int p1), .val (.int p2), .val (.int p3), .val (.int p4), .val (.int p5), .val (.int p6), .val (.int (5 : Int32)), .val (.ref b1), .val (.long (0 : Int64)), .second, .unset, .unset]) rfl ?_
    show Steps p.tables e below (T1.setTop (mkF m 19 #[.val (.int p1), .val (.int p2), .val (.int p3), .val (.int p4), .val (.int p5), .val (.int p6), .val (.int (5 : Int32)), .val (.ref b1), .val (.long (0 : Int64)), .second, .unset, .unset] [])) _
    refine XS.iload X1.here hx rfl (hb hby at_19) rfl ?_
    show Steps p.tables e below (T1.setTop (mkF m 21 #[.val (.int p1), .val (.int p2), .val (.int p3), .val (.int p4), .val (.int p5), .val (.int p6), .val (.int (5 : Int32)), .val (.ref b1), .val (.long (0 : Int64)), .second, .unset, .unset] [(.int (5 : Int32))])) _
    refine XS.ifNo X1.here hx rfl (hb hby at_21) rfl ((if0 _ _).trans (tlt (by decide : (0 : Int32) < (5 : Int32))).2.2.2) ?_
    show Steps p.tables e below (T1.setTop (mkF m 24 #[.val (.int p1), .val (.int p2), .val (.int p3), .val (.int p4), .val (.int p5), .val (.int p6), .val (.int (5 : Int32)), .val (.ref b1), .val (.long (0 : Int64)), .second, .unset, .unset] [])) _
    refine XS.aload X1.here hx rfl (hb hby at_24) rfl rfl ?_
    show Steps p.tables e below (T1.setTop (mkF m 26 #[.val (.int p1), .val (.int p2), .val (.int p3), .val (.int p4), .val (.int p5), .val (.int p6), .val (.int (5 : Int32)), .val (.ref b1), .val (.long (0 : Int64)), .second, .unset, .unset] [(.ref b1)])) _
    refine XS.iconst X1.here hx rfl (hb hby at_26) ?_
    show Steps p.tables e below (T1.setTop (mkF m 27 #[.val (.int p1), .val (.int p2), .val (.int p3), .val (.int p4), .val (.int p5), .val (.int p6), .val (.int (5 : Int32)), .val (.ref b1), .val (.long (0 : Int64)), .second, .unset, .unset] [(.int (0 : Int32)), (.ref b1)])) _
    refine XS.iloadN X1.here hx rfl (hb hby at_27) rfl ?_
    show Steps p.tables e below (T1.setTop (mkF m 28 #[.val (.int p1), .val (.int p2), .val (.int p3), .val (.int p4), .val (.int p5), .val (.int p6), .val (.int (5 : Int32)), .val (.ref b1), .val (.long (0 : Int64)), .second, .unset, .unset] [(.int p1), (.int (0 : Int32)), (.ref b1)])) _
    refine XS.i2dS X1.here hx rfl (v := (FP.l2d p1.toInt64)) (hb hby at_28) rfl (i2d_w _) ?_
    show Steps p.tables e below (T1.setTop (mkF m 29 #[.val (.int p1), .val (.int p2), .val (.int p3), .val (.int p4), .val (.int p5), .val (.int p6), .val (.int (5 : Int32)), .val (.ref b1), .val (.long (0 : Int64)), .second, .unset, .unset] [(.double (FP.l2d p1.toInt64)), (.int (0 : Int32)), (.ref b1)])) _
    refine st2 _ ?_
    show Steps p.tables e below (T2.setTop (mkF m 30 #[.val (.int p1), .val (.int p2), .val (.int p3), .val (.int p4), .val (.int p5), .val (.int p6), .val (.int (5 : Int32)), .val (.ref b1), .val (.long (0 : Int64)), .second, .unset, .unset] [])) _
    refine XS.lload X2.here hx rfl (hb hby at_30) rfl ?_
    show Steps p.tables e below (T2.setTop (mkF m 32 #[.val (.int p1), .val (.int p2), .val (.int p3), .val (.int p4), .val (.int p5), .val (.int p6), .val (.int (5 : Int32)), .val (.ref b1), .val (.long (0 : Int64)), .second, .unset, .unset] [(.long (0 : Int64))])) _
    refine XS.iloadN X2.here hx rfl (hb hby at_32) rfl ?_
    show Steps p.tables e below (T2.setTop (mkF m 33 #[.val (.int p1), .val (.int p2), .val (.int p3), .val (.int p4), .val (.int p5), .val (.int p6), .val (.int (5 : Int32)), .val (.ref b1), .val (.long (0 : Int64)), .second, .unset, .unset] [(.int p1), (.long (0 : Int64))])) _
    refine XS.i2l X2.here hx rfl (hb hby at_33) rfl ?_
    show Steps p.tables e below (T2.setTop (mkF m 34 #[.val (.int p1), .val (.int p2), .val (.int p3), .val (.int p4), .val (.int p5), .val (.int p6), .val (.int (5 : Int32)), .val (.ref b1), .val (.long (0 : Int64)), .second, .unset, .unset] [(.long (p1.toInt64)), (.long (0 : Int64))])) _
    refine XS.ladd X2.here hx rfl (hb hby at_34) rfl ?_
    show Steps p.tables e below (T2.setTop (mkF m 35 #[.val (.int p1), .val (.int p2), .val (.int p3), .val (.int p4), .val (.int p5), .val (.int p6), .val (.int (5 : Int32)), .val (.ref b1), .val (.long (0 : Int64)), .second, .unset, .unset] [(.long ((0 : Int64) + (p1.toInt64)))])) _
    refine XS.lstore X2.here hx rfl (hb hby at_35) rfl (l' := #[.val (.int p1), .val (.int p2), .val (.int p3), .val (.int p4), .val (.int p5), .val (.int p6), .val (.int (5 : Int32)), .val (.ref b1), .val (.long ((0 : Int64) + (p1.toInt64))), .second, .unset, .unset]) rfl ?_
    show Steps p.tables e below (T2.setTop (mkF m 37 #[.val (.int p1), .val (.int p2), .val (.int p3), .val (.int p4), .val (.int p5), .val (.int p6), .val (.int (5 : Int32)), .val (.ref b1), .val (.long ((0 : Int64) + (p1.toInt64))), .second, .unset, .unset] [])) _
    refine XS.iload X2.here hx rfl (hb hby at_37) rfl ?_
    show Steps p.tables e below (T2.setTop (mkF m 39 #[.val (.int p1), .val (.int p2), .val (.int p3), .val (.int p4), .val (.int p5), .val (.int p6), .val (.int (5 : Int32)), .val (.ref b1), .val (.long ((0 : Int64) + (p1.toInt64))), .second, .unset, .unset] [(.int (5 : Int32))])) _
    refine XS.iconst X2.here hx rfl (hb hby at_39) ?_
    show Steps p.tables e below (T2.setTop (mkF m 40 #[.val (.int p1), .val (.int p2), .val (.int p3), .val (.int p4), .val (.int p5), .val (.int p6), .val (.int (5 : Int32)), .val (.ref b1), .val (.long ((0 : Int64) + (p1.toInt64))), .second, .unset, .unset] [(.int (1 : Int32)), (.int (5 : Int32))])) _
    refine XS.icmpNo X2.here hx rfl (hb hby at_40) rfl (tlt (by decide : (1 : Int32) < (5 : Int32))).2.2.2 ?_
    show Steps p.tables e below (T2.setTop (mkF m 43 #[.val (.int p1), .val (.int p2), .val (.int p3), .val (.int p4), .val (.int p5), .val (.int p6), .val (.int (5 : Int32)), .val (.ref b1), .val (.long ((0 : Int64) + (p1.toInt64))), .second, .unset, .unset] [])) _
    refine XS.aload X2.here hx rfl (hb hby at_43) rfl rfl ?_
    show Steps p.tables e below (T2.setTop (mkF m 45 #[.val (.int p1), .val (.int p2), .val (.int p3), .val (.int p4), .val (.int p5), .val (.int p6), .val (.int (5 : Int32)), .val (.ref b1), .val (.long ((0 : Int64) + (p1.toInt64))), .second, .unset, .unset] [(.ref b1)])) _
    refine XS.iconst X2.here hx rfl (hb hby at_45) ?_
    show Steps p.tables e below (T2.setTop (mkF m 46 #[.val (.int p1), .val (.int p2), .val (.int p3), .val (.int p4), .val (.int p5), .val (.int p6), .val (.int (5 : Int32)), .val (.ref b1), .val (.long ((0 : Int64) + (p1.toInt64))), .second, .unset, .unset] [(.int (1 : Int32)), (.ref b1)])) _
    refine XS.iloadN X2.here hx rfl (hb hby at_46) rfl ?_
    show Steps p.tables e below (T2.setTop (mkF m 47 #[.val (.int p1), .val (.int p2), .val (.int p3), .val (.int p4), .val (.int p5), .val (.int p6), .val (.int (5 : Int32)), .val (.ref b1), .val (.long ((0 : Int64) + (p1.toInt64))), .second, .unset, .unset] [(.int p2), (.int (1 : Int32)), (.ref b1)])) _
    refine XS.i2dS X2.here hx rfl (v := (FP.l2d p2.toInt64)) (hb hby at_47) rfl (i2d_w _) ?_
    show Steps p.tables e below (T2.setTop (mkF m 48 #[.val (.int p1), .val (.int p2), .val (.int p3), .val (.int p4), .val (.int p5), .val (.int p6), .val (.int (5 : Int32)), .val (.ref b1), .val (.long ((0 : Int64) + (p1.toInt64))), .second, .unset, .unset] [(.double (FP.l2d p2.toInt64)), (.int (1 : Int32)), (.ref b1)])) _
    refine st3 _ ?_
    show Steps p.tables e below (T3.setTop (mkF m 49 #[.val (.int p1), .val (.int p2), .val (.int p3), .val (.int p4), .val (.int p5), .val (.int p6), .val (.int (5 : Int32)), .val (.ref b1), .val (.long ((0 : Int64) + (p1.toInt64))), .second, .unset, .unset] [])) _
    refine XS.lload X3.here hx rfl (hb hby at_49) rfl ?_
    show Steps p.tables e below (T3.setTop (mkF m 51 #[.val (.int p1), .val (.int p2), .val (.int p3), .val (.int p4), .val (.int p5), .val (.int p6), .val (.int (5 : Int32)), .val (.ref b1), .val (.long ((0 : Int64) + (p1.toInt64))), .second, .unset, .unset] [(.long ((0 : Int64) + (p1.toInt64)))])) _
    refine XS.iloadN X3.here hx rfl (hb hby at_51) rfl ?_
    show Steps p.tables e below (T3.setTop (mkF m 52 #[.val (.int p1), .val (.int p2), .val (.int p3), .val (.int p4), .val (.int p5), .val (.int p6), .val (.int (5 : Int32)), .val (.ref b1), .val (.long ((0 : Int64) + (p1.toInt64))), .second, .unset, .unset] [(.int p2), (.long ((0 : Int64) + (p1.toInt64)))])) _
    refine XS.i2l X3.here hx rfl (hb hby at_52) rfl ?_
    show Steps p.tables e below (T3.setTop (mkF m 53 #[.val (.int p1), .val (.int p2), .val (.int p3), .val (.int p4), .val (.int p5), .val (.int p6), .val (.int (5 : Int32)), .val (.ref b1), .val (.long ((0 : Int64) + (p1.toInt64))), .second, .unset, .unset] [(.long (p2.toInt64)), (.long ((0 : Int64) + (p1.toInt64)))])) _
    refine XS.ladd X3.here hx rfl (hb hby at_53) rfl ?_
    show Steps p.tables e below (T3.setTop (mkF m 54 #[.val (.int p1), .val (.int p2), .val (.int p3), .val (.int p4), .val (.int p5), .val (.int p6), .val (.int (5 : Int32)), .val (.ref b1), .val (.long ((0 : Int64) + (p1.toInt64))), .second, .unset, .unset] [(.long (((0 : Int64) + (p1.toInt64)) + (p2.toInt64)))])) _
    refine XS.lstore X3.here hx rfl (hb hby at_54) rfl (l' := #[.val (.int p1), .val (.int p2), .val (.int p3), .val (.int p4), .val (.int p5), .val (.int p6), .val (.int (5 : Int32)), .val (.ref b1), .val (.long (((0 : Int64) + (p1.toInt64)) + (p2.toInt64))), .second, .unset, .unset]) rfl ?_
    show Steps p.tables e below (T3.setTop (mkF m 56 #[.val (.int p1), .val (.int p2), .val (.int p3), .val (.int p4), .val (.int p5), .val (.int p6), .val (.int (5 : Int32)), .val (.ref b1), .val (.long (((0 : Int64) + (p1.toInt64)) + (p2.toInt64))), .second, .unset, .unset] [])) _
    refine XS.iload X3.here hx rfl (hb hby at_56) rfl ?_
    show Steps p.tables e below (T3.setTop (mkF m 58 #[.val (.int p1), .val (.int p2), .val (.int p3), .val (.int p4), .val (.int p5), .val (.int p6), .val (.int (5 : Int32)), .val (.ref b1), .val (.long (((0 : Int64) + (p1.toInt64)) + (p2.toInt64))), .second, .unset, .unset] [(.int (5 : Int32))])) _
    refine XS.iconst X3.here hx rfl (hb hby at_58) ?_
    show Steps p.tables e below (T3.setTop (mkF m 59 #[.val (.int p1), .val (.int p2), .val (.int p3), .val (.int p4), .val (.int p5), .val (.int p6), .val (.int (5 : Int32)), .val (.ref b1), .val (.long (((0 : Int64) + (p1.toInt64)) + (p2.toInt64))), .second, .unset, .unset] [(.int (2 : Int32)), (.int (5 : Int32))])) _
    refine XS.icmpNo X3.here hx rfl (hb hby at_59) rfl (tlt (by decide : (2 : Int32) < (5 : Int32))).2.2.2 ?_
    show Steps p.tables e below (T3.setTop (mkF m 62 #[.val (.int p1), .val (.int p2), .val (.int p3), .val (.int p4), .val (.int p5), .val (.int p6), .val (.int (5 : Int32)), .val (.ref b1), .val (.long (((0 : Int64) + (p1.toInt64)) + (p2.toInt64))), .second, .unset, .unset] [])) _
    refine XS.aload X3.here hx rfl (hb hby at_62) rfl rfl ?_
    show Steps p.tables e below (T3.setTop (mkF m 64 #[.val (.int p1), .val (.int p2), .val (.int p3), .val (.int p4), .val (.int p5), .val (.int p6), .val (.int (5 : Int32)), .val (.ref b1), .val (.long (((0 : Int64) + (p1.toInt64)) + (p2.toInt64))), .second, .unset, .unset] [(.ref b1)])) _
    refine XS.iconst X3.here hx rfl (hb hby at_64) ?_
    show Steps p.tables e below (T3.setTop (mkF m 65 #[.val (.int p1), .val (.int p2), .val (.int p3), .val (.int p4), .val (.int p5), .val (.int p6), .val (.int (5 : Int32)), .val (.ref b1), .val (.long (((0 : Int64) + (p1.toInt64)) + (p2.toInt64))), .second, .unset, .unset] [(.int (2 : Int32)), (.ref b1)])) _
    refine XS.iloadN X3.here hx rfl (hb hby at_65) rfl ?_
    show Steps p.tables e below (T3.setTop (mkF m 66 #[.val (.int p1), .val (.int p2), .val (.int p3), .val (.int p4), .val (.int p5), .val (.int p6), .val (.int (5 : Int32)), .val (.ref b1), .val (.long (((0 : Int64) + (p1.toInt64)) + (p2.toInt64))), .second, .unset, .unset] [(.int p3), (.int (2 : Int32)), (.ref b1)])) _
    refine XS.i2dS X3.here hx rfl (v := (FP.l2d p3.toInt64)) (hb hby at_66) rfl (i2d_w _) ?_
    show Steps p.tables e below (T3.setTop (mkF m 67 #[.val (.int p1), .val (.int p2), .val (.int p3), .val (.int p4), .val (.int p5), .val (.int p6), .val (.int (5 : Int32)), .val (.ref b1), .val (.long (((0 : Int64) + (p1.toInt64)) + (p2.toInt64))), .second, .unset, .unset] [(.double (FP.l2d p3.toInt64)), (.int (2 : Int32)), (.ref b1)])) _
    refine st4 _ ?_
    show Steps p.tables e below (T4.setTop (mkF m 68 #[.val (.int p1), .val (.int p2), .val (.int p3), .val (.int p4), .val (.int p5), .val (.int p6), .val (.int (5 : Int32)), .val (.ref b1), .val (.long (((0 : Int64) + (p1.toInt64)) + (p2.toInt64))), .second, .unset, .unset] [])) _
    refine XS.lload X4.here hx rfl (hb hby at_68) rfl ?_
    show Steps p.tables e below (T4.setTop (mkF m 70 #[.val (.int p1), .val (.int p2), .val (.int p3), .val (.int p4), .val (.int p5), .val (.int p6), .val (.int (5 : Int32)), .val (.ref b1), .val (.long (((0 : Int64) + (p1.toInt64)) + (p2.toInt64))), .second, .unset, .unset] [(.long (((0 : Int64) + (p1.toInt64)) + (p2.toInt64)))])) _
    refine XS.iloadN X4.here hx rfl (hb hby at_70) rfl ?_
    show Steps p.tables e below (T4.setTop (mkF m 71 #[.val (.int p1), .val (.int p2), .val (.int p3), .val (.int p4), .val (.int p5), .val (.int p6), .val (.int (5 : Int32)), .val (.ref b1), .val (.long (((0 : Int64) + (p1.toInt64)) + (p2.toInt64))), .second, .unset, .unset] [(.int p3), (.long (((0 : Int64) + (p1.toInt64)) + (p2.toInt64)))])) _
    refine XS.i2l X4.here hx rfl (hb hby at_71) rfl ?_
    show Steps p.tables e below (T4.setTop (mkF m 72 #[.val (.int p1), .val (.int p2), .val (.int p3), .val (.int p4), .val (.int p5), .val (.int p6), .val (.int (5 : Int32)), .val (.ref b1), .val (.long (((0 : Int64) + (p1.toInt64)) + (p2.toInt64))), .second, .unset, .unset] [(.long (p3.toInt64)), (.long (((0 : Int64) + (p1.toInt64)) + (p2.toInt64)))])) _
    refine XS.ladd X4.here hx rfl (hb hby at_72) rfl ?_
    show Steps p.tables e below (T4.setTop (mkF m 73 #[.val (.int p1), .val (.int p2), .val (.int p3), .val (.int p4), .val (.int p5), .val (.int p6), .val (.int (5 : Int32)), .val (.ref b1), .val (.long (((0 : Int64) + (p1.toInt64)) + (p2.toInt64))), .second, .unset, .unset] [(.long ((((0 : Int64) + (p1.toInt64)) + (p2.toInt64)) + (p3.toInt64)))])) _
    refine XS.lstore X4.here hx rfl (hb hby at_73) rfl (l' := #[.val (.int p1), .val (.int p2), .val (.int p3), .val (.int p4), .val (.int p5), .val (.int p6), .val (.int (5 : Int32)), .val (.ref b1), .val (.long ((((0 : Int64) + (p1.toInt64)) + (p2.toInt64)) + (p3.toInt64))), .second, .unset, .unset]) rfl ?_
    show Steps p.tables e below (T4.setTop (mkF m 75 #[.val (.int p1), .val (.int p2), .val (.int p3), .val (.int p4), .val (.int p5), .val (.int p6), .val (.int (5 : Int32)), .val (.ref b1), .val (.long ((((0 : Int64) + (p1.toInt64)) + (p2.toInt64)) + (p3.toInt64))), .second, .unset, .unset] [])) _
    refine XS.iload X4.here hx rfl (hb hby at_75) rfl ?_
    show Steps p.tables e below (T4.setTop (mkF m 77 #[.val (.int p1), .val (.int p2), .val (.int p3), .val (.int p4), .val (.int p5), .val (.int p6), .val (.int (5 : Int32)), .val (.ref b1), .val (.long ((((0 : Int64) + (p1.toInt64)) + (p2.toInt64)) + (p3.toInt64))), .second, .unset, .unset] [(.int (5 : Int32))])) _
    refine XS.iconst X4.here hx rfl (hb hby at_77) ?_
    show Steps p.tables e below (T4.setTop (mkF m 78 #[.val (.int p1), .val (.int p2), .val (.int p3), .val (.int p4), .val (.int p5), .val (.int p6), .val (.int (5 : Int32)), .val (.ref b1), .val (.long ((((0 : Int64) + (p1.toInt64)) + (p2.toInt64)) + (p3.toInt64))), .second, .unset, .unset] [(.int (3 : Int32)), (.int (5 : Int32))])) _
    refine XS.icmpNo X4.here hx rfl (hb hby at_78) rfl (tlt (by decide : (3 : Int32) < (5 : Int32))).2.2.2 ?_
    show Steps p.tables e below (T4.setTop (mkF m 81 #[.val (.int p1), .val (.int p2), .val (.int p3), .val (.int p4), .val (.int p5), .val (.int p6), .val (.int (5 : Int32)), .val (.ref b1), .val (.long ((((0 : Int64) + (p1.toInt64)) + (p2.toInt64)) + (p3.toInt64))), .second, .unset, .unset] [])) _
    refine XS.aload X4.here hx rfl (hb hby at_81) rfl rfl ?_
    show Steps p.tables e below (T4.setTop (mkF m 83 #[.val (.int p1), .val (.int p2), .val (.int p3), .val (.int p4), .val (.int p5), .val (.int p6), .val (.int (5 : Int32)), .val (.ref b1), .val (.long ((((0 : Int64) + (p1.toInt64)) + (p2.toInt64)) + (p3.toInt64))), .second, .unset, .unset] [(.ref b1)])) _
    refine XS.iconst X4.here hx rfl (hb hby at_83) ?_
    show Steps p.tables e below (T4.setTop (mkF m 84 #[.val (.int p1), .val (.int p2), .val (.int p3), .val (.int p4), .val (.int p5), .val (.int p6), .val (.int (5 : Int32)), .val (.ref b1), .val (.long ((((0 : Int64) + (p1.toInt64)) + (p2.toInt64)) + (p3.toInt64))), .second, .unset, .unset] [(.int (3 : Int32)), (.ref b1)])) _
    refine XS.iloadN X4.here hx rfl (hb hby at_84) rfl ?_
    show Steps p.tables e below (T4.setTop (mkF m 85 #[.val (.int p1), .val (.int p2), .val (.int p3), .val (.int p4), .val (.int p5), .val (.int p6), .val (.int (5 : Int32)), .val (.ref b1), .val (.long ((((0 : Int64) + (p1.toInt64)) + (p2.toInt64)) + (p3.toInt64))), .second, .unset, .unset] [(.int p4), (.int (3 : Int32)), (.ref b1)])) _
    refine XS.i2dS X4.here hx rfl (v := (FP.l2d p4.toInt64)) (hb hby at_85) rfl (i2d_w _) ?_
    show Steps p.tables e below (T4.setTop (mkF m 86 #[.val (.int p1), .val (.int p2), .val (.int p3), .val (.int p4), .val (.int p5), .val (.int p6), .val (.int (5 : Int32)), .val (.ref b1), .val (.long ((((0 : Int64) + (p1.toInt64)) + (p2.toInt64)) + (p3.toInt64))), .second, .unset, .unset] [(.double (FP.l2d p4.toInt64)), (.int (3 : Int32)), (.ref b1)])) _
    refine st5 _ ?_
    show Steps p.tables e below (T5.setTop (mkF m 87 #[.val (.int p1), .val (.int p2), .val (.int p3), .val (.int p4), .val (.int p5), .val (.int p6), .val (.int (5 : Int32)), .val (.ref b1), .val (.long ((((0 : Int64) + (p1.toInt64)) + (p2.toInt64)) + (p3.toInt64))), .second, .unset, .unset] [])) _
    refine XS.lload X5.here hx rfl (hb hby at_87) rfl ?_
    show Steps p.tables e below (T5.setTop (mkF m 89 #[.val (.int p1), .val (.int p2), .val (.int p3), .val (.int p4), .val (.int p5), .val (.int p6), .val (.int (5 : Int32)), .val (.ref b1), .val (.long ((((0 : Int64) + (p1.toInt64)) + (p2.toInt64)) + (p3.toInt64))), .second, .unset, .unset] [(.long ((((0 : Int64) + (p1.toInt64)) + (p2.toInt64)) + (p3.toInt64)))])) _
    refine XS.iloadN X5.here hx rfl (hb hby at_89) rfl ?_
    show Steps p.tables e below (T5.setTop (mkF m 90 #[.val (.int p1), .val (.int p2), .val (.int p3), .val (.int p4), .val (.int p5), .val (.int p6), .val (.int (5 : Int32)), .val (.ref b1), .val (.long ((((0 : Int64) + (p1.toInt64)) + (p2.toInt64)) + (p3.toInt64))), .second, .unset, .unset] [(.int p4), (.long ((((0 : Int64) + (p1.toInt64)) + (p2.toInt64)) + (p3.toInt64)))])) _
    refine XS.i2l X5.here hx rfl (hb hby at_90) rfl ?_
    show Steps p.tables e below (T5.setTop (mkF m 91 #[.val (.int p1), .val (.int p2), .val (.int p3), .val (.int p4), .val (.int p5), .val (.int p6), .val (.int (5 : Int32)), .val (.ref b1), .val (.long ((((0 : Int64) + (p1.toInt64)) + (p2.toInt64)) + (p3.toInt64))), .second, .unset, .unset] [(.long (p4.toInt64)), (.long ((((0 : Int64) + (p1.toInt64)) + (p2.toInt64)) + (p3.toInt64)))])) _
    refine XS.ladd X5.here hx rfl (hb hby at_91) rfl ?_
    show Steps p.tables e below (T5.setTop (mkF m 92 #[.val (.int p1), .val (.int p2), .val (.int p3), .val (.int p4), .val (.int p5), .val (.int p6), .val (.int (5 : Int32)), .val (.ref b1), .val (.long ((((0 : Int64) + (p1.toInt64)) + (p2.toInt64)) + (p3.toInt64))), .second, .unset, .unset] [(.long (((((0 : Int64) + (p1.toInt64)) + (p2.toInt64)) + (p3.toInt64)) + (p4.toInt64)))])) _
    refine XS.lstore X5.here hx rfl (hb hby at_92) rfl (l' := #[.val (.int p1), .val (.int p2), .val (.int p3), .val (.int p4), .val (.int p5), .val (.int p6), .val (.int (5 : Int32)), .val (.ref b1), .val (.long (((((0 : Int64) + (p1.toInt64)) + (p2.toInt64)) + (p3.toInt64)) + (p4.toInt64))), .second, .unset, .unset]) rfl ?_
    show Steps p.tables e below (T5.setTop (mkF m 94 #[.val (.int p1), .val (.int p2), .val (.int p3), .val (.int p4), .val (.int p5), .val (.int p6), .val (.int (5 : Int32)), .val (.ref b1), .val (.long (((((0 : Int64) + (p1.toInt64)) + (p2.toInt64)) + (p3.toInt64)) + (p4.toInt64))), .second, .unset, .unset] [])) _
    refine XS.iload X5.here hx rfl (hb hby at_94) rfl ?_
    show Steps p.tables e below (T5.setTop (mkF m 96 #[.val (.int p1), .val (.int p2), .val (.int p3), .val (.int p4), .val (.int p5), .val (.int p6), .val (.int (5 : Int32)), .val (.ref b1), .val (.long (((((0 : Int64) + (p1.toInt64)) + (p2.toInt64)) + (p3.toInt64)) + (p4.toInt64))), .second, .unset, .unset] [(.int (5 : Int32))])) _
    refine XS.iconst X5.here hx rfl (hb hby at_96) ?_
    show Steps p.tables e below (T5.setTop (mkF m 97 #[.val (.int p1), .val (.int p2), .val (.int p3), .val (.int p4), .val (.int p5), .val (.int p6), .val (.int (5 : Int32)), .val (.ref b1), .val (.long (((((0 : Int64) + (p1.toInt64)) + (p2.toInt64)) + (p3.toInt64)) + (p4.toInt64))), .second, .unset, .unset] [(.int (4 : Int32)), (.int (5 : Int32))])) _
    refine XS.icmpNo X5.here hx rfl (hb hby at_97) rfl (tlt (by decide : (4 : Int32) < (5 : Int32))).2.2.2 ?_
    show Steps p.tables e below (T5.setTop (mkF m 100 #[.val (.int p1), .val (.int p2), .val (.int p3), .val (.int p4), .val (.int p5), .val (.int p6), .val (.int (5 : Int32)), .val (.ref b1), .val (.long (((((0 : Int64) + (p1.toInt64)) + (p2.toInt64)) + (p3.toInt64)) + (p4.toInt64))), .second, .unset, .unset] [])) _
    refine XS.aload X5.here hx rfl (hb hby at_100) rfl rfl ?_
    show Steps p.tables e below (T5.setTop (mkF m 102 #[.val (.int p1), .val (.int p2), .val (.int p3), .val (.int p4), .val (.int p5), .val (.int p6), .val (.int (5 : Int32)), .val (.ref b1), .val (.long (((((0 : Int64) + (p1.toInt64)) + (p2.toInt64)) + (p3.toInt64)) + (p4.toInt64))), .second, .unset, .unset] [(.ref b1)])) _
    refine XS.iconst X5.here hx rfl (hb hby at_102) ?_
    show Steps p.tables e below (T5.setTop (mkF m 103 #[.val (.int p1), .val (.int p2), .val (.int p3), .val (.int p4), .val (.int p5), .val (.int p6), .val (.int (5 : Int32)), .val (.ref b1), .val (.long (((((0 : Int64) + (p1.toInt64)) + (p2.toInt64)) + (p3.toInt64)) + (p4.toInt64))), .second, .unset, .unset] [(.int (4 : Int32)), (.ref b1)])) _
    refine XS.iload X5.here hx rfl (hb hby at_103) rfl ?_
    show Steps p.tables e below (T5.setTop (mkF m 105 #[.val (.int p1), .val (.int p2), .val (.int p3), .val (.int p4), .val (.int p5), .val (.int p6), .val (.int (5 : Int32)), .val (.ref b1), .val (.long (((((0 : Int64) + (p1.toInt64)) + (p2.toInt64)) + (p3.toInt64)) + (p4.toInt64))), .second, .unset, .unset] [(.int p5), (.int (4 : Int32)), (.ref b1)])) _
    refine XS.i2dS X5.here hx rfl (v := (FP.l2d p5.toInt64)) (hb hby at_105) rfl (i2d_w _) ?_
    show Steps p.tables e below (T5.setTop (mkF m 106 #[.val (.int p1), .val (.int p2), .val (.int p3), .val (.int p4), .val (.int p5), .val (.int p6), .val (.int (5 : Int32)), .val (.ref b1), .val (.long (((((0 : Int64) + (p1.toInt64)) + (p2.toInt64)) + (p3.toInt64)) + (p4.toInt64))), .second, .unset, .unset] [(.double (FP.l2d p5.toInt64)), (.int (4 : Int32)), (.ref b1)])) _
    refine st6 _ ?_
    show Steps p.tables e below (T6.setTop (mkF m 107 #[.val (.int p1), .val (.int p2), .val (.int p3), .val (.int p4), .val (.int p5), .val (.int p6), .val (.int (5 : Int32)), .val (.ref b1), .val (.long (((((0 : Int64) + (p1.toInt64)) + (p2.toInt64)) + (p3.toInt64)) + (p4.toInt64))), .second, .unset, .unset] [])) _
    refine XS.lload X6.here hx rfl (hb hby at_107) rfl ?_
    show Steps p.tables e below (T6.setTop (mkF m 109 #[.val (.int p1), .val (.int p2), .val (.int p3), .val (.int p4), .val (.int p5), .val (.int p6), .val (.int (5 : Int32)), .val (.ref b1), .val (.long (((((0 : Int64) + (p1.toInt64)) + (p2.toInt64)) + (p3.toInt64)) + (p4.toInt64))), .second, .unset, .unset] [(.long (((((0 : Int64) + (p1.toInt64)) + (p2.toInt64)) + (p3.toInt64)) + (p4.toInt64)))])) _
    refine XS.iload X6.here hx rfl (hb hby at_109) rfl ?_
    show Steps p.tables e below (T6.setTop (mkF m 111 #[.val (.int p1), .val (.int p2), .val (.int p3), .val (.int p4), .val (.int p5), .val (.int p6), .val (.int (5 : Int32)), .val (.ref b1), .val (.long (((((0 : Int64) + (p1.toInt64)) + (p2.toInt64)) + (p3.toInt64)) + (p4.toInt64))), .second, .unset, .unset] [(.int p5), (.long (((((0 : Int64) + (p1.toInt64)) + (p2.toInt64)) + (p3.toInt64)) + (p4.toInt64)))])) _
    refine XS.i2l X6.here hx rfl (hb hby at_111) rfl ?_
    show Steps p.tables e below (T6.setTop (mkF m 112 #[.val (.int p1), .val (.int p2), .val (.int p3), .val (.int p4), .val (.int p5), .val (.int p6), .val (.int (5 : Int32)), .val (.ref b1), .val (.long (((((0 : Int64) + (p1.toInt64)) + (p2.toInt64)) + (p3.toInt64)) + (p4.toInt64))), .second, .unset, .unset] [(.long (p5.toInt64)), (.long (((((0 : Int64) + (p1.toInt64)) + (p2.toInt64)) + (p3.toInt64)) + (p4.toInt64)))])) _
    refine XS.ladd X6.here hx rfl (hb hby at_112) rfl ?_
    show Steps p.tables e below (T6.setTop (mkF m 113 #[.val (.int p1), .val (.int p2), .val (.int p3), .val (.int p4), .val (.int p5), .val (.int p6), .val (.int (5 : Int32)), .val (.ref b1), .val (.long (((((0 : Int64) + (p1.toInt64)) + (p2.toInt64)) + (p3.toInt64)) + (p4.toInt64))), .second, .unset, .unset] [(.long ((((((0 : Int64) + (p1.toInt64)) + (p2.toInt64)) + (p3.toInt64)) + (p4.toInt64)) + (p5.toInt64)))])) _
    refine XS.lstore X6.here hx rfl (hb hby at_113) rfl (l' := #[.val (.int p1), .val (.int p2), .val (.int p3), .val (.int p4), .val (.int p5), .val (.int p6), .val (.int (5 : Int32)), .val (.ref b1), .val (.long ((((((0 : Int64) + (p1.toInt64)) + (p2.toInt64)) + (p3.toInt64)) + (p4.toInt64)) + (p5.toInt64))), .second, .unset, .unset]) rfl ?_
    show Steps p.tables e below (T6.setTop (mkF m 115 #[.val (.int p1), .val (.int p2), .val (.int p3), .val (.int p4), .val (.int p5), .val (.int p6), .val (.int (5 : Int32)), .val (.ref b1), .val (.long ((((((0 : Int64) + (p1.toInt64)) + (p2.toInt64)) + (p3.toInt64)) + (p4.toInt64)) + (p5.toInt64))), .second, .unset, .unset] [])) _
    refine XS.aload X6.here hx rfl (hb hby at_115) rfl rfl ?_
    show Steps p.tables e below (T6.setTop (mkF m 117 #[.val (.int p1), .val (.int p2), .val (.int p3), .val (.int p4), .val (.int p5), .val (.int p6), .val (.int (5 : Int32)), .val (.ref b1), .val (.long ((((((0 : Int64) + (p1.toInt64)) + (p2.toInt64)) + (p3.toInt64)) + (p4.toInt64)) + (p5.toInt64))), .second, .unset, .unset] [(.ref b1)])) _
    refine st7 _ ?_
    show Steps p.tables e below (T7.setTop (mkF m 120 #[.val (.int p1), .val (.int p2), .val (.int p3), .val (.int p4), .val (.int p5), .val (.int p6), .val (.int (5 : Int32)), .val (.ref b1), .val (.long ((((((0 : Int64) + (p1.toInt64)) + (p2.toInt64)) + (p3.toInt64)) + (p4.toInt64)) + (p5.toInt64))), .second, .unset, .unset] [(.double (FP.l2d ((((((0 : Int64) + p1.toInt64) + p2.toInt64) + p3.toInt64) + p4.toInt64) + p5.toInt64)))])) _
    refine XS.dstore X7.here hx rfl (hb hby at_120) rfl (l' := #[.val (.int p1), .val (.int p2), .val (.int p3), .val (.int p4), .val (.int p5), .val (.int p6), .val (.int (5 : Int32)), .val (.ref b1), .val (.long ((((((0 : Int64) + (p1.toInt64)) + (p2.toInt64)) + (p3.toInt64)) + (p4.toInt64)) + (p5.toInt64))), .second, .val (.double (FP.l2d ((((((0 : Int64) + p1.toInt64) + p2.toInt64) + p3.toInt64) + p4.toInt64) + p5.toInt64))), .second]) rfl ?_
    show Steps p.tables e below (T7.setTop (mkF m 122 #[.val (.int p1), .val (.int p2), .val (.int p3), .val (.int p4), .val (.int p5), .val (.int p6), .val (.int (5 : Int32)), .val (.ref b1), .val (.long ((((((0 : Int64) + (p1.toInt64)) + (p2.toInt64)) + (p3.toInt64)) + (p4.toInt64)) + (p5.toInt64))), .second, .val (.double (FP.l2d ((((((0 : Int64) + p1.toInt64) + p2.toInt64) + p3.toInt64) + p4.toInt64) + p5.toInt64))), .second] [])) _
    refine XS.dload X7.here hx rfl (hb hby at_122) rfl ?_
    show Steps p.tables e below (T7.setTop (mkF m 124 #[.val (.int p1), .val (.int p2), .val (.int p3), .val (.int p4), .val (.int p5), .val (.int p6), .val (.int (5 : Int32)), .val (.ref b1), .val (.long ((((((0 : Int64) + (p1.toInt64)) + (p2.toInt64)) + (p3.toInt64)) + (p4.toInt64)) + (p5.toInt64))), .second, .val (.double (FP.l2d ((((((0 : Int64) + p1.toInt64) + p2.toInt64) + p3.toInt64) + p4.toInt64) + p5.toInt64))), .second] [(.double (FP.l2d ((((((0 : Int64) + p1.toInt64) + p2.toInt64) + p3.toInt64) + p4.toInt64) + p5.toInt64)))])) _
    refine XS.lload X7.here hx rfl (hb hby at_124) rfl ?_
    show Steps p.tables e below (T7.setTop (mkF m 126 #[.val (.int p1), .val (.int p2), .val (.int p3), .val (.int p4), .val (.int p5), .val (.int p6), .val (.int (5 : Int32)), .val (.ref b1), .val (.long ((((((0 : Int64) + (p1.toInt64)) + (p2.toInt64)) + (p3.toInt64)) + (p4.toInt64)) + (p5.toInt64))), .second, .val (.double (FP.l2d ((((((0 : Int64) + p1.toInt64) + p2.toInt64) + p3.toInt64) + p4.toInt64) + p5.toInt64))), .second] [(.long ((((((0 : Int64) + (p1.toInt64)) + (p2.toInt64)) + (p3.toInt64)) + (p4.toInt64)) + (p5.toInt64))), (.double (FP.l2d ((((((0 : Int64) + p1.toInt64) + p2.toInt64) + p3.toInt64) + p4.toInt64) + p5.toInt64)))])) _
    refine XS.l2dS X7.here hx rfl (v := (FP.l2d ((((((0 : Int64) + (p1.toInt64)) + (p2.toInt64)) + (p3.toInt64)) + (p4.toInt64)) + (p5.toInt64)))) (hb hby at_126) rfl rfl ?_
    show Steps p.tables e below (T7.setTop (mkF m 127 #[.val (.int p1), .val (.int p2), .val (.int p3), .val (.int p4), .val (.int p5), .val (.int p6), .val (.int (5 : Int32)), .val (.ref b1), .val (.long ((((((0 : Int64) + (p1.toInt64)) + (p2.toInt64)) + (p3.toInt64)) + (p4.toInt64)) + (p5.toInt64))), .second, .val (.double (FP.l2d ((((((0 : Int64) + p1.toInt64) + p2.toInt64) + p3.toInt64) + p4.toInt64) + p5.toInt64))), .second] [(.double (FP.l2d ((((((0 : Int64) + (p1.toInt64)) + (p2.toInt64)) + (p3.toInt64)) + (p4.toInt64)) + (p5.toInt64)))), (.double (FP.l2d ((((((0 : Int64) + p1.toInt64) + p2.toInt64) + p3.toInt64) + p4.toInt64) + p5.toInt64)))])) _
    refine XS.dcmpS X7.here hx rfl (v := (lcmpW ((((((0 : Int64) + p1.toInt64) + p2.toInt64) + p3.toInt64) + p4.toInt64) + p5.toInt64) ((((((0 : Int64) + (p1.toInt64)) + (p2.toInt64)) + (p3.toInt64)) + (p4.toInt64)) + (p5.toInt64)))) (hb hby at_127) rfl (dcmpV_w ((((((own_b0.add (BB.i32 _) (by decide)).add (BB.i32 _) (by decide)).add (BB.i32 _) (by decide)).add (BB.i32 _) (by decide)).add (BB.i32 _) (by decide)).b53 (by decide)) ((((((own_b0.add (BB.i32 _) (by decide)).add (BB.i32 _) (by decide)).add (BB.i32 _) (by decide)).add (BB.i32 _) (by decide)).add (BB.i32 _) (by decide)).b53 (by decide)) _) ?_
    show Steps p.tables e below (T7.setTop (mkF m 128 #[.val (.int p1), .val (.int p2), .val (.int p3), .val (.int p4), .val (.int p5), .val (.int p6), .val (.int (5 : Int32)), .val (.ref b1), .val (.long ((((((0 : Int64) + (p1.toInt64)) + (p2.toInt64)) + (p3.toInt64)) + (p4.toInt64)) + (p5.toInt64))), .second, .val (.double (FP.l2d ((((((0 : Int64) + p1.toInt64) + p2.toInt64) + p3.toInt64) + p4.toInt64) + p5.toInt64))), .second] [(.int (lcmpW ((((((0 : Int64) + p1.toInt64) + p2.toInt64) + p3.toInt64) + p4.toInt64) + p5.toInt64) ((((((0 : Int64) + (p1.toInt64)) + (p2.toInt64)) + (p3.toInt64)) + (p4.toInt64)) + (p5.toInt64))))])) _
    refine XS.ifNo X7.here hx rfl (hb hby at_128) rfl ((if0 _ _).trans (teq (own_lcmp _ : (lcmpW ((((((0 : Int64) + p1.toInt64) + p2.toInt64) + p3.toInt64) + p4.toInt64) + p5.toInt64) ((((((0 : Int64) + (p1.toInt64)) + (p2.toInt64)) + (p3.toInt64)) + (p4.toInt64)) + (p5.toInt64))) = (0 : Int32))).2) ?_
    show Steps p.tables e below (T7.setTop (mkF m 131 #[.val (.int p1), .val (.int p2), .val (.int p3), .val (.int p4), .val (.int p5), .val (.int p6), .val (.int (5 : Int32)), .val (.ref b1), .val (.long ((((((0 : Int64) + (p1.toInt64)) + (p2.toInt64)) + (p3.toInt64)) + (p4.toInt64)) + (p5.toInt64))), .second, .val (.double (FP.l2d ((((((0 : Int64) + p1.toInt64) + p2.toInt64) + p3.toInt64) + p4.toInt64) + p5.toInt64))), .second] [])) _
    refine XS.iconst X7.here hx rfl (hb hby at_131) ?_
    show Steps p.tables e below (T7.setTop (mkF m 132 #[.val (.int p1), .val (.int p2), .val (.int p3), .val (.int p4), .val (.int p5), .val (.int p6), .val (.int (5 : Int32)), .val (.ref b1), .val (.long ((((((0 : Int64) + (p1.toInt64)) + (p2.toInt64)) + (p3.toInt64)) + (p4.toInt64)) + (p5.toInt64))), .second, .val (.double (FP.l2d ((((((0 : Int64) + p1.toInt64) + p2.toInt64) + p3.toInt64) + p4.toInt64) + p5.toInt64))), .second] [(.int (1 : Int32))])) _
    refine XS.goto X7.here hx rfl (pc0 := 132) (pc' := 136) rfl (hb hby at_132) (by decide) (by decide) ?_
    show Steps p.tables e below (T7.setTop (mkF m 136 #[.val (.int p1), .val (.int p2), .val (.int p3), .val (.int p4), .val (.int p5), .val (.int p6), .val (.int (5 : Int32)), .val (.ref b1), .val (.long ((((((0 : Int64) + (p1.toInt64)) + (p2.toInt64)) + (p3.toInt64)) + (p4.toInt64)) + (p5.toInt64))), .second, .val (.double (FP.l2d ((((((0 : Int64) + p1.toInt64) + p2.toInt64) + p3.toInt64) + p4.toInt64) + p5.toInt64))), .second] [(.int (1 : Int32))])) _
    exact retN X7 hx (t := .boolean) Bd.returns (by simp) (hb hby at_136) hr
  · show Qrm0_5 Z p1 p2 p3 p4 p5 p6 h0 n0 _ T7.heap _
    rw [e7]
    exact ⟨rfl, N7⟩
theorem rm0 (l : Launch) (Z : State) (a0 : Array Value) (hw : ∀ d ∈ tables_1, d.before a0 Z = true) (ws : List Jvm.Cond) (p1 p2 p3 p4 p5 p6 : Int32) (h0 : Heap) (n0 : Nat) (Z0 : n0 ≤ h0.size) :
    MetFree l x (head1 (Jvm.Cond.code x code maxLocals ret :: ws) room_1) (fun a U => a = #[(.int p1), (.int p2), (.int p3), (.int p4), (.int p5), (.int p6)] ∧ Z.Warmed39 U.vm ∧ U.heap = h0) (fun _ _ _ _ _ => True) (fun _ U o U' => ∃ v L, o = .returned v ∧ Qrm0 Z p1 p2 p3 p4 p5 p6 h0 n0 v U'.heap L ∧ FrameEnd U o U' L room_1.cells room_1.slots) := by
  rcases own_six p6 with k | k | k | k | k | k
  · exact rm0_0 l Z a0 hw ws p1 p2 p3 p4 p5 p6 h0 n0 Z0 k
  · exact rm0_1 l Z a0 hw ws p1 p2 p3 p4 p5 p6 h0 n0 Z0 k
  · exact rm0_2 l Z a0 hw ws p1 p2 p3 p4 p5 p6 h0 n0 Z0 k
  · exact rm0_3 l Z a0 hw ws p1 p2 p3 p4 p5 p6 h0 n0 Z0 k
  · exact rm0_4 l Z a0 hw ws p1 p2 p3 p4 p5 p6 h0 n0 Z0 k
  · exact rm0_5 l Z a0 hw ws p1 p2 p3 p4 p5 p6 h0 n0 Z0 k
set_option maxRecDepth 65536 in
set_option maxHeartbeats 40000000 in
theorem comes_1 {Post : Tables → Env → Array Value → State → Outcome → State → Prop} (hpost : ∀ tb e args s v u, (limb_1_1.after args s (.returned v) u = true ∧ limb_1_2.after args s (.returned v) u = true ∧ True) → FrameEnd s (.returned v) u (Jvm.fieldLocs frame_1_writes args s ++ Jvm.arrayLocs frame_1_arrays args s ++ Jvm.staticLocs frame_1_statics s) 16 128 → Post tb e args s (.returned v) u) :
    ArmFor flags0 classFile x code maxLocals ret World_1 tables_1 room_1 Calls_1 rest_1 Pre_1 Post := by
  intro l hfl _ _ p e ha hc hk s m args below hf hA hF happ hP
  obtain ⟨hcalls, hrest, hpre⟩ := hP
  obtain ⟨-, -, -, hnamed, -, -, -, hat⟩ := (Spec.applies_iff hf).mp happ
  obtain ⟨hg, hn⟩ := and_e (Cond.before_iff.mp (show (Jvm.Cond.and given_1 narrow_1).before args s = true from hpre))
  obtain ⟨gc, r0⟩ := and_e hg
  obtain ⟨g0, r1⟩ := and_e r0
  obtain ⟨g1, r2⟩ := and_e r1
  obtain ⟨g2, r3⟩ := and_e r2
  obtain ⟨g3, r4⟩ := and_e r3
  obtain ⟨g4, r5⟩ := and_e r4
  have g5 := r5
  obtain ⟨w0, w1, w2, w3, w4, w5, rfl⟩ : ∃ w0 w1 w2 w3 w4 w5 : Value, args = #[w0, w1, w2, w3, w4, w5] := by
    have hs : args.size = 6 := by simpa [Cond.value, given_1] using gc
    obtain ⟨L⟩ := args
    match L, hs with
    | [w0, w1, w2, w3, w4, w5], _ => exact ⟨w0, w1, w2, w3, w4, w5, rfl⟩
  have hw := fun d (hd : d ∈ tables_1) => atoms_spec (ws := Jvm.Cond.code x code maxLocals ret :: tables_1) hat d (List.mem_cons_of_mem _ hd)
  have hfit : Fit s := fun {y c} hc i hi => by
    obtain ⟨ha, rfl⟩ := Array.getElem?_eq_some_iff.mp hc
    have q := List.all_eq_true.mp ((Array.all_eq_true_iff_forall_mem.mp hF) _ (Array.getElem_mem ha)) i (List.mem_range.mpr hi)
    simpa [Array.getElem?_eq_getElem hi] using q
  obtain ⟨i0, ei0⟩ := is_v g0
  obtain rfl : w0 = (.int i0) := Option.some.inj ei0
  obtain ⟨i1, ei1⟩ := is_v g1
  obtain rfl : w1 = (.int i1) := Option.some.inj ei1
  obtain ⟨i2, ei2⟩ := is_v g2
  obtain rfl : w2 = (.int i2) := Option.some.inj ei2
  obtain ⟨i3, ei3⟩ := is_v g3
  obtain rfl : w3 = (.int i3) := Option.some.inj ei3
  obtain ⟨i4, ei4⟩ := is_v g4
  obtain rfl : w4 = (.int i4) := Option.some.inj ei4
  obtain ⟨i5, ei5⟩ := is_v g5
  obtain rfl : w5 = (.int i5) := Option.some.inj ei5
  obtain ⟨n, o, h1, h2, h3, _, L, rfl, ⟨rfl, N⟩, hq⟩ := rm0 l s _ hw tables_1 i0 i1 i2 i3 i4 i5 s.heap s.heap.size (Nat.le_refl _) p e ha hc hk s m _ below hf ((Spec.applies_iff_loose hf).mp happ).1 ⟨rfl, State.Warmed39.refl s, rfl⟩ trivial
  refine ⟨n, _, h1, h2, h3, hpost _ _ _ _ _ _ ⟨Cond.after_iff.mpr rfl, Cond.after_iff.mpr (eq_i res_at (Term.int_eval (1)) rfl), trivial⟩ ⟨hq.1, hq.2.1, (hq.2.2.sift fun y hy => Or.inr (N y hy)).mono (by decide) (by decide)⟩⟩
theorem main_1_1 : Claimed_1_1 := comes_1 fun _ _ _ _ _ _ h hF => ⟨h.1, hF⟩
theorem main_1_2 : Claimed_1_2 := comes_1 fun _ _ _ _ _ _ h hF => ⟨h.2.1, hF⟩
end Jvm.Pilot.@@N@@
namespace Jvm.Pilot.@@N@@
open Jvm Jvm.ClassFile Sem Op Lib Jvm.Free Jvm.Stand Jvm.Pilot.@@N@@.Jvm.D
/-! MADE BY PROGRAM (witnessworld.py) out of the Statement's table words and the real class files: 11 classes; the members and pool entries that the words name. The judged class is class 1, her method 1. -/
namespace start1
open Jvm.ClassFile
def u (s : String) : CpInfo := .utf8 (stringToUtf16 s)
/-- a pool by its gaps: so many unusable entries, then the entry; so many at the end -/
def gap : Nat → List CpInfo → List CpInfo
  | 0, r => r
  | n + 1, r => .unusable :: gap n r
def poolList (es : List (Nat × CpInfo)) (last : Nat) : List CpInfo := es.foldr (fun e r => gap e.1 (e.2 :: r)) (gap last [])
def pool (es : List (Nat × CpInfo)) (last : Nat) : Array CpInfo := ⟨poolList es last⟩
def fileOf (pool : Array CpInfo) (this : Nat) (attrs : Array Attribute := #[]) (ms : Array MethodInfo := #[]) (fl : Nat := 33) (sup : Nat := 0) (ifs : Array Nat := #[]) (fds : Array FieldInfo := #[]) : ClassFile where
  minorVersion := 0
  majorVersion := 65
  constantPool := pool
  accessFlags := fl
  thisClass := this
  superClass := sup
  interfaces := ifs
  fields := fds
  methods := ms
  attributes := attrs
def plain (name : String) (sup : Option ClassId) : Class where
  name := name
  kind := .ordinary
  loader := none
  accessFlags := 33
  super := sup
  interfaces := #[]
  cf := none
  fields := #[]
  methods := #[]
  instanceTypes := #[]
  staticTypes := #[]
  resolved := #[]
  callSites := []
  init := .initialized
  statics := none
  mirror := none

def pool0 : Array CpInfo := pool [(5, u "<init>"), (0, u "()V"), (1, .class_ 10), (1, u "java/lang/Object")] 113

def k0m0 : Method := { name := "<init>", desc := "()V", sig := { parameters := [], returnType := none }, accessFlags := 1, code := none }
/-- java/lang/Object -/
def k0 : Class := { plain "java/lang/Object" none with
  accessFlags := 33
  interfaces := #[]
  cf := some (fileOf pool0 8 #[] #[{ accessFlags := 1, nameIndex := 5, descriptorIndex := 6, attributes := #[] }] 33 0 #[] #[])
  fields := #[]
  methods := #[k0m0]
  instanceTypes := #[]
  staticTypes := #[]
  resolved := Array.replicate 124 none
  statics := none }

def pool1 : Array CpInfo := pool [(2, .class_ 4), (1, u "java/lang/Object"), (0, u "<init>"), (0, u "()V"), (0, .integer 2147483647), (0, .methodref 9 10), (0, .class_ 11), (0, .nameAndType 12 13), (0, u "com/example/weir3/weir3/biology/BiomassMap"), (0, u "total"), (0, u "([D)D"), (0, .class_ 15), (0, u "com/example/weir3/weir3/biology/BiomassMapTotalPinLaw"), (2, u "law"), (0, u "(IIIIII)Z")] 5

def k1m0 : Method := { name := "<init>", desc := "()V", sig := { parameters := [], returnType := none }, accessFlags := 1, code := none }
def k1c1 : Code := { maxStack := 4, maxLocals := 12, code := code, exceptionTable := #[], attributes := #[] }
def k1m1 : Method := { name := "law", desc := "(IIIIII)Z", sig := { parameters := [.int, .int, .int, .int, .int, .int], returnType := some .boolean }, accessFlags := 9, code := some k1c1 }
/-- com/example/weir3/weir3/biology/BiomassMapTotalPinLaw -/
def k1 : Class := { plain "com/example/weir3/weir3/biology/BiomassMapTotalPinLaw" (some 0) with
  accessFlags := 49
  interfaces := #[]
  cf := some (fileOf pool1 14 #[] #[{ accessFlags := 1, nameIndex := 5, descriptorIndex := 6, attributes := #[] }, { accessFlags := 9, nameIndex := 18, descriptorIndex := 19, attributes := #[] }] 49 2 #[] #[])
  fields := #[]
  methods := #[k1m0, k1m1]
  instanceTypes := #[]
  staticTypes := #[]
  resolved := Array.replicate 25 none
  statics := none }

def pool2 : Array CpInfo := pool [(2, .class_ 4), (1, u "java/lang/Object"), (3, .class_ 10), (1, u "com/example/weir3/weir3/biology/BiomassMap"), (0, u "map"), (0, u "Lcom/example/weir3/weir3/core/CellMap;"), (2, u "biomass"), (0, u "[D"), (2, u "BIOMASS_RANGE"), (0, u "Lcom/example/weir3/weir3/core/Range;"), (53, u "total"), (0, u "([D)D")] 35

def k2c0 : Code := { maxStack := 4, maxLocals := 8, code := prog_1_method_9_code, exceptionTable := #[], attributes := #[] }
def k2m0 : Method := { name := "total", desc := "([D)D", sig := { parameters := [(.array .double)], returnType := some .double }, accessFlags := 8, code := some k2c0 }
/-- com/example/weir3/weir3/biology/BiomassMap -/
def k2 : Class := { plain "com/example/weir3/weir3/biology/BiomassMap" (some 0) with
  accessFlags := 49
  interfaces := #[]
  cf := some (fileOf pool2 8 #[] #[{ accessFlags := 8, nameIndex := 74, descriptorIndex := 75, attributes := #[] }] 49 2 #[] #[{ accessFlags := 25, nameIndex := 19, descriptorIndex := 20, attributes := #[] }, { accessFlags := 18, nameIndex := 11, descriptorIndex := 12, attributes := #[] }, { accessFlags := 16, nameIndex := 15, descriptorIndex := 16, attributes := #[] }])
  fields := #[{ name := "BIOMASS_RANGE", type := (.object "com/example/weir3/weir3/core/Range"), accessFlags := 25, slot := 0, constantValue := 0 }, { name := "map", type := (.object "com/example/weir3/weir3/core/CellMap"), accessFlags := 18, slot := 0, constantValue := 0 }, { name := "biomass", type := (.array .double), accessFlags := 16, slot := 1, constantValue := 0 }]
  methods := #[k2m0]
  instanceTypes := #[(.object "com/example/weir3/weir3/core/CellMap"), (.array .double)]
  staticTypes := #[(.object "com/example/weir3/weir3/core/Range")]
  resolved := Array.replicate 111 none
  statics := none }

def pool3 : Array CpInfo := pool [(1, u "java/lang/Cloneable"), (0, .class_ 1), (0, u "java/lang/Object"), (0, .class_ 3)] 3

/-- java/lang/Cloneable -/
def k3 : Class := { plain "java/lang/Cloneable" (some 0) with
  accessFlags := 1537
  interfaces := #[]
  cf := some (fileOf pool3 2 #[] #[] 1537 4 #[] #[])
  fields := #[]
  methods := #[]
  instanceTypes := #[]
  staticTypes := #[]
  resolved := Array.replicate 8 none
  statics := none }

def pool4 : Array CpInfo := pool [(1, u "java/io/Serializable"), (0, .class_ 1), (0, u "java/lang/Object"), (0, .class_ 3)] 3

/-- java/io/Serializable -/
def k4 : Class := { plain "java/io/Serializable" (some 0) with
  accessFlags := 1537
  interfaces := #[]
  cf := some (fileOf pool4 2 #[] #[] 1537 4 #[] #[])
  fields := #[]
  methods := #[]
  instanceTypes := #[]
  staticTypes := #[]
  resolved := Array.replicate 8 none
  statics := none }

/-- the primitive byte -/
def k5 : Class := { plain "byte" none with kind := .primitive 'B', accessFlags := 0x411 }
/-- [B -/
def k6 : Class := { plain "[B" (some 0) with kind := .array 5 .byte, interfaces := #[3, 4], accessFlags := 1041 }

/-- the primitive double -/
def k7 : Class := { plain "double" none with kind := .primitive 'D', accessFlags := 0x411 }
/-- [D -/
def k8 : Class := { plain "[D" (some 0) with kind := .array 7 .double, interfaces := #[3, 4], accessFlags := 1041 }

/-- the primitive int -/
def k9 : Class := { plain "int" none with kind := .primitive 'I', accessFlags := 0x411 }
/-- [I -/
def k10 : Class := { plain "[I" (some 0) with kind := .array 9 .int, interfaces := #[3, 4], accessFlags := 1041 }

def heap : Heap := #[]
def classes : Array Class := #[k0, k1, k2, k3, k4, k5, k6, k7, k8, k9, k10]
def interned : List (Array UInt16 × Addr) := []
def slotsUsed : Nat := 0
def theMethod : MethodId := ⟨1, 1⟩
def args0 : Array Value := #[.int 5, .int 5, .int 5, .int 5, .int 5, .int 5]
def aboutOver (below : List Frame) : State where
  vm := { classes := classes, interned := interned.toArray }
  heap := heap
  slotsUsed := slotsUsed
  threads := #[{ frames := .invoking theMethod args0 :: below }]
def below0 : List Frame := [.native { method := ⟨0, 0⟩, args := #[] }]
def about1 : State := aboutOver below0
def p0 : Program := .bare "" "" ""
def e0 : Env := launch0.env 0 0 0
theorem w_frames : about1.frames = Frame.invoking theMethod args0 :: below0 := rfl
set_option maxRecDepth 65536 in
theorem w_args : argsFit about1.vm theMethod args0 = true := by decide +kernel
set_option maxRecDepth 65536 in
theorem w_heap : heapFits about1 = true := by decide +kernel
set_option maxRecDepth 65536 in
theorem w_runnable : about1.curStatus? = some .runnable := by decide +kernel
set_option maxRecDepth 65536 in
theorem w_alone : about1.alone = true := by decide +kernel
set_option maxRecDepth 65536 in
theorem w_named : about1.methodNamed? x = some theMethod := by decide +kernel
set_option maxRecDepth 65536 in
theorem w_hears : about1.hears theMethod below0 = true := by decide +kernel
set_option maxRecDepth 65536 in
theorem w_ripe : about1.ripe theMethod args0 below0 = true := by decide +kernel
theorem w_running : about1.status = .running := rfl
set_option maxRecDepth 65536 in
theorem w_room : about1.hasRoom e0.platform room_1 = true :=
  launch0.hasRoom_least _ room_1 (by decide +kernel) (by decide +kernel) (by decide +kernel) (by decide +kernel) (by decide +kernel) (by decide +kernel)
theorem allAtoms_all (ts : List Jvm.Cond) (a : Array Jvm.Value) (st : Jvm.State) : (allAtoms ts).before a st = ts.all (fun c => c.before a st) := by
  induction ts with
  | nil => rfl
  | cons c t ih =>
    show (Jvm.Cond.and c (allAtoms t)).before a st = _
    rw [Jvm.Cond.before_and, ih, List.all_cons]
def words1 : List Jvm.Cond := Jvm.Cond.code x code maxLocals ret :: tables_1
/-- a 'code' word, met by the world's own term for the bytes: nothing is compared byte by byte -/
theorem code_word {y : MethodName} {bytes : ByteArray} {mx : Nat} {rt : Option FieldType} {a : Array Value} {s : State} {m : MethodId} {meth : Method} {c : Code} (h1 : s.methodNamed? y = some m) (h2 : s.vm.method? m = some meth) (h3 : meth.code = some c) (h4 : c.code = bytes)
    (h5 : (c.maxLocals == mx && c.exceptionTable.isEmpty && decide (c.maxStack ≤ mostOperands) && decide (meth.sig.returnType = rt) && !meth.locks && decide (parseMethodDescriptor y.desc = some meth.sig)) = true) : (Jvm.Cond.code y bytes mx rt).before a s = true := by
  simp only [Bool.and_eq_true, beq_iff_eq, Bool.not_eq_true', decide_eq_true_eq] at h5
  obtain ⟨⟨⟨⟨⟨g1, g2⟩, g3⟩, g4⟩, g5⟩, g6⟩ := h5
  simp [Cond.before, Cond.holds, Cond.value, h1, h2, h3, h4, g1, g2, g3, g4, g5, g6]
def isCode : Jvm.Cond → Bool
  | .code _ _ _ _ => true
  | _ => false
theorem all_split {L : List Jvm.Cond} {P : Jvm.Cond → Bool} (h1 : L.all (fun c => isCode c || P c) = true) (h2 : ∀ c ∈ L.filter isCode, P c = true) : L.all P = true := by
  refine List.all_eq_true.mpr fun c hc => ?_
  have h := List.all_eq_true.mp h1 c hc
  rcases Bool.eq_false_or_eq_true (isCode c) with hi | hi
  · exact h2 c (List.mem_filter.mpr ⟨hc, hi⟩)
  · simpa [hi] using h
set_option maxRecDepth 65536 in
theorem w_c0 : (Jvm.Cond.code x code maxLocals ret).before args0 about1 = true := code_word (m := ⟨1, 1⟩) (meth := k1m1) (c := k1c1) (by decide +kernel) rfl rfl rfl (by decide +kernel)
set_option maxRecDepth 65536 in
theorem w_c1 : (Jvm.Cond.code ({ cls := "com/example/weir3/weir3/biology/BiomassMap", name := "total", desc := "([D)D" } : Jvm.MethodName) prog_1_method_9_code (8 : Nat) (Option.some Jvm.ClassFile.FieldType.double)).before args0 about1 = true := code_word (m := ⟨2, 0⟩) (meth := k2m0) (c := k2c0) (by decide +kernel) rfl rfl rfl (by decide +kernel)
def codes1 : List Jvm.Cond := [Jvm.Cond.code x code maxLocals ret, Jvm.Cond.code ({ cls := "com/example/weir3/weir3/biology/BiomassMap", name := "total", desc := "([D)D" } : Jvm.MethodName) prog_1_method_9_code (8 : Nat) (Option.some Jvm.ClassFile.FieldType.double)]
set_option maxRecDepth 65536 in
theorem codes_eq : words1.filter isCode = codes1 := rfl
theorem w_codes : ∀ c ∈ words1.filter isCode, c.before args0 about1 = true := by
  rw [codes_eq]
  intro c hc
  simp only [codes1, List.mem_cons, List.not_mem_nil, or_false] at hc
  rcases hc with rfl | rfl
  · exact w_c0
  · exact w_c1
set_option maxRecDepth 65536 in
theorem w_t1 : words1.all (fun c => isCode c || c.before args0 about1) = true := by decide +kernel
theorem w_tables : (allAtoms (Jvm.Cond.code x code maxLocals ret :: tables_1)).before args0 about1 = true := by
  rw [allAtoms_all]
  show words1.all (fun c => c.before args0 about1) = true
  refine all_split ?_ w_codes
  rw [w_t1]
set_option maxRecDepth 65536 in
theorem w_case : (Jvm.Cond.and given_1 narrow_1).before args0 about1 = true := by decide +kernel
theorem w_applies : (headSpec (Jvm.Cond.code x code maxLocals ret :: tables_1) room_1).applies x e0.platform about1 = true :=
  (Spec.applies_iff w_frames).mpr ⟨w_running, w_runnable, w_alone, w_named, w_hears, w_ripe, w_room, w_tables⟩
theorem atStart : AtStart classFile x code maxLocals ret World_1 tables_1 room_1 Calls_1 rest_1 Pre_1 launch0 p0 e0 about1 theMethod args0 below0 :=
  ⟨lists_1, trivial, launch0.admits_env _ _ _, launch0.least_env, fairChoices_fair.cas, fairChoices_fair.clock, w_frames, w_args, w_heap, w_applies, trivial, trivial, w_case⟩
end start1
theorem witness_1 : WitnessClaimed_1 := ⟨start1.p0, start1.e0, start1.about1, start1.theMethod, start1.args0, start1.below0, start1.atStart⟩
end Jvm.Pilot.@@N@@
