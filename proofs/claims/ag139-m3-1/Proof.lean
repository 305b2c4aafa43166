import JvmDerived
import JvmDerived.Pilot.@@N@@Statement
import JvmDerived.Pilot.@@N@@Code
set_option linter.unusedVariables false
set_option linter.unusedSimpArgs false
namespace Jvm.RoadKit
open Sem ClassFile Op Lib Jvm.Stand Jvm.Free Jvm.LawKit
section New
variable {p : Program} {l : Launch} {e : Env} {R : Room} {s : State} {m : MethodId} {args : Array Value} {below : List Frame} {meth : Method} {c : Code} {T : State} {locs : List Loc} {cells slots : Nat}
theorem retI (X : Stand p l e R s m args below meth c T locs cells slots) (hx : p.tables.exec = Jvm.exec) {pc : Nat} {Ls : Array Slot} {z : Int32} {rest : List Value} (hret : meth.sig.returnType = some .int) (hd : decode c.code pc = .ok (.ireturn, 1)) {fs : List Frame}
    (hl : ∀ (f : JFrame) (acts : List Action), f.method = m → f.locked = none → f.entered = [] → (doReturn e (T.setTop f) acts (some (.int z))).1 = T.setFrames fs) : Steps p.tables e below (T.setTop (mkF m pc Ls (.int z :: rest))) (T.setFrames fs) := by
  have hm' : T.vm.method? m = some meth := X.method'
  have hn : narrow .int (.int z) = .int z := rfl
  show Steps p.tables e below (T.setTop { method := m, pc := pc, locals := Ls, stack := _ :: rest, locked := none }) _
  jvm_step X.here [X.here.top, hx, hd, hm', hret, hn]
  first | (intro acts; rw [hl _ acts rfl rfl rfl]) | rw [hl _ _ rfl rfl rfl]
  exact Steps.refl _
theorem own_miss {k : Int32} (q : Int32) {a : Int} (hq : q.toInt = a) (h : ¬ k = q) : a ≠ k.toInt := fun e => h (Int32.toInt_inj.mp (e.symm.trans hq.symm))
end New
end Jvm.RoadKit
namespace Jvm.RoadKit
open Sem ClassFile Op Lib Jvm.Stand Jvm.Free Jvm.LawKit
section OwnArrs
variable {p : Program} {l : Launch} {e : Env} {R : Room} {s : State} {m : MethodId} {args : Array Value} {below : List Frame} {meth : Method} {c : Code} {T : State} {locs : List Loc} {cells slots : Nat} {Z : State} {h : Heap} {a : Addr} {k : ClassId} {n : Int32} {vs : List Value} {d : Value} {n0 : Nat}
theorem own_caload (X : Stand p l e R s m args below meth c T locs cells slots) (hx : p.tables.exec = Jvm.exec) (hZ : Z.Warmed39 s.vm) (eT : T.heap = h) (F : Arv Z h a k .char n vs d) {j : Int32} (hj : ¬ j < 0 ∧ j < n) {v : Value} (hv : vs.getD j.toNatClampNeg d = v) {g : JFrame} (hg : g.method = m) {rest : List Value} (hs : g.stack = .int j :: .ref a :: rest) (hd : decode c.code g.pc = .ok (.caload, 1)) (target : State) (hr : Steps p.tables e below (T.setTop { g with pc := g.pc + 1, stack := v :: rest }) target) : Steps p.tables e below (T.setTop g) target := by
  obtain ⟨cl, A, -, S, -, H, -⟩ := F
  have hin := inb_of S hj
  exact X.caload hx (by rw [eT]; exact A.1) (State.isArrayOf_alike hZ.alike A.2.1) A.2.2 hin (Has.at H hin hv) hg hs hd target hr
theorem own_iaload (X : Stand p l e R s m args below meth c T locs cells slots) (hx : p.tables.exec = Jvm.exec) (hZ : Z.Warmed39 s.vm) (eT : T.heap = h) (F : Arv Z h a k .int n vs d) {j : Int32} (hj : ¬ j < 0 ∧ j < n) {v : Value} (hv : vs.getD j.toNatClampNeg d = v) {g : JFrame} (hg : g.method = m) {rest : List Value} (hs : g.stack = .int j :: .ref a :: rest) (hd : decode c.code g.pc = .ok (.iaload, 1)) (target : State) (hr : Steps p.tables e below (T.setTop { g with pc := g.pc + 1, stack := v :: rest }) target) : Steps p.tables e below (T.setTop g) target := by
  obtain ⟨cl, A, -, S, -, H, -⟩ := F
  have hin := inb_of S hj
  exact X.iaload hx (by rw [eT]; exact A.1) (State.isArrayOf_alike hZ.alike A.2.1) A.2.2 hin (Has.at H hin hv) hg hs hd target hr
theorem own_stC (X : Stand p l e R s m args below meth c T locs cells slots) (hx : p.tables.exec = Jvm.exec) (hZ : Z.Warmed39 s.vm) (eT : T.heap = h) (F : Arv Z h a k .char n vs d) {j x : Int32} (hj : ¬ j < 0 ∧ j < n) (i : Nat) (hi : j.toNatClampNeg = i) (hl : i < vs.length) (N : Fr n0 locs) (ga : n0 ≤ a) {g : JFrame} (hg : g.method = m) {rest : List Value} (hs : g.stack = .int x :: .int j :: .ref a :: rest) (hd : decode c.code g.pc = .ok (.castore, 1)) :
    ∃ T' h' L', Stand p l e R s m args below meth c T' L' cells slots ∧ T'.heap = h' ∧ Fr n0 L' ∧ Wr h h' a j.toNatClampNeg (.int (nar .char x)) ∧ Arv Z h' a k .char n (vs.set i (.int (nar .char x))) d ∧ ∀ target, Steps p.tables e below (T'.setTop { g with pc := g.pc + 1, stack := rest }) target → Steps p.tables e below (T.setTop g) target := by
  obtain ⟨cl, A, q, S, M, H, G⟩ := F
  obtain ⟨T', h', X', e', W, st⟩ := stC X hx hZ eT A (inb_of S hj) hg hs hd
  exact ⟨T', h', _, X', e', Fr.snoc X' N ga, W, Arv.set A q S M H G (fits_nar_char _) W i hi hl, st⟩
theorem own_stI (X : Stand p l e R s m args below meth c T locs cells slots) (hx : p.tables.exec = Jvm.exec) (hZ : Z.Warmed39 s.vm) (eT : T.heap = h) (F : Arv Z h a k .int n vs d) {j x : Int32} (hj : ¬ j < 0 ∧ j < n) (i : Nat) (hi : j.toNatClampNeg = i) (hl : i < vs.length) (N : Fr n0 locs) (ga : n0 ≤ a) {g : JFrame} (hg : g.method = m) {rest : List Value} (hs : g.stack = .int x :: .int j :: .ref a :: rest) (hd : decode c.code g.pc = .ok (.iastore, 1)) :
    ∃ T' h' L', Stand p l e R s m args below meth c T' L' cells slots ∧ T'.heap = h' ∧ Fr n0 L' ∧ Wr h h' a j.toNatClampNeg (.int x) ∧ Arv Z h' a k .int n (vs.set i (.int x)) d ∧ ∀ target, Steps p.tables e below (T'.setTop { g with pc := g.pc + 1, stack := rest }) target → Steps p.tables e below (T.setTop g) target := by
  obtain ⟨cl, A, q, S, M, H, G⟩ := F
  obtain ⟨T', h', X', e', W, st⟩ := stI X hx hZ eT A (inb_of S hj) hg hs hd
  exact ⟨T', h', _, X', e', Fr.snoc X' N ga, W, Arv.set A q S M H G rfl W i hi hl, st⟩
end OwnArrs
end Jvm.RoadKit
namespace Jvm.RoadKit
open Sem ClassFile Op Lib Jvm.Stand Jvm.Free Jvm.LawKit
section OwnLongs
variable {p : Program} {l : Launch} {e : Env} {R : Room} {s : State} {m : MethodId} {args : Array Value} {below : List Frame} {meth : Method} {c : Code} {T : State} {locs : List Loc} {cells slots : Nat} {Z : State} {h : Heap} {a b : Addr} {k k' : ClassId} {n : Int32} {vs : List Value} {d : Value} {n0 : Nat}
theorem own_alen (X : Stand p l e R s m args below meth c T locs cells slots) (hx : p.tables.exec = Jvm.exec) (hZ : Z.Warmed39 s.vm) (eT : T.heap = h) {ty : FieldType} (F : Arv Z h a k ty n vs d) {g : JFrame} (hg : g.method = m) {rest : List Value} (hs : g.stack = .ref a :: rest) (hd : decode c.code g.pc = .ok (.arraylength, 1)) (target : State) (hr : Steps p.tables e below (T.setTop { g with pc := g.pc + 1, stack := .int n :: rest }) target) : Steps p.tables e below (T.setTop g) target := by
  obtain ⟨cl, A, -, S, M, -, -⟩ := F
  refine X.arraylength hx (by rw [eT]; exact A.1) (State.isArrayOf_alike hZ.alike A.2.1) hg hs hd _ ?_
  rw [len_of S M]; exact hr
theorem own_laload (X : Stand p l e R s m args below meth c T locs cells slots) (hx : p.tables.exec = Jvm.exec) (hZ : Z.Warmed39 s.vm) (eT : T.heap = h) (F : Arv Z h a k .long n vs d) {j : Int32} (hj : ¬ j < 0 ∧ j < n) {v : Value} (hv : vs.getD j.toNatClampNeg d = v) {g : JFrame} (hg : g.method = m) {rest : List Value} (hs : g.stack = .int j :: .ref a :: rest) (hd : decode c.code g.pc = .ok (.laload, 1)) (target : State) (hr : Steps p.tables e below (T.setTop { g with pc := g.pc + 1, stack := v :: rest }) target) : Steps p.tables e below (T.setTop g) target := by
  obtain ⟨cl, A, -, S, -, H, -⟩ := F
  have hin := inb_of S hj
  exact X.laload hx (by rw [eT]; exact A.1) (State.isArrayOf_alike hZ.alike A.2.1) A.2.2 hin (Has.at H hin hv) hg hs hd target hr
theorem own_stJ (X : Stand p l e R s m args below meth c T locs cells slots) (hx : p.tables.exec = Jvm.exec) (hZ : Z.Warmed39 s.vm) (eT : T.heap = h) (F : Arv Z h a k .long n vs d) {j : Int32} {x : Int64} (hj : ¬ j < 0 ∧ j < n) (i : Nat) (hi : j.toNatClampNeg = i) (hl : i < vs.length) (N : Fr n0 locs) (ga : n0 ≤ a) {g : JFrame} (hg : g.method = m) {rest : List Value} (hs : g.stack = .long x :: .int j :: .ref a :: rest) (hd : decode c.code g.pc = .ok (.lastore, 1)) :
    ∃ T' h' L', Stand p l e R s m args below meth c T' L' cells slots ∧ T'.heap = h' ∧ Fr n0 L' ∧ Wr h h' a j.toNatClampNeg (.long x) ∧ Arv Z h' a k .long n (vs.set i (.long x)) d ∧ ∀ target, Steps p.tables e below (T'.setTop { g with pc := g.pc + 1, stack := rest }) target → Steps p.tables e below (T.setTop g) target := by
  obtain ⟨cl, A, q, S, M, H, G⟩ := F
  obtain ⟨T', h', X', e', W, st⟩ := stJ X hx hZ eT A (inb_of S hj) hg hs hd
  exact ⟨T', h', _, X', e', Fr.snoc X' N ga, W, Arv.set A q S M H G rfl W i hi hl, st⟩
theorem own_sel {a0 as : Array Value} {y : MethodName} {q : Nat} (hZ : Z.Warmed39 s.vm) (wi : (Cond.instantiable y.cls q).before a0 Z = true) (wp : (Cond.privateMethod y).before a0 Z = true) (wm : (Cond.instanceMethod y).before a0 Z = true) (hy : y.cls ≠ "java/lang/invoke/MethodHandle" ∧ y.cls ≠ "java/lang/invoke/VarHandle") : (Cond.selects y.cls y y).before as s = true := by
  obtain ⟨cc, kc, h1, h2, h3, h4, -⟩ := Cond.instantiable_spec (mvT (args := as) hZ wi)
  have h5 : kc.isInterface = false := by cases hi : kc.isInterface <;> simp [hi] at h4 ⊢
  exact selects_self_of_private h1 h2 h5 (Cond.privateMethod_at (mvP hZ wp (args := #[]))) (mvT hZ wm) hy
theorem own_ne_ea {a0 : Array Value} {C : String} {q : Nat} {ty : FieldType} (E : Exa Z h a C) (wi : (Cond.instantiable C q).before a0 Z = true) (V : Arv Z h b k ty n vs d) : a ≠ b := by obtain ⟨c, A, -⟩ := V; exact ne_arr E wi A
theorem own_ne_il {n' : Int32} {vs' : List Value} {d' : Value} (V : Arv Z h a k .int n vs d) (W : Arv Z h b k' .long n' vs' d') : a ≠ b := by
  rintro rfl
  obtain ⟨c, A, -⟩ := V
  obtain ⟨c', A', -⟩ := W
  cases A.1.symm.trans A'.1
  obtain ⟨-, k1, j1, comp, j2⟩ := A.2.1
  obtain ⟨-, k2, i1, comp', i2⟩ := A'.2.1
  cases j1.symm.trans i1
  rw [j2] at i2; cases i2
end OwnLongs
end Jvm.RoadKit
namespace Jvm.Pilot.@@N@@
open Jvm Jvm.ClassFile Sem Op Lib Jvm.Free Jvm.Stand Jvm.LawKit Jvm.RoadKit Bundle Jvm.Pilot.@@N@@.Jvm.D
theorem own_ti {n : Nat} (h : n < 65536) : (Int32.ofNat n).toInt = n := Int32.toInt_ofNat_of_lt (by omega)
theorem own_n32 {n : Nat} (h : n < 65536) : (Int32.ofNat n).toNatClampNeg = n := by rw [Int32.toNatClampNeg, own_ti h]; rfl
theorem own_nn {n : Nat} (h : n < 65536) : ¬ Int32.ofNat n < 0 := by rw [Int32.lt_iff_toInt_lt, own_ti h, show (0 : Int32).toInt = 0 from rfl]; omega
theorem own_lt {a b : Nat} (h : a < b) (hb : b < 65536) : Int32.ofNat a < Int32.ofNat b := by rw [Int32.lt_iff_toInt_lt, own_ti (by omega), own_ti hb]; omega
theorem own_nlt {a b : Nat} (h : b ≤ a) (ha : a < 65536) : ¬ Int32.ofNat a < Int32.ofNat b := by rw [Int32.lt_iff_toInt_lt, own_ti ha, own_ti (by omega)]; omega
theorem own_ltE {a b : Nat} (ha : a < 65536) (hb : b < 65536) (h : Int32.ofNat a < Int32.ofNat b) : a < b := by rw [Int32.lt_iff_toInt_lt, own_ti ha, own_ti hb] at h; omega
theorem own_nltE {a b : Nat} (ha : a < 65536) (hb : b < 65536) (h : ¬ Int32.ofNat a < Int32.ofNat b) : b ≤ a := by rw [Int32.lt_iff_toInt_lt, own_ti ha, own_ti hb] at h; omega
theorem own_add (a b : Nat) : Int32.ofNat a + Int32.ofNat b = Int32.ofNat (a + b) := (Int32.ofNat_add a b).symm
theorem own_sub {a b : Nat} (h : b ≤ a) : Int32.ofNat a - Int32.ofNat b = Int32.ofNat (a - b) := by
  have e : Int32.ofNat a = Int32.ofNat (a - b) + Int32.ofNat b := by rw [own_add, Nat.sub_add_cancel h]
  rw [e, Int32.add_sub_cancel]
theorem own_nat {x : Int32} (h : ¬ x < 0) : x = Int32.ofNat x.toNatClampNeg := (back32 h).1.symm
/-- an int[] of n places -/
def own_I (Z : State) (h : Heap) (a : Addr) (k : ClassId) (n : Nat) : Prop := ∃ vs : List Value, Arv Z h a k .int (Int32.ofNat n) vs (.int (0 : Int32)) ∧ vs.length = n
/-- a glyph -/
def own_gy (v : Value) : Prop := ∃ i : Nat, v = .int (Int32.ofNat i) ∧ i ≤ 65535
/-- the glyphs of an int[] -/
def own_GL (Z : State) (h : Heap) (a : Addr) (k : ClassId) (n : Nat) : Prop := ∃ vs : List Value, Arv Z h a k .int (Int32.ofNat n) vs (.int (0 : Int32)) ∧ vs.length = n ∧ ∀ v ∈ vs, own_gy v
theorem own_gyset {vs : List Value} {v : Value} (i : Nat) (h : ∀ w ∈ vs, own_gy w) (hv : own_gy v) : ∀ w ∈ vs.set i v, own_gy w := fun w hw => (List.mem_or_eq_of_mem_set hw).elim (h w) (fun e => e ▸ hv)
theorem own_mask (x : Int64) : own_gy (.int ((x &&& (65535 : Int64)).toInt32)) := by
  have q0 : (x &&& 65535).toBitVec.toNat ≤ 65535 := by
    simp only [Int64.toBitVec_and, BitVec.toNat_and]
    exact Nat.and_le_right
  have q : (x &&& 65535).toInt = ((x &&& 65535).toBitVec.toNat : Int) := BitVec.toInt_eq_toNat_of_lt (by omega)
  refine ⟨(x &&& 65535).toInt.toNat, ?_, by omega⟩
  apply congrArg Value.int
  apply Int32.toInt_inj.mp
  rw [own_ti (by omega), Int64.toInt_toInt32, Int.bmod_eq_of_le (by omega) (by omega)]
  omega
theorem d6_0 : decode jdk_92_method_1_code 0 = .ok (.iload_n 0, 1) := by decide +kernel
theorem d6_1 : decode jdk_92_method_1_code 1 = .ok (.bipush 6, 2) := by decide +kernel
theorem d6_3 : decode jdk_92_method_1_code 3 = .ok (.ishr, 1) := by decide +kernel
theorem d6_4 : decode jdk_92_method_1_code 4 = .ok (.ireturn, 1) := by decide +kernel
def f6_0_r (i0 : Int32) : Int32 := (i0 >>> ((6 : Int32) &&& 31))
set_option maxRecDepth 65536 in
set_option maxHeartbeats 40000000 in
theorem f6_0 {p : Program} {l : Launch} {e : Env} {R : Room} {s : State} {m : MethodId} {args : Array Value} {below : List Frame} {meth : Method} {c : Code} {T : State} {locs : List Loc} {cells slots : Nat} {Z : State} {a0 : Array Value} {target : State} (i0 : Int32) (X : Stand p l e R s m args below meth c T locs cells slots) (hx : p.tables.exec = Jvm.exec) (hZ : Z.Warmed39 s.vm) (hw : ∀ d ∈ tables_1, d.before a0 Z = true) (hby : c.code = jdk_92_method_1_code) (hown : s.vm.findClass "java/util/BitSet" = some m.cls) (k : ∀ (pc : Nat) (Ls : Array Slot), decode c.code pc = .ok (.ireturn, 1) → Steps p.tables e below (T.setTop (mkF m pc Ls [(.int (f6_0_r i0))])) target) :
    Steps p.tables e below (T.setTop (mkF m 0 #[.val (.int i0)] [])) target := by
  show Steps p.tables e below (T.setTop (mkF m 0 #[.val (.int i0)] [])) _
  refine XS.iloadN X.here hx rfl (hb hby d6_0) rfl ?_
  show Steps p.tables e below (T.setTop (mkF m 1 #[.val (.int i0)] [(.int i0)])) _
  refine XS.bipush X.here hx rfl (hb hby d6_1) ?_
  show Steps p.tables e below (T.setTop (mkF m 3 #[.val (.int i0)] [(.int (6 : Int32)), (.int i0)])) _
  refine XS.ishr X.here hx rfl (hb hby d6_3) rfl ?_
  have e_r : (f6_0_r i0) = (i0 >>> ((6 : Int32) &&& 31)) := by rfl
  rw [e_r] at k
  exact k _ _ (hb hby d6_4)
theorem pn_5 : plainName "java/util/BitSet" = true := by first | (simp [plainName, overriddenIn]; done) | decide +kernel
theorem ef_rm6 (m : MethodId) (x0 : Int32) : entryFrame m #[(.int x0)] 1 = mkF m 0 #[.val (.int x0)] [] := by first | (simp [entryFrame, mkF, argsToLocals, Value.category]; done) | rfl
def Q_rm6 (Z : State) (p0 : Int32) (h0 : Heap) (n0 : Nat) (v : Option Value) (h : Heap) (L : List Loc) : Prop := v = some (.int (f6_0_r p0)) ∧ Fr n0 L ∧ h = h0
set_option maxRecDepth 65536 in
set_option maxHeartbeats 40000000 in
theorem rm6 (l : Launch) (Z : State) (a0 : Array Value) (hw : ∀ d ∈ tables_1, d.before a0 Z = true) (ws : List Jvm.Cond) (p0 : Int32) (h0 : Heap) (n0 : Nat) (Z0 : n0 ≤ h0.size) :
    MetFree l (⟨"java/util/BitSet", "wordIndex", "(I)I"⟩ : MethodName) (head1 (Jvm.Cond.code (⟨"java/util/BitSet", "wordIndex", "(I)I"⟩ : MethodName) jdk_92_method_1_code 1 (some .int) :: ws) ({ frames := 0, cells := 0, slots := 0, locals := 0 } : Room)) (fun a U => a = #[(.int p0)] ∧ Z.Warmed39 U.vm ∧ U.heap = h0) (fun _ _ _ _ _ => True) (fun _ U o U' => ∃ v L, o = .returned v ∧ Q_rm6 Z p0 h0 n0 v U'.heap L ∧ FrameEnd U o U' L ({ frames := 0, cells := 0, slots := 0, locals := 0 } : Room).cells ({ frames := 0, cells := 0, slots := 0, locals := 0 } : Room).slots) := by
  refine MetFree.of_bodySF (plainFor_of_name pn_5) hisR ?_
  intro p e s m args below meth c s₁ Bd hml0 hP hK
  obtain ⟨rfl, hZ, hh⟩ := hP
  have hx := Bd.exec
  have hby := Bd.bytes
  have hml : c.maxLocals = 1 := hml0
  have hown : s.vm.findClass "java/util/BitSet" = some m.cls := findClass_of_methodNamed Bd.named
  have hnm := (name_of_methodNamed Bd.named Bd.method).1
  have X0 : Stand p l e ({ frames := 0, cells := 0, slots := 0, locals := 0 } : Room) s m #[(.int p0)] below meth c s₁ [] 0 0 := Stand.of_body Bd
  have e0 : s₁.heap = h0 := by rw [← hh, Bd.state]; rfl
  have N0 := Fr.nil n0
  have c0 : ∀ τ, Steps p.tables e below (s₁.setTop (mkF m 0 #[.val (.int p0)] [])) τ → Steps p.tables e below (s₁.setTop (entryFrame m #[(.int p0)] 1)) τ := fun τ κ => castTop (ef_rm6 m p0) κ
  obtain ⟨fs, hr, hrun, hended, hW, hsame⟩ := X0.leave (v := some (.int (f6_0_r p0))) (fun h => by rw [Bd.returns] at h; cases h)
  refine ⟨_, _, c0 _ (f6_0 p0 X0 hx hZ hw hby hown (fun pc Ls hd => retI X0 hx Bd.returns hd hr)), hrun, hended, _, _, rfl, ?_, ⟨_, rfl⟩, hW, hsame.mono (by decide) (by decide)⟩
  show Q_rm6 Z p0 h0 n0 _ s₁.heap _
  rw [e0]
  exact ⟨rfl, N0, rfl⟩
theorem d14_0 : decode jdk_29_method_65_code 0 = .ok (.iload_n 0, 1) := by decide +kernel
theorem d14_1 : decode jdk_29_method_65_code 1 = .ok (.iload_n 1, 1) := by decide +kernel
theorem d14_2 : decode jdk_29_method_65_code 2 = .ok (.if_icmp .lt 7, 3) := by decide +kernel
theorem d14_5 : decode jdk_29_method_65_code 5 = .ok (.iload_n 0, 1) := by decide +kernel
theorem d14_6 : decode jdk_29_method_65_code 6 = .ok (.goto 4, 3) := by decide +kernel
theorem d14_9 : decode jdk_29_method_65_code 9 = .ok (.iload_n 1, 1) := by decide +kernel
theorem d14_10 : decode jdk_29_method_65_code 10 = .ok (.ireturn, 1) := by decide +kernel
def f14_0_r (i0 : Int32) (i1 : Int32) : Int32 := if i0 < i1 then i1 else i0
set_option maxRecDepth 65536 in
set_option maxHeartbeats 40000000 in
theorem f14_0 {p : Program} {l : Launch} {e : Env} {R : Room} {s : State} {m : MethodId} {args : Array Value} {below : List Frame} {meth : Method} {c : Code} {T : State} {locs : List Loc} {cells slots : Nat} {Z : State} {a0 : Array Value} {target : State} (i0 : Int32) (i1 : Int32) (X : Stand p l e R s m args below meth c T locs cells slots) (hx : p.tables.exec = Jvm.exec) (hZ : Z.Warmed39 s.vm) (hw : ∀ d ∈ tables_1, d.before a0 Z = true) (hby : c.code = jdk_29_method_65_code) (hown : s.vm.findClass "java/lang/Math" = some m.cls) (k : ∀ (pc : Nat) (Ls : Array Slot), decode c.code pc = .ok (.ireturn, 1) → Steps p.tables e below (T.setTop (mkF m pc Ls [(.int (f14_0_r i0 i1))])) target) :
    Steps p.tables e below (T.setTop (mkF m 0 #[.val (.int i0), .val (.int i1)] [])) target := by
  show Steps p.tables e below (T.setTop (mkF m 0 #[.val (.int i0), .val (.int i1)] [])) _
  refine XS.iloadN X.here hx rfl (hb hby d14_0) rfl ?_
  show Steps p.tables e below (T.setTop (mkF m 1 #[.val (.int i0), .val (.int i1)] [(.int i0)])) _
  refine XS.iloadN X.here hx rfl (hb hby d14_1) rfl ?_
  show Steps p.tables e below (T.setTop (mkF m 2 #[.val (.int i0), .val (.int i1)] [(.int i1), (.int i0)])) _
  by_cases q2 : i0 < i1
  · refine XS.icmpYes X.here hx rfl (pc0 := 2) (pc' := 9) rfl (hb hby d14_2) rfl (tlt q2).1 (by decide) (by decide) ?_
    show Steps p.tables e below (T.setTop (mkF m 9 #[.val (.int i0), .val (.int i1)] [])) _
    refine XS.iloadN X.here hx rfl (hb hby d14_9) rfl ?_
    have e_r : (f14_0_r i0 i1) = i1 := by unfold f14_0_r; rw [if_pos q2]
    rw [e_r] at k
    exact k _ _ (hb hby d14_10)
  · refine XS.icmpNo X.here hx rfl (hb hby d14_2) rfl (flt q2).1 ?_
    show Steps p.tables e below (T.setTop (mkF m 5 #[.val (.int i0), .val (.int i1)] [])) _
    refine XS.iloadN X.here hx rfl (hb hby d14_5) rfl ?_
    show Steps p.tables e below (T.setTop (mkF m 6 #[.val (.int i0), .val (.int i1)] [(.int i0)])) _
    refine XS.goto X.here hx rfl (pc0 := 6) (pc' := 10) rfl (hb hby d14_6) (by decide) (by decide) ?_
    have e_r : (f14_0_r i0 i1) = i0 := by unfold f14_0_r; rw [if_neg q2]
    rw [e_r] at k
    exact k _ _ (hb hby d14_10)
theorem ef_rm14 (m : MethodId) (x0 : Int32) (x1 : Int32) : entryFrame m #[(.int x0), (.int x1)] 2 = mkF m 0 #[.val (.int x0), .val (.int x1)] [] := by first | (simp [entryFrame, mkF, argsToLocals, Value.category]; done) | rfl
def Q_rm14 (Z : State) (p0 : Int32) (p1 : Int32) (h0 : Heap) (n0 : Nat) (v : Option Value) (h : Heap) (L : List Loc) : Prop := v = some (.int (f14_0_r p0 p1)) ∧ Fr n0 L ∧ h = h0
set_option maxRecDepth 65536 in
set_option maxHeartbeats 40000000 in
theorem rm14 (l : Launch) (Z : State) (a0 : Array Value) (hw : ∀ d ∈ tables_1, d.before a0 Z = true) (ws : List Jvm.Cond) (p0 : Int32) (p1 : Int32) (h0 : Heap) (n0 : Nat) (Z0 : n0 ≤ h0.size) :
    MetFree l (⟨"java/lang/Math", "max", "(II)I"⟩ : MethodName) (head1 (Jvm.Cond.code (⟨"java/lang/Math", "max", "(II)I"⟩ : MethodName) jdk_29_method_65_code 2 (some .int) :: ws) ({ frames := 0, cells := 0, slots := 0, locals := 0 } : Room)) (fun a U => a = #[(.int p0), (.int p1)] ∧ Z.Warmed39 U.vm ∧ U.heap = h0) (fun _ _ _ _ _ => True) (fun _ U o U' => ∃ v L, o = .returned v ∧ Q_rm14 Z p0 p1 h0 n0 v U'.heap L ∧ FrameEnd U o U' L ({ frames := 0, cells := 0, slots := 0, locals := 0 } : Room).cells ({ frames := 0, cells := 0, slots := 0, locals := 0 } : Room).slots) := by
  refine MetFree.of_bodySF (Jvm.Free.JP.mathPlain rfl (by decide +kernel)) hisR ?_
  intro p e s m args below meth c s₁ Bd hml0 hP hK
  obtain ⟨rfl, hZ, hh⟩ := hP
  have hx := Bd.exec
  have hby := Bd.bytes
  have hml : c.maxLocals = 2 := hml0
  have hown : s.vm.findClass "java/lang/Math" = some m.cls := findClass_of_methodNamed Bd.named
  have hnm := (name_of_methodNamed Bd.named Bd.method).1
  have X0 : Stand p l e ({ frames := 0, cells := 0, slots := 0, locals := 0 } : Room) s m #[(.int p0), (.int p1)] below meth c s₁ [] 0 0 := Stand.of_body Bd
  have e0 : s₁.heap = h0 := by rw [← hh, Bd.state]; rfl
  have N0 := Fr.nil n0
  have c0 : ∀ τ, Steps p.tables e below (s₁.setTop (mkF m 0 #[.val (.int p0), .val (.int p1)] [])) τ → Steps p.tables e below (s₁.setTop (entryFrame m #[(.int p0), (.int p1)] 2)) τ := fun τ κ => castTop (ef_rm14 m p0 p1) κ
  obtain ⟨fs, hr, hrun, hended, hW, hsame⟩ := X0.leave (v := some (.int (f14_0_r p0 p1))) (fun h => by rw [Bd.returns] at h; cases h)
  refine ⟨_, _, c0 _ (f14_0 p0 p1 X0 hx hZ hw hby hown (fun pc Ls hd => retI X0 hx Bd.returns hd hr)), hrun, hended, _, _, rfl, ?_, ⟨_, rfl⟩, hW, hsame.mono (by decide) (by decide)⟩
  show Q_rm14 Z p0 p1 h0 n0 _ s₁.heap _
  rw [e0]
  exact ⟨rfl, N0, rfl⟩
theorem d16_0 : decode jdk_29_method_69_code 0 = .ok (.iload_n 0, 1) := by decide +kernel
theorem d16_1 : decode jdk_29_method_69_code 1 = .ok (.iload_n 1, 1) := by decide +kernel
theorem d16_2 : decode jdk_29_method_69_code 2 = .ok (.if_icmp .gt 7, 3) := by decide +kernel
theorem d16_5 : decode jdk_29_method_69_code 5 = .ok (.iload_n 0, 1) := by decide +kernel
theorem d16_6 : decode jdk_29_method_69_code 6 = .ok (.goto 4, 3) := by decide +kernel
theorem d16_9 : decode jdk_29_method_69_code 9 = .ok (.iload_n 1, 1) := by decide +kernel
theorem d16_10 : decode jdk_29_method_69_code 10 = .ok (.ireturn, 1) := by decide +kernel
def f16_0_r (i0 : Int32) (i1 : Int32) : Int32 := if i1 < i0 then i1 else i0
set_option maxRecDepth 65536 in
set_option maxHeartbeats 40000000 in
theorem f16_0 {p : Program} {l : Launch} {e : Env} {R : Room} {s : State} {m : MethodId} {args : Array Value} {below : List Frame} {meth : Method} {c : Code} {T : State} {locs : List Loc} {cells slots : Nat} {Z : State} {a0 : Array Value} {target : State} (i0 : Int32) (i1 : Int32) (X : Stand p l e R s m args below meth c T locs cells slots) (hx : p.tables.exec = Jvm.exec) (hZ : Z.Warmed39 s.vm) (hw : ∀ d ∈ tables_1, d.before a0 Z = true) (hby : c.code = jdk_29_method_69_code) (hown : s.vm.findClass "java/lang/Math" = some m.cls) (k : ∀ (pc : Nat) (Ls : Array Slot), decode c.code pc = .ok (.ireturn, 1) → Steps p.tables e below (T.setTop (mkF m pc Ls [(.int (f16_0_r i0 i1))])) target) :
    Steps p.tables e below (T.setTop (mkF m 0 #[.val (.int i0), .val (.int i1)] [])) target := by
  show Steps p.tables e below (T.setTop (mkF m 0 #[.val (.int i0), .val (.int i1)] [])) _
  refine XS.iloadN X.here hx rfl (hb hby d16_0) rfl ?_
  show Steps p.tables e below (T.setTop (mkF m 1 #[.val (.int i0), .val (.int i1)] [(.int i0)])) _
  refine XS.iloadN X.here hx rfl (hb hby d16_1) rfl ?_
  show Steps p.tables e below (T.setTop (mkF m 2 #[.val (.int i0), .val (.int i1)] [(.int i1), (.int i0)])) _
  by_cases q2 : i1 < i0
  · refine XS.icmpYes X.here hx rfl (pc0 := 2) (pc' := 9) rfl (hb hby d16_2) rfl (tlt q2).2.2.1 (by decide) (by decide) ?_
    show Steps p.tables e below (T.setTop (mkF m 9 #[.val (.int i0), .val (.int i1)] [])) _
    refine XS.iloadN X.here hx rfl (hb hby d16_9) rfl ?_
    have e_r : (f16_0_r i0 i1) = i1 := by unfold f16_0_r; rw [if_pos q2]
    rw [e_r] at k
    exact k _ _ (hb hby d16_10)
  · refine XS.icmpNo X.here hx rfl (hb hby d16_2) rfl (flt q2).2.2.1 ?_
    show Steps p.tables e below (T.setTop (mkF m 5 #[.val (.int i0), .val (.int i1)] [])) _
    refine XS.iloadN X.here hx rfl (hb hby d16_5) rfl ?_
    show Steps p.tables e below (T.setTop (mkF m 6 #[.val (.int i0), .val (.int i1)] [(.int i0)])) _
    refine XS.goto X.here hx rfl (pc0 := 6) (pc' := 10) rfl (hb hby d16_6) (by decide) (by decide) ?_
    have e_r : (f16_0_r i0 i1) = i0 := by unfold f16_0_r; rw [if_neg q2]
    rw [e_r] at k
    exact k _ _ (hb hby d16_10)
theorem ef_rm16 (m : MethodId) (x0 : Int32) (x1 : Int32) : entryFrame m #[(.int x0), (.int x1)] 2 = mkF m 0 #[.val (.int x0), .val (.int x1)] [] := by first | (simp [entryFrame, mkF, argsToLocals, Value.category]; done) | rfl
def Q_rm16 (Z : State) (p0 : Int32) (p1 : Int32) (h0 : Heap) (n0 : Nat) (v : Option Value) (h : Heap) (L : List Loc) : Prop := v = some (.int (f16_0_r p0 p1)) ∧ Fr n0 L ∧ h = h0
set_option maxRecDepth 65536 in
set_option maxHeartbeats 40000000 in
theorem rm16 (l : Launch) (Z : State) (a0 : Array Value) (hw : ∀ d ∈ tables_1, d.before a0 Z = true) (ws : List Jvm.Cond) (p0 : Int32) (p1 : Int32) (h0 : Heap) (n0 : Nat) (Z0 : n0 ≤ h0.size) :
    MetFree l (⟨"java/lang/Math", "min", "(II)I"⟩ : MethodName) (head1 (Jvm.Cond.code (⟨"java/lang/Math", "min", "(II)I"⟩ : MethodName) jdk_29_method_69_code 2 (some .int) :: ws) ({ frames := 0, cells := 0, slots := 0, locals := 0 } : Room)) (fun a U => a = #[(.int p0), (.int p1)] ∧ Z.Warmed39 U.vm ∧ U.heap = h0) (fun _ _ _ _ _ => True) (fun _ U o U' => ∃ v L, o = .returned v ∧ Q_rm16 Z p0 p1 h0 n0 v U'.heap L ∧ FrameEnd U o U' L ({ frames := 0, cells := 0, slots := 0, locals := 0 } : Room).cells ({ frames := 0, cells := 0, slots := 0, locals := 0 } : Room).slots) := by
  refine MetFree.of_bodySF (Jvm.Free.JP.mathPlain rfl (by decide +kernel)) hisR ?_
  intro p e s m args below meth c s₁ Bd hml0 hP hK
  obtain ⟨rfl, hZ, hh⟩ := hP
  have hx := Bd.exec
  have hby := Bd.bytes
  have hml : c.maxLocals = 2 := hml0
  have hown : s.vm.findClass "java/lang/Math" = some m.cls := findClass_of_methodNamed Bd.named
  have hnm := (name_of_methodNamed Bd.named Bd.method).1
  have X0 : Stand p l e ({ frames := 0, cells := 0, slots := 0, locals := 0 } : Room) s m #[(.int p0), (.int p1)] below meth c s₁ [] 0 0 := Stand.of_body Bd
  have e0 : s₁.heap = h0 := by rw [← hh, Bd.state]; rfl
  have N0 := Fr.nil n0
  have c0 : ∀ τ, Steps p.tables e below (s₁.setTop (mkF m 0 #[.val (.int p0), .val (.int p1)] [])) τ → Steps p.tables e below (s₁.setTop (entryFrame m #[(.int p0), (.int p1)] 2)) τ := fun τ κ => castTop (ef_rm16 m p0 p1) κ
  obtain ⟨fs, hr, hrun, hended, hW, hsame⟩ := X0.leave (v := some (.int (f16_0_r p0 p1))) (fun h => by rw [Bd.returns] at h; cases h)
  refine ⟨_, _, c0 _ (f16_0 p0 p1 X0 hx hZ hw hby hown (fun pc Ls hd => retI X0 hx Bd.returns hd hr)), hrun, hended, _, _, rfl, ?_, ⟨_, rfl⟩, hW, hsame.mono (by decide) (by decide)⟩
  show Q_rm16 Z p0 p1 h0 n0 _ s₁.heap _
  rw [e0]
  exact ⟨rfl, N0, rfl⟩
theorem d1_0 : decode method_2_code 0 = .ok (.iload_n 1, 1) := by decide +kernel
theorem d1_1 : decode method_2_code 1 = .ok (.aload_n 0, 1) := by decide +kernel
theorem d1_2 : decode method_2_code 2 = .ok (.arraylength, 1) := by decide +kernel
theorem d1_3 : decode method_2_code 3 = .ok (.if_icmp .ge 17, 3) := by decide +kernel
theorem d1_6 : decode method_2_code 6 = .ok (.aload_n 0, 1) := by decide +kernel
theorem d1_7 : decode method_2_code 7 = .ok (.iload_n 1, 1) := by decide +kernel
theorem d1_8 : decode method_2_code 8 = .ok (.lload_n 2, 1) := by decide +kernel
theorem d1_9 : decode method_2_code 9 = .ok (.bipush 8, 2) := by decide +kernel
theorem d1_11 : decode method_2_code 11 = .ok (.iload_n 1, 1) := by decide +kernel
theorem d1_12 : decode method_2_code 12 = .ok (.imul, 1) := by decide +kernel
theorem d1_13 : decode method_2_code 13 = .ok (.lushr, 1) := by decide +kernel
theorem d1_14 : decode method_2_code 14 = .ok (.ldc2_w 7, 3) := by decide +kernel
theorem d1_17 : decode method_2_code 17 = .ok (.land, 1) := by decide +kernel
theorem d1_18 : decode method_2_code 18 = .ok (.l2i, 1) := by decide +kernel
theorem d1_19 : decode method_2_code 19 = .ok (.iastore, 1) := by decide +kernel
theorem d1_20 : decode method_2_code 20 = .ok (.return_, 1) := by decide +kernel
theorem pn_0 : plainName "com/example/tapeline/tapeline/GlyphRunLengthPinLaw" = true := by first | (simp [plainName, overriddenIn]; done) | decide +kernel
theorem ef_rm1 (m : MethodId) (x0 : Addr) (x1 : Int32) (x2 : Int64) : entryFrame m #[(.ref x0), (.int x1), (.long x2)] 4 = mkF m 0 #[.val (.ref x0), .val (.int x1), .val (.long x2), .second] [] := by first | (simp [entryFrame, mkF, argsToLocals, Value.category]; done) | rfl
def Q_rm1 (Z : State) (o0 : Addr) (p1 : Int32) (q2 : Int64) (ka : ClassId) (n : Nat) (h0 : Heap) (n0 : Nat) (v : Option Value) (h : Heap) (L : List Loc) : Prop := v = none ∧ Fr n0 L ∧ Keep h0 h [o0] ∧ own_GL Z h o0 ka n
set_option maxRecDepth 65536 in
set_option maxHeartbeats 40000000 in
theorem rm1 (l : Launch) (Z : State) (a0 : Array Value) (hw : ∀ d ∈ tables_1, d.before a0 Z = true) (ws : List Jvm.Cond) (o0 : Addr) (p1 : Int32) (q2 : Int64) (ka : ClassId) (n : Nat) (h0 : Heap) (n0 : Nat) (Z0 : n0 ≤ h0.size) (G : own_GL Z h0 o0 ka n) (hn : n ≤ 7) (hp : ¬ p1 < 0) (g0 : n0 ≤ o0) :
    MetFree l (⟨"com/example/tapeline/tapeline/GlyphRunLengthPinLaw", "fill", "([IIJ)V"⟩ : MethodName) (head1 (Jvm.Cond.code (⟨"com/example/tapeline/tapeline/GlyphRunLengthPinLaw", "fill", "([IIJ)V"⟩ : MethodName) method_2_code 4 none :: ws) ({ frames := 0, cells := 0, slots := 0, locals := 0 } : Room)) (fun a U => a = #[(.ref o0), (.int p1), (.long q2)] ∧ Z.Warmed39 U.vm ∧ U.heap = h0) (fun _ _ _ _ _ => True) (fun _ U o U' => ∃ v L, o = .returned v ∧ Q_rm1 Z o0 p1 q2 ka n h0 n0 v U'.heap L ∧ FrameEnd U o U' L ({ frames := 0, cells := 0, slots := 0, locals := 0 } : Room).cells ({ frames := 0, cells := 0, slots := 0, locals := 0 } : Room).slots) := by
  refine MetFree.of_bodySF (plainFor_of_name pn_0) hisR ?_
  intro p e s m args below meth c s₁ Bd hml0 hP hK
  obtain ⟨rfl, hZ, hh⟩ := hP
  have hx := Bd.exec
  have hby := Bd.bytes
  have hml : c.maxLocals = 4 := hml0
  have hown : s.vm.findClass "com/example/tapeline/tapeline/GlyphRunLengthPinLaw" = some m.cls := findClass_of_methodNamed Bd.named
  have hnm := (name_of_methodNamed Bd.named Bd.method).1
  have X0 : Stand p l e ({ frames := 0, cells := 0, slots := 0, locals := 0 } : Room) s m #[(.ref o0), (.int p1), (.long q2)] below meth c s₁ [] 0 0 := Stand.of_body Bd
  have e0 : s₁.heap = h0 := by rw [← hh, Bd.state]; rfl
  have N0 := Fr.nil n0
  have c0 : ∀ τ, Steps p.tables e below (s₁.setTop (mkF m 0 #[.val (.ref o0), .val (.int p1), .val (.long q2), .second] [])) τ → Steps p.tables e below (s₁.setTop (entryFrame m #[(.ref o0), (.int p1), (.long q2)] 4)) τ := fun τ κ => castTop (ef_rm1 m o0 p1 q2) κ
  obtain ⟨vs, FV, hvl, hvr⟩ := G
  have c1 : ∀ τ, Steps p.tables e below (s₁.setTop (mkF m 2 #[.val (.ref o0), .val (.int p1), .val (.long q2), .second] [(.ref o0), (.int p1)])) τ → Steps p.tables e below (s₁.setTop (entryFrame m #[(.ref o0), (.int p1), (.long q2)] 4)) τ := fun τ κ => c0 τ (by
      show Steps p.tables e below (s₁.setTop (mkF m 0 #[.val (.ref o0), .val (.int p1), .val (.long q2), .second] [])) _
      refine XS.iloadN X0.here hx rfl (hb hby d1_0) rfl ?_
      show Steps p.tables e below (s₁.setTop (mkF m 1 #[.val (.ref o0), .val (.int p1), .val (.long q2), .second] [(.int p1)])) _
      refine XS.aloadN X0.here hx rfl (hb hby d1_1) rfl rfl ?_
      exact κ)
  have c2 : ∀ τ, Steps p.tables e below (s₁.setTop (mkF m 3 #[.val (.ref o0), .val (.int p1), .val (.long q2), .second] [(.int (Int32.ofNat n)), (.int p1)])) τ → Steps p.tables e below (s₁.setTop (entryFrame m #[(.ref o0), (.int p1), (.long q2)] 4)) τ := fun τ κ => c1 τ (own_alen X0 hx hZ e0 FV (g := (mkF m 2 #[.val (.ref o0), .val (.int p1), .val (.long q2), .second] [(.ref o0), (.int p1)])) rfl rfl (hb hby d1_2) _ κ)
  by_cases hc : p1 < (Int32.ofNat n)
  · have hpi : p1.toNatClampNeg < n := by
      have hp' := hp
      rw [Int32.lt_iff_toInt_lt, show (0 : Int32).toInt = 0 from rfl] at hp'
      rw [Int32.lt_iff_toInt_lt, own_ti (by omega)] at hc
      simp only [Int32.toNatClampNeg]; omega
    have c3 : ∀ τ, Steps p.tables e below (s₁.setTop (mkF m 19 #[.val (.ref o0), .val (.int p1), .val (.long q2), .second] [(.int ((((q2.toUInt64 >>> (((8 : Int32) * p1) &&& 0x3f).toInt64.toUInt64).toInt64) &&& (65535 : Int64)).toInt32)), (.int p1), (.ref o0)])) τ → Steps p.tables e below (s₁.setTop (entryFrame m #[(.ref o0), (.int p1), (.long q2)] 4)) τ := fun τ κ => c2 τ (by
        show Steps p.tables e below (s₁.setTop (mkF m 3 #[.val (.ref o0), .val (.int p1), .val (.long q2), .second] [(.int (Int32.ofNat n)), (.int p1)])) _
        refine XS.icmpNo X0.here hx rfl (hb hby d1_3) rfl (tlt hc).2.1 ?_
        show Steps p.tables e below (s₁.setTop (mkF m 6 #[.val (.ref o0), .val (.int p1), .val (.long q2), .second] [])) _
        refine XS.aloadN X0.here hx rfl (hb hby d1_6) rfl rfl ?_
        show Steps p.tables e below (s₁.setTop (mkF m 7 #[.val (.ref o0), .val (.int p1), .val (.long q2), .second] [(.ref o0)])) _
        refine XS.iloadN X0.here hx rfl (hb hby d1_7) rfl ?_
        show Steps p.tables e below (s₁.setTop (mkF m 8 #[.val (.ref o0), .val (.int p1), .val (.long q2), .second] [(.int p1), (.ref o0)])) _
        refine XS.lloadN X0.here hx rfl (hb hby d1_8) rfl ?_
        show Steps p.tables e below (s₁.setTop (mkF m 9 #[.val (.ref o0), .val (.int p1), .val (.long q2), .second] [(.long q2), (.int p1), (.ref o0)])) _
        refine XS.bipush X0.here hx rfl (hb hby d1_9) ?_
        show Steps p.tables e below (s₁.setTop (mkF m 11 #[.val (.ref o0), .val (.int p1), .val (.long q2), .second] [(.int (8 : Int32)), (.long q2), (.int p1), (.ref o0)])) _
        refine XS.iloadN X0.here hx rfl (hb hby d1_11) rfl ?_
        show Steps p.tables e below (s₁.setTop (mkF m 12 #[.val (.ref o0), .val (.int p1), .val (.long q2), .second] [(.int p1), (.int (8 : Int32)), (.long q2), (.int p1), (.ref o0)])) _
        refine XS.imul X0.here hx rfl (hb hby d1_12) rfl ?_
        show Steps p.tables e below (s₁.setTop (mkF m 13 #[.val (.ref o0), .val (.int p1), .val (.long q2), .second] [(.int ((8 : Int32) * p1)), (.long q2), (.int p1), (.ref o0)])) _
        refine XS.lushr X0.here hx rfl (hb hby d1_13) rfl ?_
        show Steps p.tables e below (s₁.setTop (mkF m 14 #[.val (.ref o0), .val (.int p1), .val (.long q2), .second] [(.long ((q2.toUInt64 >>> (((8 : Int32) * p1) &&& 0x3f).toInt64.toUInt64).toInt64)), (.int p1), (.ref o0)])) _
        refine X0.ldc2Long hx hown (mvT hZ (hw _ (List.mem_of_getElem? (i := 58) rfl))) (g := (mkF m 14 #[.val (.ref o0), .val (.int p1), .val (.long q2), .second] [(.long ((q2.toUInt64 >>> (((8 : Int32) * p1) &&& 0x3f).toInt64.toUInt64).toInt64)), (.int p1), (.ref o0)])) rfl (hb hby d1_14) _ ?_
        show Steps p.tables e below (s₁.setTop (mkF m 17 #[.val (.ref o0), .val (.int p1), .val (.long q2), .second] [(.long (65535 : Int64)), (.long ((q2.toUInt64 >>> (((8 : Int32) * p1) &&& 0x3f).toInt64.toUInt64).toInt64)), (.int p1), (.ref o0)])) _
        refine XS.land X0.here hx rfl (hb hby d1_17) rfl ?_
        show Steps p.tables e below (s₁.setTop (mkF m 18 #[.val (.ref o0), .val (.int p1), .val (.long q2), .second] [(.long (((q2.toUInt64 >>> (((8 : Int32) * p1) &&& 0x3f).toInt64.toUInt64).toInt64) &&& (65535 : Int64))), (.int p1), (.ref o0)])) _
        refine XS.l2i X0.here hx rfl (hb hby d1_18) rfl ?_
        exact κ)
    obtain ⟨T4, h4, L4, X4, e4, N4, W4, V4, st4⟩ := own_stI X0 hx hZ e0 FV (j := p1) ⟨hp, hc⟩ p1.toNatClampNeg rfl (by rw [hvl]; exact hpi) N0 g0 (g := (mkF m 19 #[.val (.ref o0), .val (.int p1), .val (.long q2), .second] [(.int ((((q2.toUInt64 >>> (((8 : Int32) * p1) &&& 0x3f).toInt64.toUInt64).toInt64) &&& (65535 : Int64)).toInt32)), (.int p1), (.ref o0)])) rfl rfl (hb hby d1_19)
    have Z4 : n0 ≤ h4.size := Nat.le_trans Z0 (Keep.of_wr W4).1
    have K4 : Keep h0 h4 [o0] := (Keep.refl h0 [o0]).wr W4 (Or.inl (List.mem_of_getElem? (i := 0) rfl))
    have c5 : ∀ τ, Steps p.tables e below (T4.setTop (mkF m 20 #[.val (.ref o0), .val (.int p1), .val (.long q2), .second] [])) τ → Steps p.tables e below (s₁.setTop (entryFrame m #[(.ref o0), (.int p1), (.long q2)] 4)) τ := fun τ κ => c3 τ (st4 τ κ)
    obtain ⟨fs, hr, hrun, hended, hW, hsame⟩ := X4.leave (v := none) (fun _ => rfl)
    refine ⟨_, _, c5 _ (X4.returnOut hx Bd.returns (hb hby d1_20) hr), hrun, hended, _, _, rfl, ?_, ⟨_, rfl⟩, hW, hsame.mono (by decide) (by decide)⟩
    show Q_rm1 Z o0 p1 q2 ka n h0 n0 _ T4.heap _
    rw [e4]
    exact ⟨rfl, N4, K4, ⟨_, V4, by rw [List.length_set]; exact hvl, own_gyset _ hvr (own_mask _)⟩⟩
  · have c3 : ∀ τ, Steps p.tables e below (s₁.setTop (mkF m 20 #[.val (.ref o0), .val (.int p1), .val (.long q2), .second] [])) τ → Steps p.tables e below (s₁.setTop (entryFrame m #[(.ref o0), (.int p1), (.long q2)] 4)) τ := fun τ κ => c2 τ (by
        show Steps p.tables e below (s₁.setTop (mkF m 3 #[.val (.ref o0), .val (.int p1), .val (.long q2), .second] [(.int (Int32.ofNat n)), (.int p1)])) _
        refine XS.icmpYes X0.here hx rfl (pc0 := 3) (pc' := 20) rfl (hb hby d1_3) rfl (flt hc).2.1 (by decide) (by decide) ?_
        exact κ)
    obtain ⟨fs, hr, hrun, hended, hW, hsame⟩ := X0.leave (v := none) (fun _ => rfl)
    refine ⟨_, _, c3 _ (X0.returnOut hx Bd.returns (hb hby d1_20) hr), hrun, hended, _, _, rfl, ?_, ⟨_, rfl⟩, hW, hsame.mono (by decide) (by decide)⟩
    show Q_rm1 Z o0 p1 q2 ka n h0 n0 _ s₁.heap _
    rw [e0]
    exact ⟨rfl, N0, (Keep.refl h0 [o0]), ⟨vs, FV, hvl, hvr⟩⟩
/-- a long[] of n places -/
def own_W (Z : State) (h : Heap) (t : Addr) (n : Nat) : Prop := ∃ (k : ClassId) (vs : List Value), Arv Z h t k .long (Int32.ofNat n) vs (.long (0 : Int64)) ∧ vs.length = n
/-- a BitSet with u words in use of n, its words at t -/
def own_B (Z : State) (h : Heap) (a t : Addr) (u n : Nat) (n0 : Nat) : Prop := Exa Z h a "java/util/BitSet" ∧ Fld Z h a "java/util/BitSet" "wordsInUse" "I" (.int (Int32.ofNat u)) ∧ (∃ x : Int32, Fld Z h a "java/util/BitSet" "sizeIsSticky" "Z" (.int x)) ∧ Fld Z h a "java/util/BitSet" "words" "[J" (.ref t) ∧ own_W Z h t n ∧ u ≤ n ∧ 1 ≤ n ∧ n ≤ 2046 ∧ n0 ≤ a ∧ n0 ≤ t
/-- the length behind a demand for r words -/
def own_g (n r : Nat) : Nat := if n < r then max (2 * n) r else n
theorem own_g1 {n r : Nat} (h : n < r) : own_g n r = max (2 * n) r := if_pos h
theorem own_g2 {n r : Nat} (h : r ≤ n) : own_g n r = n := if_neg (by omega)
theorem own_gle (n r : Nat) : n ≤ own_g n r ∧ r ≤ own_g n r := by unfold own_g; split <;> omega
theorem own_gmax {n r : Nat} (h : n ≤ 2046) (hr : r ≤ 1024) : own_g n r ≤ 2046 := by unfold own_g; split <;> omega
theorem own_neq {a b : Nat} (ha : a < 65536) (hb : b < 65536) (h : a ≠ b) : ¬ Int32.ofNat a = Int32.ofNat b := fun e => h (by have := congrArg Int32.toInt e; rw [own_ti ha, own_ti hb] at this; omega)
theorem own_min {a b : Nat} (h : a ≤ b) (hb : b < 65536) : f16_0_r (Int32.ofNat a) (Int32.ofNat b) = Int32.ofNat a := if_neg (own_nlt h hb)
theorem own_max {a b : Nat} (ha : a < 65536) (hb : b < 65536) : f14_0_r (Int32.ofNat a) (Int32.ofNat b) = Int32.ofNat (max a b) := by
  unfold f14_0_r
  by_cases h : a < b
  · rw [if_pos (own_lt h hb), Nat.max_eq_right (by omega)]
  · rw [if_neg (own_nlt (by omega) ha), Nat.max_eq_left (by omega)]
theorem own_wi {i : Nat} (h : i ≤ 65535) : f6_0_r (Int32.ofNat i) = Int32.ofNat (i / 64) := by
  apply Int32.toInt_inj.mp
  rw [own_ti (by omega)]
  show ((Int32.ofNat i) >>> ((6 : Int32) &&& 31)).toInt = _
  rw [c_ishr (Int32.ofNat i) 6 6 (by decide), own_ti (by omega)]
  omega
theorem own_longat {Z : State} {h : Heap} {a : Addr} {k : ClassId} {n : Int32} {vs : List Value} {d : Value} {j : Int32} (F : Arv Z h a k .long n vs d) (hj : ¬ j < 0 ∧ j < n) : ∃ y : Int64, vs.getD j.toNatClampNeg d = .long y := by
  obtain ⟨cl, A, -, S, M, H, G⟩ := F
  have hin := inb_of S hj
  exact fit_J (G _ (Nat.lt_of_not_le fun q => hin (Or.inr q)))
/-- where a glyph stands in the array -/
def own_ix (pos gs ge : Nat) : Nat := if pos < gs then pos else pos + ge - gs
/-- a GlyphRun: its int[] of n at gl, its BitSet at bs, the gap from gs to ge -/
def own_R (Z : State) (h : Heap) (a gl bs t : Addr) (kg : ClassId) (n gs ge u len n0 : Nat) : Prop := Exa Z h a "com/example/tapeline/tapeline/OpenTypeLayout$GlyphRun" ∧ Fld Z h a "com/example/tapeline/tapeline/OpenTypeLayout$GlyphRun" "glyphs" "[I" (.ref gl) ∧ Fld Z h a "com/example/tapeline/tapeline/OpenTypeLayout$GlyphRun" "gapStart" "I" (.int (Int32.ofNat gs)) ∧ Fld Z h a "com/example/tapeline/tapeline/OpenTypeLayout$GlyphRun" "gapEnd" "I" (.int (Int32.ofNat ge)) ∧ Fld Z h a "com/example/tapeline/tapeline/OpenTypeLayout$GlyphRun" "held" "Ljava/util/BitSet;" (.ref bs) ∧ own_I Z h gl kg n ∧ own_B Z h bs t u len n0 ∧ n0 ≤ a ∧ n0 ≤ gl
theorem own_splice {vs us : List Value} {d k n : Nat} (hv : vs.length = n) (hu : us.length = k) (h : d + k ≤ n) : (vs.take d ++ us ++ vs.drop (d + k)).length = n := by
  rw [List.length_append, List.length_append, List.length_take, List.length_drop, hv, hu, Nat.min_eq_left (by omega)]; omega
/-- more than one glyph is replaced: the gap moves -/
def own_e (cnt a b : Nat) : Nat := if 1 < cnt then a else b
theorem own_ixlt {pos gs ge n : Nat} (h1 : gs ≤ ge) (h2 : ge ≤ n) (h : pos + 1 + (ge - gs) ≤ n) : own_ix pos gs ge < n := by unfold own_ix; split <;> omega
/-- the words that a glyph asks of the BitSet -/
def own_wd : Value → Nat
  | .int x => x.toNatClampNeg / 64 + 1
  | _ => 1
/-- the BitSet's length behind the glyphs vs -/
def own_fold (vs : List Value) (len : Nat) : Nat := vs.foldl (fun n v => own_g n (own_wd v)) len
theorem own_wdE {y : Nat} (h : y ≤ 65535) : own_wd (.int (Int32.ofNat y)) = y / 64 + 1 := by show (Int32.ofNat y).toNatClampNeg / 64 + 1 = _; rw [own_n32 (by omega)]
theorem own_foldle (vs : List Value) : ∀ len, len ≤ own_fold vs len := by
  induction vs with
  | nil => intro len; exact Nat.le_refl _
  | cons v vs ih => intro len; exact Nat.le_trans (own_gle len (own_wd v)).1 (ih _)
theorem own_foldmax (vs : List Value) (h : ∀ v ∈ vs, own_gy v) : ∀ len, len ≤ 2046 → own_fold vs len ≤ 2046 := by
  induction vs with
  | nil => intro len hl; exact hl
  | cons v vs ih =>
    intro len hl
    obtain ⟨y, rfl, hy⟩ := h v List.mem_cons_self
    exact ih (fun w hw => h w (List.mem_cons_of_mem _ hw)) _ (own_gmax hl (by rw [own_wdE hy]; omega))
theorem own_st5 {o0 o1 o2 : Addr} {x3 x4 v : Int32} {s5 : Slot} (h : One s5) : storeLocals #[.val (.ref o0), .val (.ref o1), .val (.ref o2), .val (.int x3), .val (.int x4), s5] 5 (.int v) = some #[.val (.ref o0), .val (.ref o1), .val (.ref o2), .val (.int x3), .val (.int x4), .val (.int v)] := by
  rcases h with rfl | ⟨w, rfl, hw⟩
  · rfl
  · cases w <;> first | rfl | (simp [Value.category] at hw)
theorem own_getD {vs : List Value} {i : Nat} (h : i < vs.length) (d : Value) : vs.drop i = vs.getD i d :: vs.drop (i + 1) := by
  rw [List.drop_eq_getElem_cons h, List.getD_eq_getElem?_getD, List.getElem?_eq_getElem h]; rfl
theorem own_gymem {vs : List Value} {i : Nat} (h : i < vs.length) (d : Value) (hv : ∀ v ∈ vs, own_gy v) : own_gy (vs.getD i d) := by
  rw [List.getD_eq_getElem?_getD, List.getElem?_eq_getElem h]; exact hv _ (List.getElem_mem h)
theorem d15_0 : decode jdk_65_method_124_code 0 = .ok (.iload_n 1, 1) := by decide +kernel
theorem d15_1 : decode jdk_65_method_124_code 1 = .ok (.aload_n 0, 1) := by decide +kernel
theorem d15_2 : decode jdk_65_method_124_code 2 = .ok (.arraylength, 1) := by decide +kernel
theorem d15_3 : decode jdk_65_method_124_code 3 = .ok (.if_icmp .ne 11, 3) := by decide +kernel
theorem d15_6 : decode jdk_65_method_124_code 6 = .ok (.aload_n 0, 1) := by decide +kernel
theorem d15_7 : decode jdk_65_method_124_code 7 = .ok (.invokevirtual 319, 3) := by decide +kernel
theorem d15_10 : decode jdk_65_method_124_code 10 = .ok (.checkcast 320, 3) := by decide +kernel
theorem d15_13 : decode jdk_65_method_124_code 13 = .ok (.areturn, 1) := by decide +kernel
theorem d15_14 : decode jdk_65_method_124_code 14 = .ok (.iload_n 1, 1) := by decide +kernel
theorem d15_15 : decode jdk_65_method_124_code 15 = .ok (.newarray .long, 2) := by decide +kernel
theorem d15_17 : decode jdk_65_method_124_code 17 = .ok (.astore_n 2, 1) := by decide +kernel
theorem d15_18 : decode jdk_65_method_124_code 18 = .ok (.aload_n 0, 1) := by decide +kernel
theorem d15_19 : decode jdk_65_method_124_code 19 = .ok (.iconst 0, 1) := by decide +kernel
theorem d15_20 : decode jdk_65_method_124_code 20 = .ok (.aload_n 2, 1) := by decide +kernel
theorem d15_21 : decode jdk_65_method_124_code 21 = .ok (.iconst 0, 1) := by decide +kernel
theorem d15_22 : decode jdk_65_method_124_code 22 = .ok (.aload_n 0, 1) := by decide +kernel
theorem d15_23 : decode jdk_65_method_124_code 23 = .ok (.arraylength, 1) := by decide +kernel
theorem d15_24 : decode jdk_65_method_124_code 24 = .ok (.iload_n 1, 1) := by decide +kernel
theorem d15_25 : decode jdk_65_method_124_code 25 = .ok (.invokestatic 304, 3) := by decide +kernel
theorem d15_28 : decode jdk_65_method_124_code 28 = .ok (.invokestatic 150, 3) := by decide +kernel
theorem d15_31 : decode jdk_65_method_124_code 31 = .ok (.aload_n 2, 1) := by decide +kernel
theorem d15_32 : decode jdk_65_method_124_code 32 = .ok (.areturn, 1) := by decide +kernel
theorem pd_5 : parseMethodDescriptor "(II)I" = some ⟨[.int, .int], some .int⟩ := by decide +kernel
theorem pn_4 : plainName "java/util/Arrays" = true := by first | (simp [plainName, overriddenIn]; done) | decide +kernel
theorem ef_rm15 (m : MethodId) (x0 : Addr) (x1 : Int32) : entryFrame m #[(.ref x0), (.int x1)] 3 = mkF m 0 #[.val (.ref x0), .val (.int x1), .unset] [] := by first | (simp [entryFrame, mkF, argsToLocals, Value.category]; done) | rfl
def Q_rm15 (Z : State) (o0 : Addr) (ka : ClassId) (vs : List Value) (len nl cap : Nat) (h0 : Heap) (n0 : Nat) (v : Option Value) (h : Heap) (L : List Loc) : Prop := v = some (.ref h0.size) ∧ Fr n0 L ∧ Keep h0 h [] ∧ own_W Z h h0.size nl
set_option maxRecDepth 65536 in
set_option maxHeartbeats 40000000 in
theorem rm15 (l : Launch) (Z : State) (a0 : Array Value) (hw : ∀ d ∈ tables_1, d.before a0 Z = true) (ws : List Jvm.Cond) (o0 : Addr) (ka : ClassId) (vs : List Value) (len nl cap : Nat) (h0 : Heap) (n0 : Nat) (Z0 : n0 ≤ h0.size) (FV : Arv Z h0 o0 ka .long (Int32.ofNat len) vs (.long (0 : Int64))) (hvl : vs.length = len) (hlm : len < nl) (hm : nl ≤ 2046) (hcap : nl ≤ cap) (hcap2 : cap ≤ 8184) :
    MetFree l (⟨"java/util/Arrays", "copyOf", "([JI)[J"⟩ : MethodName) (head1 (Jvm.Cond.code (⟨"java/util/Arrays", "copyOf", "([JI)[J"⟩ : MethodName) jdk_65_method_124_code 3 (some (.array .long)) :: ws) ({ frames := 1, cells := 1, slots := cap, locals := 18 } : Room)) (fun a U => a = #[(.ref o0), (.int (Int32.ofNat nl))] ∧ Z.Warmed39 U.vm ∧ U.heap = h0) (fun _ _ _ _ _ => True) (fun _ U o U' => ∃ v L, o = .returned v ∧ Q_rm15 Z o0 ka vs len nl cap h0 n0 v U'.heap L ∧ FrameEnd U o U' L ({ frames := 1, cells := 1, slots := cap, locals := 18 } : Room).cells ({ frames := 1, cells := 1, slots := cap, locals := 18 } : Room).slots) := by
  refine MetFree.of_bodySF (plainFor_of_name pn_4) hisR ?_
  intro p e s m args below meth c s₁ Bd hml0 hP hK
  obtain ⟨rfl, hZ, hh⟩ := hP
  have hx := Bd.exec
  have hby := Bd.bytes
  have hml : c.maxLocals = 3 := hml0
  have hown : s.vm.findClass "java/util/Arrays" = some m.cls := findClass_of_methodNamed Bd.named
  have hnm := (name_of_methodNamed Bd.named Bd.method).1
  have X0 : Stand p l e ({ frames := 1, cells := 1, slots := cap, locals := 18 } : Room) s m #[(.ref o0), (.int (Int32.ofNat nl))] below meth c s₁ [] 0 0 := Stand.of_body Bd
  have e0 : s₁.heap = h0 := by rw [← hh, Bd.state]; rfl
  have N0 := Fr.nil n0
  have c0 : ∀ τ, Steps p.tables e below (s₁.setTop (mkF m 0 #[.val (.ref o0), .val (.int (Int32.ofNat nl)), .unset] [])) τ → Steps p.tables e below (s₁.setTop (entryFrame m #[(.ref o0), (.int (Int32.ofNat nl))] 3)) τ := fun τ κ => castTop (ef_rm15 m o0 (Int32.ofNat nl)) κ
  have c1 : ∀ τ, Steps p.tables e below (s₁.setTop (mkF m 2 #[.val (.ref o0), .val (.int (Int32.ofNat nl)), .unset] [(.ref o0), (.int (Int32.ofNat nl))])) τ → Steps p.tables e below (s₁.setTop (entryFrame m #[(.ref o0), (.int (Int32.ofNat nl))] 3)) τ := fun τ κ => c0 τ (by
      show Steps p.tables e below (s₁.setTop (mkF m 0 #[.val (.ref o0), .val (.int (Int32.ofNat nl)), .unset] [])) _
      refine XS.iloadN X0.here hx rfl (hb hby d15_0) rfl ?_
      show Steps p.tables e below (s₁.setTop (mkF m 1 #[.val (.ref o0), .val (.int (Int32.ofNat nl)), .unset] [(.int (Int32.ofNat nl))])) _
      refine XS.aloadN X0.here hx rfl (hb hby d15_1) rfl rfl ?_
      exact κ)
  have c2 : ∀ τ, Steps p.tables e below (s₁.setTop (mkF m 3 #[.val (.ref o0), .val (.int (Int32.ofNat nl)), .unset] [(.int (Int32.ofNat len)), (.int (Int32.ofNat nl))])) τ → Steps p.tables e below (s₁.setTop (entryFrame m #[(.ref o0), (.int (Int32.ofNat nl))] 3)) τ := fun τ κ => c1 τ (own_alen X0 hx hZ e0 FV (g := (mkF m 2 #[.val (.ref o0), .val (.int (Int32.ofNat nl)), .unset] [(.ref o0), (.int (Int32.ofNat nl))])) rfl rfl (hb hby d15_2) _ κ)
  have c3 : ∀ τ, Steps p.tables e below (s₁.setTop (mkF m 15 #[.val (.ref o0), .val (.int (Int32.ofNat nl)), .unset] [(.int (Int32.ofNat nl))])) τ → Steps p.tables e below (s₁.setTop (entryFrame m #[(.ref o0), (.int (Int32.ofNat nl))] 3)) τ := fun τ κ => c2 τ (by
      show Steps p.tables e below (s₁.setTop (mkF m 3 #[.val (.ref o0), .val (.int (Int32.ofNat nl)), .unset] [(.int (Int32.ofNat len)), (.int (Int32.ofNat nl))])) _
      refine XS.icmpYes X0.here hx rfl (pc0 := 3) (pc' := 14) rfl (hb hby d15_3) rfl (feq (own_neq (by omega) (by omega) (by omega))).2 (by decide) (by decide) ?_
      show Steps p.tables e below (s₁.setTop (mkF m 14 #[.val (.ref o0), .val (.int (Int32.ofNat nl)), .unset] [])) _
      refine XS.iloadN X0.here hx rfl (hb hby d15_14) rfl ?_
      exact κ)
  obtain ⟨T4, h4, k4, X4, e4, E4, A4, st4⟩ := newP X0 hx hZ (hw _ (List.mem_of_getElem? (i := 33) rfl)) e0 (g := (mkF m 15 #[.val (.ref o0), .val (.int (Int32.ofNat nl)), .unset] [(.int (Int32.ofNat nl))])) rfl (hb hby d15_15) rfl (own_nn (by omega)) (cap := cap) (by rw [own_n32 (by omega)]; exact hcap) (by omega) (Nat.le_of_ble_eq_true rfl) (Nat.le_of_eq (Nat.zero_add cap))
  obtain ⟨b4, g4⟩ : ∃ z, z = h0.size := ⟨_, rfl⟩
  rw [← g4] at A4 st4
  have gb4 : n0 ≤ b4 := Nat.le_trans Z0 (Nat.le_of_eq g4.symm)
  have ne_o0_b4 : o0 ≠ b4 := Nat.ne_of_lt (Nat.lt_of_lt_of_le FV.lt (Nat.le_of_eq g4.symm))
  have V4 : Arv Z h4 b4 k4 .long (Int32.ofNat nl) [] (.long (0 : Int64)) := Arv.new A4 (own_nn (by omega))
  have Z4 : n0 ≤ h4.size := Nat.le_trans Z0 E4.1
  have sz4 : h0.size ≤ b4 := Nat.le_trans (Keep.refl h0 []).1 (Nat.le_of_eq g4.symm)
  have K4 : Keep h0 h4 [] := (Keep.refl h0 []).ext E4
  have c5 : ∀ τ, Steps p.tables e below (T4.setTop (mkF m 17 #[.val (.ref o0), .val (.int (Int32.ofNat nl)), .unset] [(.ref b4)])) τ → Steps p.tables e below (s₁.setTop (entryFrame m #[(.ref o0), (.int (Int32.ofNat nl))] 3)) τ := fun τ κ => c3 τ (st4 τ κ)
  have Vp := V4.pad (pad_rep [] (.long (0 : Int64)) nl)
  have hVl : ([] ++ List.replicate nl (Value.long (0 : Int64))).length = nl := by simp
  have c6 : ∀ τ, Steps p.tables e below (T4.setTop (mkF m 23 #[.val (.ref o0), .val (.int (Int32.ofNat nl)), .val (.ref b4)] [(.ref o0), (.int (0 : Int32)), (.ref b4), (.int (0 : Int32)), (.ref o0)])) τ → Steps p.tables e below (s₁.setTop (entryFrame m #[(.ref o0), (.int (Int32.ofNat nl))] 3)) τ := fun τ κ => c5 τ (by
      show Steps p.tables e below (T4.setTop (mkF m 17 #[.val (.ref o0), .val (.int (Int32.ofNat nl)), .unset] [(.ref b4)])) _
      refine XS.astoreN X4.here hx rfl (hb hby d15_17) rfl rfl (l' := #[.val (.ref o0), .val (.int (Int32.ofNat nl)), .val (.ref b4)]) rfl ?_
      show Steps p.tables e below (T4.setTop (mkF m 18 #[.val (.ref o0), .val (.int (Int32.ofNat nl)), .val (.ref b4)] [])) _
      refine XS.aloadN X4.here hx rfl (hb hby d15_18) rfl rfl ?_
      show Steps p.tables e below (T4.setTop (mkF m 19 #[.val (.ref o0), .val (.int (Int32.ofNat nl)), .val (.ref b4)] [(.ref o0)])) _
      refine XS.iconst X4.here hx rfl (hb hby d15_19) ?_
      show Steps p.tables e below (T4.setTop (mkF m 20 #[.val (.ref o0), .val (.int (Int32.ofNat nl)), .val (.ref b4)] [(.int (0 : Int32)), (.ref o0)])) _
      refine XS.aloadN X4.here hx rfl (hb hby d15_20) rfl rfl ?_
      show Steps p.tables e below (T4.setTop (mkF m 21 #[.val (.ref o0), .val (.int (Int32.ofNat nl)), .val (.ref b4)] [(.ref b4), (.int (0 : Int32)), (.ref o0)])) _
      refine XS.iconst X4.here hx rfl (hb hby d15_21) ?_
      show Steps p.tables e below (T4.setTop (mkF m 22 #[.val (.ref o0), .val (.int (Int32.ofNat nl)), .val (.ref b4)] [(.int (0 : Int32)), (.ref b4), (.int (0 : Int32)), (.ref o0)])) _
      refine XS.aloadN X4.here hx rfl (hb hby d15_22) rfl rfl ?_
      exact κ)
  have f7 := (FV.ext E4)
  have c8 : ∀ τ, Steps p.tables e below (T4.setTop (mkF m 24 #[.val (.ref o0), .val (.int (Int32.ofNat nl)), .val (.ref b4)] [(.int (Int32.ofNat len)), (.int (0 : Int32)), (.ref b4), (.int (0 : Int32)), (.ref o0)])) τ → Steps p.tables e below (s₁.setTop (entryFrame m #[(.ref o0), (.int (Int32.ofNat nl))] 3)) τ := fun τ κ => c6 τ (own_alen X4 hx hZ e4 f7 (g := (mkF m 23 #[.val (.ref o0), .val (.int (Int32.ofNat nl)), .val (.ref b4)] [(.ref o0), (.int (0 : Int32)), (.ref b4), (.int (0 : Int32)), (.ref o0)])) rfl rfl (hb hby d15_23) _ κ)
  have c9 : ∀ τ, Steps p.tables e below (T4.setTop (mkF m 25 #[.val (.ref o0), .val (.int (Int32.ofNat nl)), .val (.ref b4)] [(.int (Int32.ofNat nl)), (.int (Int32.ofNat len)), (.int (0 : Int32)), (.ref b4), (.int (0 : Int32)), (.ref o0)])) τ → Steps p.tables e below (s₁.setTop (entryFrame m #[(.ref o0), (.int (Int32.ofNat nl))] 3)) τ := fun τ κ => c8 τ (by
      show Steps p.tables e below (T4.setTop (mkF m 24 #[.val (.ref o0), .val (.int (Int32.ofNat nl)), .val (.ref b4)] [(.int (Int32.ofNat len)), (.int (0 : Int32)), (.ref b4), (.int (0 : Int32)), (.ref o0)])) _
      refine XS.iloadN X4.here hx rfl (hb hby d15_24) rfl ?_
      exact κ)
  obtain ⟨_, _, ⟨T10, L10, k10, n10⟩, -, X10, ⟨Lc10, hQ10, l10, y10, z10⟩, st10⟩ := Jvm.LawKit.callS X4 hx (y := (⟨"java/lang/Math", "min", "(II)I"⟩ : MethodName)) hown (mvT hZ (hw _ (List.mem_of_getElem? (i := 99) rfl))) (mvT hZ (hw _ (List.mem_of_getElem? (i := 100) rfl))) (mvT hZ (hw _ (List.mem_of_getElem? (i := 93) rfl))) (mvT hZ (hw _ (List.mem_of_getElem? (i := 101) rfl))) (by decide) (backOf (W := 4) (rm16 l Z a0 hw [] (Int32.ofNat len) (Int32.ofNat nl) h4 n0 Z4) hZ (hw _ (List.mem_of_getElem? (i := 101) rfl)) (hw _ (List.mem_of_getElem? (i := 93) rfl)) (Nat.le_of_ble_eq_true rfl) (Nat.le_of_ble_eq_true rfl)) (g := (mkF m 25 #[.val (.ref o0), .val (.int (Int32.ofNat nl)), .val (.ref b4)] [(.int (Int32.ofNat nl)), (.int (Int32.ofNat len)), (.int (0 : Int32)), (.ref b4), (.int (0 : Int32)), (.ref o0)])) rfl (by rw [hml]; rfl) (argsL := [(.int (Int32.ofNat len)), (.int (Int32.ofNat nl))]) (rest := [(.int (0 : Int32)), (.ref b4), (.int (0 : Int32)), (.ref o0)]) (lenOf pd_5 rfl) rfl (by show 2 * 0 + _ ≤ _; exact Nat.le_of_eq rfl) (hb hby d15_25) (fun _ _ => ⟨rfl, e4, (Nat.le_of_ble_eq_true rfl), (by show 0 + cap + 0 ≤ cap; omega)⟩)
  dsimp only [Pt.U, Pt.locs, Pt.cells, Pt.slots] at X10 l10 y10 z10 st10 hQ10
  rw [y10, z10] at X10
  obtain ⟨rfl, N10q, e10⟩ := hQ10
  have N10 : Fr n0 L10 := by rw [l10]; exact Fr.app N0 N10q
  replace X10 := X10.more (cells' := 1) (slots' := (0 + cap)) (Nat.le_refl _) (Nat.le_refl _)
  replace X10 : Stand p l e _ s m _ below meth c T10 L10 1 (0 + cap) := X10
  clear l10 y10 z10
  have c11 : ∀ τ, Steps p.tables e below (T10.setTop (mkF m 28 #[.val (.ref o0), .val (.int (Int32.ofNat nl)), .val (.ref b4)] [(.int (f16_0_r (Int32.ofNat len) (Int32.ofNat nl))), (.int (0 : Int32)), (.ref b4), (.int (0 : Int32)), (.ref o0)])) τ → Steps p.tables e below (s₁.setTop (entryFrame m #[(.ref o0), (.int (Int32.ofNat nl))] 3)) τ := fun τ κ => c9 τ (st10 τ κ)
  rw [show (f16_0_r (Int32.ofNat len) (Int32.ofNat nl)) = (Int32.ofNat len) from own_min (by omega) (by omega)] at c11
  obtain ⟨T12, h12, L12, X12, e12, N12, K12q, V12, st12⟩ := cpA X10 hx hZ hown (hw _ (List.mem_of_getElem? (i := 102) rfl)) (hw _ (List.mem_of_getElem? (i := 105) rfl)) (hw _ (List.mem_of_getElem? (i := 103) rfl)) (hw _ (List.mem_of_getElem? (i := 104) rfl)) e10 f7 Vp (Or.inl ⟨rfl, rfl⟩) (sp := (0 : Int32)) (dp := (0 : Int32)) (nn := (Int32.ofNat len)) (by decide) (by decide) (own_nn (by omega)) (Nat.le_of_eq (Nat.zero_add _)) (by show 0 + _ ≤ _; rw [own_n32 (by omega), own_n32 (by omega)]; omega) rfl (by show 0 + _ ≤ _; rw [own_n32 (by omega), hVl]; omega) N10 gb4 (g := (mkF m 28 #[.val (.ref o0), .val (.int (Int32.ofNat nl)), .val (.ref b4)] [(.int (Int32.ofNat len)), (.int (0 : Int32)), (.ref b4), (.int (0 : Int32)), (.ref o0)])) rfl (by rw [hml]; rfl) rfl (hb hby d15_28) (Nat.le_of_ble_eq_true rfl) (W := 0) (by show 2 * 0 + _ ≤ _; exact Nat.le_of_eq rfl) (Nat.le_of_ble_eq_true rfl)
  have Z12 : n0 ≤ h12.size := Nat.le_trans Z4 K12q.1
  have K12 : Keep h0 h12 [] := K4.trans K12q (allS (Or.inr sz4) all0)
  have c13 : ∀ τ, Steps p.tables e below (T12.setTop (mkF m 31 #[.val (.ref o0), .val (.int (Int32.ofNat nl)), .val (.ref b4)] [])) τ → Steps p.tables e below (s₁.setTop (entryFrame m #[(.ref o0), (.int (Int32.ofNat nl))] 3)) τ := fun τ κ => c11 τ (st12 τ κ)
  have hWn : own_W Z h12 b4 nl := ⟨_, _, V12, by
    rw [List.length_append, List.length_append, List.length_map, List.length_range, List.length_take, List.length_drop, hVl, own_n32 (by omega)]
    show min 0 nl + len + (nl - (0 + len)) = nl
    omega⟩
  have c14 : ∀ τ, Steps p.tables e below (T12.setTop (mkF m 32 #[.val (.ref o0), .val (.int (Int32.ofNat nl)), .val (.ref b4)] [(.ref b4)])) τ → Steps p.tables e below (s₁.setTop (entryFrame m #[(.ref o0), (.int (Int32.ofNat nl))] 3)) τ := fun τ κ => c13 τ (by
      show Steps p.tables e below (T12.setTop (mkF m 31 #[.val (.ref o0), .val (.int (Int32.ofNat nl)), .val (.ref b4)] [])) _
      refine XS.aloadN X12.here hx rfl (hb hby d15_31) rfl rfl ?_
      exact κ)
  obtain ⟨fs, hr, hrun, hended, hW, hsame⟩ := X12.leave (v := some (.ref h0.size)) (fun h => by rw [Bd.returns] at h; cases h)
  refine ⟨_, _, c14 _ (by rw [← g4] at hr; exact retOut X12 hx Bd.returns rfl (Or.inr (Or.inr (Or.inr (Or.inr ⟨rfl, rfl, rfl⟩)))) (hb hby d15_32) hr), hrun, hended, _, _, rfl, ?_, ⟨_, rfl⟩, hW, hsame.mono (Nat.le_of_ble_eq_true rfl) (Nat.le_of_eq (Nat.zero_add cap))⟩
  show Q_rm15 Z o0 ka vs len nl cap h0 n0 _ T12.heap _
  rw [e12]
  exact ⟨rfl, N12, K12, by rw [← g4]; exact hWn⟩
theorem d10_0 : decode jdk_92_method_14_code 0 = .ok (.aload_n 0, 1) := by decide +kernel
theorem d10_1 : decode jdk_92_method_14_code 1 = .ok (.getfield 11, 3) := by decide +kernel
theorem d10_4 : decode jdk_92_method_14_code 4 = .ok (.arraylength, 1) := by decide +kernel
theorem d10_5 : decode jdk_92_method_14_code 5 = .ok (.iload_n 1, 1) := by decide +kernel
theorem d10_6 : decode jdk_92_method_14_code 6 = .ok (.if_icmp .ge 32, 3) := by decide +kernel
theorem d10_9 : decode jdk_92_method_14_code 9 = .ok (.iconst 2, 1) := by decide +kernel
theorem d10_10 : decode jdk_92_method_14_code 10 = .ok (.aload_n 0, 1) := by decide +kernel
theorem d10_11 : decode jdk_92_method_14_code 11 = .ok (.getfield 11, 3) := by decide +kernel
theorem d10_14 : decode jdk_92_method_14_code 14 = .ok (.arraylength, 1) := by decide +kernel
theorem d10_15 : decode jdk_92_method_14_code 15 = .ok (.imul, 1) := by decide +kernel
theorem d10_16 : decode jdk_92_method_14_code 16 = .ok (.iload_n 1, 1) := by decide +kernel
theorem d10_17 : decode jdk_92_method_14_code 17 = .ok (.invokestatic 133, 3) := by decide +kernel
theorem d10_20 : decode jdk_92_method_14_code 20 = .ok (.istore_n 2, 1) := by decide +kernel
theorem d10_21 : decode jdk_92_method_14_code 21 = .ok (.aload_n 0, 1) := by decide +kernel
theorem d10_22 : decode jdk_92_method_14_code 22 = .ok (.aload_n 0, 1) := by decide +kernel
theorem d10_23 : decode jdk_92_method_14_code 23 = .ok (.getfield 11, 3) := by decide +kernel
theorem d10_26 : decode jdk_92_method_14_code 26 = .ok (.iload_n 2, 1) := by decide +kernel
theorem d10_27 : decode jdk_92_method_14_code 27 = .ok (.invokestatic 59, 3) := by decide +kernel
theorem d10_30 : decode jdk_92_method_14_code 30 = .ok (.putfield 11, 3) := by decide +kernel
theorem d10_33 : decode jdk_92_method_14_code 33 = .ok (.aload_n 0, 1) := by decide +kernel
theorem d10_34 : decode jdk_92_method_14_code 34 = .ok (.iconst 0, 1) := by decide +kernel
theorem d10_35 : decode jdk_92_method_14_code 35 = .ok (.putfield 24, 3) := by decide +kernel
theorem d10_38 : decode jdk_92_method_14_code 38 = .ok (.return_, 1) := by decide +kernel
theorem pd_10 : parseMethodDescriptor "([JI)[J" = some ⟨[(.array .long), .int], some (.array .long)⟩ := by decide +kernel
theorem ef_rm10 (m : MethodId) (x0 : Addr) (x1 : Int32) : entryFrame m #[(.ref x0), (.int x1)] 3 = mkF m 0 #[.val (.ref x0), .val (.int x1), .unset] [] := by first | (simp [entryFrame, mkF, argsToLocals, Value.category]; done) | rfl
def Q_rm10 (Z : State) (o0 : Addr) (t : Addr) (u len r : Nat) (h0 : Heap) (n0 : Nat) (v : Option Value) (h : Heap) (L : List Loc) : Prop := v = none ∧ Fr n0 L ∧ ∃ t' : Addr, Keep h0 h [o0] ∧ own_B Z h o0 t' u (own_g len r) n0 ∧ (t' = t ∨ h0.size ≤ t')
set_option maxRecDepth 65536 in
set_option maxHeartbeats 40000000 in
theorem rm10 (l : Launch) (Z : State) (a0 : Array Value) (hw : ∀ d ∈ tables_1, d.before a0 Z = true) (ws : List Jvm.Cond) (o0 : Addr) (t : Addr) (u len r : Nat) (h0 : Heap) (n0 : Nat) (Z0 : n0 ≤ h0.size) (B : own_B Z h0 o0 t u len n0) (hr : r ≤ 1024) :
    MetFree l (⟨"java/util/BitSet", "ensureCapacity", "(I)V"⟩ : MethodName) (head1 (Jvm.Cond.code (⟨"java/util/BitSet", "ensureCapacity", "(I)V"⟩ : MethodName) jdk_92_method_14_code 3 none :: ws) ({ frames := 2, cells := 1, slots := 2 * (own_g len r - len), locals := 33 } : Room)) (fun a U => a = #[(.ref o0), (.int (Int32.ofNat r))] ∧ Z.Warmed39 U.vm ∧ U.heap = h0) (fun _ _ _ _ _ => True) (fun _ U o U' => ∃ v L, o = .returned v ∧ Q_rm10 Z o0 t u len r h0 n0 v U'.heap L ∧ FrameEnd U o U' L ({ frames := 2, cells := 1, slots := 2 * (own_g len r - len), locals := 33 } : Room).cells ({ frames := 2, cells := 1, slots := 2 * (own_g len r - len), locals := 33 } : Room).slots) := by
  refine MetFree.of_bodySF (plainFor_of_name pn_5) hisR ?_
  intro p e s m args below meth c s₁ Bd hml0 hP hK
  obtain ⟨rfl, hZ, hh⟩ := hP
  have hx := Bd.exec
  have hby := Bd.bytes
  have hml : c.maxLocals = 3 := hml0
  have hown : s.vm.findClass "java/util/BitSet" = some m.cls := findClass_of_methodNamed Bd.named
  have hnm := (name_of_methodNamed Bd.named Bd.method).1
  have X0 : Stand p l e ({ frames := 2, cells := 1, slots := 2 * (own_g len r - len), locals := 33 } : Room) s m #[(.ref o0), (.int (Int32.ofNat r))] below meth c s₁ [] 0 0 := Stand.of_body Bd
  have e0 : s₁.heap = h0 := by rw [← hh, Bd.state]; rfl
  have N0 := Fr.nil n0
  have c0 : ∀ τ, Steps p.tables e below (s₁.setTop (mkF m 0 #[.val (.ref o0), .val (.int (Int32.ofNat r)), .unset] [])) τ → Steps p.tables e below (s₁.setTop (entryFrame m #[(.ref o0), (.int (Int32.ofNat r))] 3)) τ := fun τ κ => castTop (ef_rm10 m o0 (Int32.ofNat r)) κ
  obtain ⟨E, Fu, ⟨sx, Fs⟩, Fw, ⟨ka, vs, FV, hvl⟩, hul, hl1, hl2, g0, gt⟩ := id B
  have ne_o0_t : o0 ≠ t := own_ne_ea E (hw _ (List.mem_of_getElem? (i := 15) rfl)) FV
  have c1 : ∀ τ, Steps p.tables e below (s₁.setTop (mkF m 1 #[.val (.ref o0), .val (.int (Int32.ofNat r)), .unset] [(.ref o0)])) τ → Steps p.tables e below (s₁.setTop (entryFrame m #[(.ref o0), (.int (Int32.ofNat r))] 3)) τ := fun τ κ => c0 τ (by
      show Steps p.tables e below (s₁.setTop (mkF m 0 #[.val (.ref o0), .val (.int (Int32.ofNat r)), .unset] [])) _
      refine XS.aloadN X0.here hx rfl (hb hby d10_0) rfl rfl ?_
      exact κ)
  obtain ⟨T2, X2, e2, st2⟩ := getF X0 hx hZ hown (host := "") (Or.inl (hw _ (List.mem_of_getElem? (i := 34) rfl))) Via.refl e0 Fw (g := (mkF m 1 #[.val (.ref o0), .val (.int (Int32.ofNat r)), .unset] [(.ref o0)])) rfl rfl (hb hby d10_1)
  have c3 : ∀ τ, Steps p.tables e below (T2.setTop (mkF m 4 #[.val (.ref o0), .val (.int (Int32.ofNat r)), .unset] [(.ref t)])) τ → Steps p.tables e below (s₁.setTop (entryFrame m #[(.ref o0), (.int (Int32.ofNat r))] 3)) τ := fun τ κ => c1 τ (st2 τ κ)
  have c4 : ∀ τ, Steps p.tables e below (T2.setTop (mkF m 5 #[.val (.ref o0), .val (.int (Int32.ofNat r)), .unset] [(.int (Int32.ofNat len))])) τ → Steps p.tables e below (s₁.setTop (entryFrame m #[(.ref o0), (.int (Int32.ofNat r))] 3)) τ := fun τ κ => c3 τ (own_alen X2 hx hZ e2 FV (g := (mkF m 4 #[.val (.ref o0), .val (.int (Int32.ofNat r)), .unset] [(.ref t)])) rfl rfl (hb hby d10_4) _ κ)
  have hg := own_gle len r
  have hgm := own_gmax hl2 hr
  have c5 : ∀ τ, Steps p.tables e below (T2.setTop (mkF m 6 #[.val (.ref o0), .val (.int (Int32.ofNat r)), .unset] [(.int (Int32.ofNat r)), (.int (Int32.ofNat len))])) τ → Steps p.tables e below (s₁.setTop (entryFrame m #[(.ref o0), (.int (Int32.ofNat r))] 3)) τ := fun τ κ => c4 τ (by
      show Steps p.tables e below (T2.setTop (mkF m 5 #[.val (.ref o0), .val (.int (Int32.ofNat r)), .unset] [(.int (Int32.ofNat len))])) _
      refine XS.iloadN X2.here hx rfl (hb hby d10_5) rfl ?_
      exact κ)
  by_cases hc : (Int32.ofNat len) < (Int32.ofNat r)
  · have hlt : len < r := own_ltE (by omega) (by omega) hc
    have hge := own_g1 hlt
    have c6 : ∀ τ, Steps p.tables e below (T2.setTop (mkF m 11 #[.val (.ref o0), .val (.int (Int32.ofNat r)), .unset] [(.ref o0), (.int (2 : Int32))])) τ → Steps p.tables e below (s₁.setTop (entryFrame m #[(.ref o0), (.int (Int32.ofNat r))] 3)) τ := fun τ κ => c5 τ (by
        show Steps p.tables e below (T2.setTop (mkF m 6 #[.val (.ref o0), .val (.int (Int32.ofNat r)), .unset] [(.int (Int32.ofNat r)), (.int (Int32.ofNat len))])) _
        refine XS.icmpNo X2.here hx rfl (hb hby d10_6) rfl (tlt hc).2.1 ?_
        show Steps p.tables e below (T2.setTop (mkF m 9 #[.val (.ref o0), .val (.int (Int32.ofNat r)), .unset] [])) _
        refine XS.iconst X2.here hx rfl (hb hby d10_9) ?_
        show Steps p.tables e below (T2.setTop (mkF m 10 #[.val (.ref o0), .val (.int (Int32.ofNat r)), .unset] [(.int (2 : Int32))])) _
        refine XS.aloadN X2.here hx rfl (hb hby d10_10) rfl rfl ?_
        exact κ)
    obtain ⟨T7, X7, e7, st7⟩ := getF X2 hx hZ hown (host := "") (Or.inl (hw _ (List.mem_of_getElem? (i := 34) rfl))) Via.refl e2 Fw (g := (mkF m 11 #[.val (.ref o0), .val (.int (Int32.ofNat r)), .unset] [(.ref o0), (.int (2 : Int32))])) rfl rfl (hb hby d10_11)
    have c8 : ∀ τ, Steps p.tables e below (T7.setTop (mkF m 14 #[.val (.ref o0), .val (.int (Int32.ofNat r)), .unset] [(.ref t), (.int (2 : Int32))])) τ → Steps p.tables e below (s₁.setTop (entryFrame m #[(.ref o0), (.int (Int32.ofNat r))] 3)) τ := fun τ κ => c6 τ (st7 τ κ)
    have c9 : ∀ τ, Steps p.tables e below (T7.setTop (mkF m 15 #[.val (.ref o0), .val (.int (Int32.ofNat r)), .unset] [(.int (Int32.ofNat len)), (.int (2 : Int32))])) τ → Steps p.tables e below (s₁.setTop (entryFrame m #[(.ref o0), (.int (Int32.ofNat r))] 3)) τ := fun τ κ => c8 τ (own_alen X7 hx hZ e7 FV (g := (mkF m 14 #[.val (.ref o0), .val (.int (Int32.ofNat r)), .unset] [(.ref t), (.int (2 : Int32))])) rfl rfl (hb hby d10_14) _ κ)
    have c10 : ∀ τ, Steps p.tables e below (T7.setTop (mkF m 16 #[.val (.ref o0), .val (.int (Int32.ofNat r)), .unset] [(.int ((2 : Int32) * (Int32.ofNat len)))])) τ → Steps p.tables e below (s₁.setTop (entryFrame m #[(.ref o0), (.int (Int32.ofNat r))] 3)) τ := fun τ κ => c9 τ (by
        show Steps p.tables e below (T7.setTop (mkF m 15 #[.val (.ref o0), .val (.int (Int32.ofNat r)), .unset] [(.int (Int32.ofNat len)), (.int (2 : Int32))])) _
        refine XS.imul X7.here hx rfl (hb hby d10_15) rfl ?_
        exact κ)
    rw [show ((2 : Int32) * (Int32.ofNat len)) = (Int32.ofNat (2 * len)) from (Int32.ofNat_mul 2 len).symm] at c10
    have c11 : ∀ τ, Steps p.tables e below (T7.setTop (mkF m 17 #[.val (.ref o0), .val (.int (Int32.ofNat r)), .unset] [(.int (Int32.ofNat r)), (.int (Int32.ofNat (2 * len)))])) τ → Steps p.tables e below (s₁.setTop (entryFrame m #[(.ref o0), (.int (Int32.ofNat r))] 3)) τ := fun τ κ => c10 τ (by
        show Steps p.tables e below (T7.setTop (mkF m 16 #[.val (.ref o0), .val (.int (Int32.ofNat r)), .unset] [(.int (Int32.ofNat (2 * len)))])) _
        refine XS.iloadN X7.here hx rfl (hb hby d10_16) rfl ?_
        exact κ)
    obtain ⟨_, _, ⟨T12, L12, k12, n12⟩, -, X12, ⟨Lc12, hQ12, l12, y12, z12⟩, st12⟩ := Jvm.LawKit.callS X7 hx (y := (⟨"java/lang/Math", "max", "(II)I"⟩ : MethodName)) hown (mvT hZ (hw _ (List.mem_of_getElem? (i := 91) rfl))) (mvT hZ (hw _ (List.mem_of_getElem? (i := 92) rfl))) (mvT hZ (hw _ (List.mem_of_getElem? (i := 93) rfl))) (mvT hZ (hw _ (List.mem_of_getElem? (i := 94) rfl))) (by decide) (backOf (W := 0) (rm14 l Z a0 hw [] (Int32.ofNat (2 * len)) (Int32.ofNat r) h0 n0 Z0) hZ (hw _ (List.mem_of_getElem? (i := 94) rfl)) (hw _ (List.mem_of_getElem? (i := 93) rfl)) (Nat.le_of_ble_eq_true rfl) (Nat.le_of_ble_eq_true rfl)) (g := (mkF m 17 #[.val (.ref o0), .val (.int (Int32.ofNat r)), .unset] [(.int (Int32.ofNat r)), (.int (Int32.ofNat (2 * len)))])) rfl (by rw [hml]; rfl) (argsL := [(.int (Int32.ofNat (2 * len))), (.int (Int32.ofNat r))]) (rest := []) (lenOf pd_5 rfl) rfl (by show 2 * 0 + _ ≤ _; exact Nat.le_of_eq rfl) (hb hby d10_17) (fun _ _ => ⟨rfl, e7, (Nat.le_of_ble_eq_true rfl), (Nat.zero_le _)⟩)
    dsimp only [Pt.U, Pt.locs, Pt.cells, Pt.slots] at X12 l12 y12 z12 st12 hQ12
    rw [y12, z12] at X12
    obtain ⟨rfl, N12q, e12⟩ := hQ12
    have N12 : Fr n0 L12 := by rw [l12]; exact Fr.app N0 N12q
    replace X12 := X12.more (cells' := 0) (slots' := 0) (Nat.le_refl _) (Nat.le_refl _)
    replace X12 : Stand p l e _ s m _ below meth c T12 L12 0 0 := X12
    clear l12 y12 z12
    have c13 : ∀ τ, Steps p.tables e below (T12.setTop (mkF m 20 #[.val (.ref o0), .val (.int (Int32.ofNat r)), .unset] [(.int (f14_0_r (Int32.ofNat (2 * len)) (Int32.ofNat r)))])) τ → Steps p.tables e below (s₁.setTop (entryFrame m #[(.ref o0), (.int (Int32.ofNat r))] 3)) τ := fun τ κ => c11 τ (st12 τ κ)
    rw [show (f14_0_r (Int32.ofNat (2 * len)) (Int32.ofNat r)) = (Int32.ofNat (max (2 * len) r)) from own_max (by omega) (by omega)] at c13
    have c14 : ∀ τ, Steps p.tables e below (T12.setTop (mkF m 23 #[.val (.ref o0), .val (.int (Int32.ofNat r)), .val (.int (Int32.ofNat (max (2 * len) r)))] [(.ref o0), (.ref o0)])) τ → Steps p.tables e below (s₁.setTop (entryFrame m #[(.ref o0), (.int (Int32.ofNat r))] 3)) τ := fun τ κ => c13 τ (by
        show Steps p.tables e below (T12.setTop (mkF m 20 #[.val (.ref o0), .val (.int (Int32.ofNat r)), .unset] [(.int (Int32.ofNat (max (2 * len) r)))])) _
        refine XS.istoreN X12.here hx rfl (hb hby d10_20) rfl (l' := #[.val (.ref o0), .val (.int (Int32.ofNat r)), .val (.int (Int32.ofNat (max (2 * len) r)))]) rfl ?_
        show Steps p.tables e below (T12.setTop (mkF m 21 #[.val (.ref o0), .val (.int (Int32.ofNat r)), .val (.int (Int32.ofNat (max (2 * len) r)))] [])) _
        refine XS.aloadN X12.here hx rfl (hb hby d10_21) rfl rfl ?_
        show Steps p.tables e below (T12.setTop (mkF m 22 #[.val (.ref o0), .val (.int (Int32.ofNat r)), .val (.int (Int32.ofNat (max (2 * len) r)))] [(.ref o0)])) _
        refine XS.aloadN X12.here hx rfl (hb hby d10_22) rfl rfl ?_
        exact κ)
    obtain ⟨T15, X15, e15, st15⟩ := getF X12 hx hZ hown (host := "") (Or.inl (hw _ (List.mem_of_getElem? (i := 34) rfl))) Via.refl e12 Fw (g := (mkF m 23 #[.val (.ref o0), .val (.int (Int32.ofNat r)), .val (.int (Int32.ofNat (max (2 * len) r)))] [(.ref o0), (.ref o0)])) rfl rfl (hb hby d10_23)
    have c16 : ∀ τ, Steps p.tables e below (T15.setTop (mkF m 26 #[.val (.ref o0), .val (.int (Int32.ofNat r)), .val (.int (Int32.ofNat (max (2 * len) r)))] [(.ref t), (.ref o0)])) τ → Steps p.tables e below (s₁.setTop (entryFrame m #[(.ref o0), (.int (Int32.ofNat r))] 3)) τ := fun τ κ => c14 τ (st15 τ κ)
    obtain ⟨nt, gnt⟩ : ∃ z, z = h0.size := ⟨_, rfl⟩
    have c17 : ∀ τ, Steps p.tables e below (T15.setTop (mkF m 27 #[.val (.ref o0), .val (.int (Int32.ofNat r)), .val (.int (Int32.ofNat (max (2 * len) r)))] [(.int (Int32.ofNat (max (2 * len) r))), (.ref t), (.ref o0)])) τ → Steps p.tables e below (s₁.setTop (entryFrame m #[(.ref o0), (.int (Int32.ofNat r))] 3)) τ := fun τ κ => c16 τ (by
        show Steps p.tables e below (T15.setTop (mkF m 26 #[.val (.ref o0), .val (.int (Int32.ofNat r)), .val (.int (Int32.ofNat (max (2 * len) r)))] [(.ref t), (.ref o0)])) _
        refine XS.iloadN X15.here hx rfl (hb hby d10_26) rfl ?_
        exact κ)
    obtain ⟨_, _, ⟨T18, L18, k18, n18⟩, -, X18, ⟨Lc18, hQ18, l18, y18, z18⟩, st18⟩ := Jvm.LawKit.callS X15 hx (y := (⟨"java/util/Arrays", "copyOf", "([JI)[J"⟩ : MethodName)) hown (mvT hZ (hw _ (List.mem_of_getElem? (i := 95) rfl))) (mvT hZ (hw _ (List.mem_of_getElem? (i := 96) rfl))) (mvT hZ (hw _ (List.mem_of_getElem? (i := 97) rfl))) (mvT hZ (hw _ (List.mem_of_getElem? (i := 98) rfl))) (by decide) (backOf (W := 1) (rm15 l Z a0 hw [] t ka vs len (max (2 * len) r) (2 * (own_g len r - len)) h0 n0 Z0 FV hvl (by omega) (by omega) (by omega) (by omega)) hZ (hw _ (List.mem_of_getElem? (i := 98) rfl)) (hw _ (List.mem_of_getElem? (i := 97) rfl)) (Nat.le_of_ble_eq_true rfl) (Nat.le_of_ble_eq_true rfl)) (g := (mkF m 27 #[.val (.ref o0), .val (.int (Int32.ofNat r)), .val (.int (Int32.ofNat (max (2 * len) r)))] [(.int (Int32.ofNat (max (2 * len) r))), (.ref t), (.ref o0)])) rfl (by rw [hml]; rfl) (argsL := [(.ref t), (.int (Int32.ofNat (max (2 * len) r)))]) (rest := [(.ref o0)]) (lenOf pd_10 rfl) rfl (by show 2 * 0 + _ ≤ _; exact Nat.le_of_eq rfl) (hb hby d10_27) (fun _ _ => ⟨rfl, e15, (Nat.le_of_ble_eq_true rfl), (Nat.le_of_eq (Nat.zero_add _))⟩)
    dsimp only [Pt.U, Pt.locs, Pt.cells, Pt.slots] at X18 l18 y18 z18 st18 hQ18
    rw [y18, z18] at X18
    obtain ⟨rfl, N18q, K18q, Wn⟩ := hQ18
    have N18 : Fr n0 L18 := by rw [l18]; exact Fr.app N12 N18q
    replace X18 := X18.more (cells' := 1) (slots' := (0 + 2 * (own_g len r - len))) (Nat.le_refl _) (Nat.le_refl _)
    replace X18 : Stand p l e _ s m _ below meth c T18 L18 1 (0 + 2 * (own_g len r - len)) := X18
    clear l18 y18 z18
    have Z18 : n0 ≤ T18.heap.size := Nat.le_trans Z0 K18q.1
    have K18 : Keep h0 T18.heap [o0] := (Keep.refl h0 [o0]).trans K18q all0
    have c19 : ∀ τ, Steps p.tables e below (T18.setTop (mkF m 30 #[.val (.ref o0), .val (.int (Int32.ofNat r)), .val (.int (Int32.ofNat (max (2 * len) r)))] [(.ref h0.size), (.ref o0)])) τ → Steps p.tables e below (s₁.setTop (entryFrame m #[(.ref o0), (.int (Int32.ofNat r))] 3)) τ := fun τ κ => c17 τ (st18 τ κ)
    rw [show h0.size = nt from gnt.symm] at c19
    rw [← gnt] at Wn
    obtain ⟨kn, vn, FVn, hvn⟩ := Wn
    have ne_o0_nt : o0 ≠ nt := Nat.ne_of_lt (Nat.lt_of_lt_of_le E.lt (Nat.le_of_eq gnt.symm))
    have gn : n0 ≤ nt := Nat.le_trans Z0 (Nat.le_of_eq gnt.symm)
    have f21 := (Fw.keep K18q nin0)
    have f22 := (E.keep K18q)
    obtain ⟨T20, h20, X20, e20, W20, st20⟩ := putF X18 hx hZ hown (host := "") (Or.inl (hw _ (List.mem_of_getElem? (i := 34) rfl))) Via.refl rfl f21 f22 (Or.inl (hw _ (List.mem_of_getElem? (i := 35) rfl))) (hw _ (List.mem_of_getElem? (i := 15) rfl)) (ty := (.array .long)) (by decide) rfl rfl (g := (mkF m 30 #[.val (.ref o0), .val (.int (Int32.ofNat r)), .val (.int (Int32.ofNat (max (2 * len) r)))] [(.ref nt), (.ref o0)])) rfl rfl (hb hby d10_30)
    have F20 := f21.same W20
    have N20 := Fr.snoc X20 N18 g0
    have Z20 : n0 ≤ h20.size := Nat.le_trans Z18 (Keep.of_wr W20).1
    have K20 : Keep h0 h20 [o0] := K18.wr W20 (Or.inl (List.mem_of_getElem? (i := 0) rfl))
    have c23 : ∀ τ, Steps p.tables e below (T20.setTop (mkF m 33 #[.val (.ref o0), .val (.int (Int32.ofNat r)), .val (.int (Int32.ofNat (max (2 * len) r)))] [])) τ → Steps p.tables e below (s₁.setTop (entryFrame m #[(.ref o0), (.int (Int32.ofNat r))] 3)) τ := fun τ κ => c19 τ (st20 τ κ)
    have c24 : ∀ τ, Steps p.tables e below (T20.setTop (mkF m 35 #[.val (.ref o0), .val (.int (Int32.ofNat r)), .val (.int (Int32.ofNat (max (2 * len) r)))] [(.int (0 : Int32)), (.ref o0)])) τ → Steps p.tables e below (s₁.setTop (entryFrame m #[(.ref o0), (.int (Int32.ofNat r))] 3)) τ := fun τ κ => c23 τ (by
        show Steps p.tables e below (T20.setTop (mkF m 33 #[.val (.ref o0), .val (.int (Int32.ofNat r)), .val (.int (Int32.ofNat (max (2 * len) r)))] [])) _
        refine XS.aloadN X20.here hx rfl (hb hby d10_33) rfl rfl ?_
        show Steps p.tables e below (T20.setTop (mkF m 34 #[.val (.ref o0), .val (.int (Int32.ofNat r)), .val (.int (Int32.ofNat (max (2 * len) r)))] [(.ref o0)])) _
        refine XS.iconst X20.here hx rfl (hb hby d10_34) ?_
        exact κ)
    have f26 := ((Fs.keep K18q nin0).other W20 (Or.inr (slot_ne (Or.inl (hw _ (List.mem_of_getElem? (i := 24) rfl))) (Or.inl (hw _ (List.mem_of_getElem? (i := 35) rfl))) (by decide) (t := .boolean) (t' := (.array .long)) (by decide) (by decide))))
    have f27 := (f22.wr W20)
    obtain ⟨T25, h25, X25, e25, W25, st25⟩ := putFN X20 hx hZ hown (hw _ (List.mem_of_getElem? (i := 23) rfl)) Via.refl e20 f26 f27 (Or.inl (hw _ (List.mem_of_getElem? (i := 24) rfl))) (hw _ (List.mem_of_getElem? (i := 15) rfl)) (ty := .boolean) (v' := (.int (nar .boolean (0 : Int32)))) (by decide) rfl (fits_nar_bool _) (g := (mkF m 35 #[.val (.ref o0), .val (.int (Int32.ofNat r)), .val (.int (Int32.ofNat (max (2 * len) r)))] [(.int (0 : Int32)), (.ref o0)])) rfl rfl (hb hby d10_35)
    have F25 := f26.same W25
    have N25 := Fr.snoc X25 N20 g0
    have Z25 : n0 ≤ h25.size := Nat.le_trans Z20 (Keep.of_wr W25).1
    have K25 : Keep h0 h25 [o0] := K20.wr W25 (Or.inl (List.mem_of_getElem? (i := 0) rfl))
    have c28 : ∀ τ, Steps p.tables e below (T25.setTop (mkF m 38 #[.val (.ref o0), .val (.int (Int32.ofNat r)), .val (.int (Int32.ofNat (max (2 * len) r)))] [])) τ → Steps p.tables e below (s₁.setTop (entryFrame m #[(.ref o0), (.int (Int32.ofNat r))] 3)) τ := fun τ κ => c24 τ (st25 τ κ)
    have f29 := (f27.wr W25)
    have f30 := (((Fu.keep K18q nin0).other W20 (Or.inr (slot_ne (Or.inl (hw _ (List.mem_of_getElem? (i := 22) rfl))) (Or.inl (hw _ (List.mem_of_getElem? (i := 35) rfl))) (by decide) (t := .int) (t' := (.array .long)) (by decide) (by decide)))).other W25 (Or.inr (slot_ne (Or.inl (hw _ (List.mem_of_getElem? (i := 22) rfl))) (Or.inl (hw _ (List.mem_of_getElem? (i := 24) rfl))) (by decide) (t := .int) (t' := .boolean) (by decide) (by decide))))
    have f31 := (F20.other W25 (Or.inr (slot_ne (Or.inl (hw _ (List.mem_of_getElem? (i := 35) rfl))) (Or.inl (hw _ (List.mem_of_getElem? (i := 24) rfl))) (by decide) (t := (.array .long)) (t' := .boolean) (by decide) (by decide))))
    have f32 := ((FVn.other W20 (Ne.symm ne_o0_nt)).other W25 (Ne.symm ne_o0_nt))
    obtain ⟨fs, hr, hrun, hended, hW, hsame⟩ := X25.leave (v := none) (fun _ => rfl)
    refine ⟨_, _, c28 _ (X25.returnOut hx Bd.returns (hb hby d10_38) hr), hrun, hended, _, _, rfl, ?_, ⟨_, rfl⟩, hW, hsame.mono (Nat.le_of_ble_eq_true rfl) (Nat.le_of_eq (Nat.zero_add _))⟩
    show Q_rm10 Z o0 t u len r h0 n0 _ T25.heap _
    rw [e25]
    exact ⟨rfl, N25, nt, K25, ⟨f29, f30, ⟨_, F25⟩, f31, ⟨kn, vn, by rw [hge]; exact f32, by rw [hge]; exact hvn⟩, by omega, by omega, by omega, g0, gn⟩, Or.inr (Nat.le_of_eq gnt.symm)⟩
  · have hle : r ≤ len := own_nltE (by omega) (by omega) hc
    have hge := own_g2 hle
    have c6 : ∀ τ, Steps p.tables e below (T2.setTop (mkF m 38 #[.val (.ref o0), .val (.int (Int32.ofNat r)), .unset] [])) τ → Steps p.tables e below (s₁.setTop (entryFrame m #[(.ref o0), (.int (Int32.ofNat r))] 3)) τ := fun τ κ => c5 τ (by
        show Steps p.tables e below (T2.setTop (mkF m 6 #[.val (.ref o0), .val (.int (Int32.ofNat r)), .unset] [(.int (Int32.ofNat r)), (.int (Int32.ofNat len))])) _
        refine XS.icmpYes X2.here hx rfl (pc0 := 6) (pc' := 38) rfl (hb hby d10_6) rfl (flt hc).2.1 (by decide) (by decide) ?_
        exact κ)
    obtain ⟨fs, hr, hrun, hended, hW, hsame⟩ := X2.leave (v := none) (fun _ => rfl)
    refine ⟨_, _, c6 _ (X2.returnOut hx Bd.returns (hb hby d10_38) hr), hrun, hended, _, _, rfl, ?_, ⟨_, rfl⟩, hW, hsame.mono (Nat.zero_le _) (Nat.zero_le _)⟩
    show Q_rm10 Z o0 t u len r h0 n0 _ T2.heap _
    rw [e2]
    exact ⟨rfl, N0, t, (Keep.refl h0 [o0]), by rw [hge]; exact ⟨E, Fu, ⟨sx, Fs⟩, Fw, ⟨ka, vs, FV, hvl⟩, hul, hl1, hl2, g0, gt⟩, Or.inl rfl⟩
theorem d9_0 : decode jdk_92_method_15_code 0 = .ok (.iload_n 1, 1) := by decide +kernel
theorem d9_1 : decode jdk_92_method_15_code 1 = .ok (.iconst 1, 1) := by decide +kernel
theorem d9_2 : decode jdk_92_method_15_code 2 = .ok (.iadd, 1) := by decide +kernel
theorem d9_3 : decode jdk_92_method_15_code 3 = .ok (.istore_n 2, 1) := by decide +kernel
theorem d9_4 : decode jdk_92_method_15_code 4 = .ok (.aload_n 0, 1) := by decide +kernel
theorem d9_5 : decode jdk_92_method_15_code 5 = .ok (.getfield 7, 3) := by decide +kernel
theorem d9_8 : decode jdk_92_method_15_code 8 = .ok (.iload_n 2, 1) := by decide +kernel
theorem d9_9 : decode jdk_92_method_15_code 9 = .ok (.if_icmp .ge 13, 3) := by decide +kernel
theorem d9_12 : decode jdk_92_method_15_code 12 = .ok (.aload_n 0, 1) := by decide +kernel
theorem d9_13 : decode jdk_92_method_15_code 13 = .ok (.iload_n 2, 1) := by decide +kernel
theorem d9_14 : decode jdk_92_method_15_code 14 = .ok (.invokevirtual 139, 3) := by decide +kernel
theorem d9_17 : decode jdk_92_method_15_code 17 = .ok (.aload_n 0, 1) := by decide +kernel
theorem d9_18 : decode jdk_92_method_15_code 18 = .ok (.iload_n 2, 1) := by decide +kernel
theorem d9_19 : decode jdk_92_method_15_code 19 = .ok (.putfield 7, 3) := by decide +kernel
theorem d9_22 : decode jdk_92_method_15_code 22 = .ok (.return_, 1) := by decide +kernel
theorem pd_4 : parseMethodDescriptor "(I)V" = some ⟨[.int], none⟩ := by decide +kernel
theorem ef_rm9 (m : MethodId) (x0 : Addr) (x1 : Int32) : entryFrame m #[(.ref x0), (.int x1)] 3 = mkF m 0 #[.val (.ref x0), .val (.int x1), .unset] [] := by first | (simp [entryFrame, mkF, argsToLocals, Value.category]; done) | rfl
def Q_rm9 (Z : State) (o0 : Addr) (t : Addr) (u len wd : Nat) (h0 : Heap) (n0 : Nat) (v : Option Value) (h : Heap) (L : List Loc) : Prop := v = none ∧ Fr n0 L ∧ ∃ (t' : Addr) (u' : Nat), Keep h0 h [o0] ∧ own_B Z h o0 t' u' (own_g len (wd + 1)) n0 ∧ wd + 1 ≤ u' ∧ (t' = t ∨ h0.size ≤ t')
set_option maxRecDepth 65536 in
set_option maxHeartbeats 40000000 in
theorem rm9 (l : Launch) (Z : State) (a0 : Array Value) (hw : ∀ d ∈ tables_1, d.before a0 Z = true) (ws : List Jvm.Cond) (o0 : Addr) (t : Addr) (u len wd : Nat) (h0 : Heap) (n0 : Nat) (Z0 : n0 ≤ h0.size) (B : own_B Z h0 o0 t u len n0) (hwd : wd ≤ 1023) :
    MetFree l (⟨"java/util/BitSet", "expandTo", "(I)V"⟩ : MethodName) (head1 (Jvm.Cond.code (⟨"java/util/BitSet", "expandTo", "(I)V"⟩ : MethodName) jdk_92_method_15_code 3 none :: ws) ({ frames := 3, cells := 1, slots := 2 * (own_g len (wd + 1) - len), locals := 47 } : Room)) (fun a U => a = #[(.ref o0), (.int (Int32.ofNat wd))] ∧ Z.Warmed39 U.vm ∧ U.heap = h0) (fun _ _ _ _ _ => True) (fun _ U o U' => ∃ v L, o = .returned v ∧ Q_rm9 Z o0 t u len wd h0 n0 v U'.heap L ∧ FrameEnd U o U' L ({ frames := 3, cells := 1, slots := 2 * (own_g len (wd + 1) - len), locals := 47 } : Room).cells ({ frames := 3, cells := 1, slots := 2 * (own_g len (wd + 1) - len), locals := 47 } : Room).slots) := by
  refine MetFree.of_bodySF (plainFor_of_name pn_5) hisR ?_
  intro p e s m args below meth c s₁ Bd hml0 hP hK
  obtain ⟨rfl, hZ, hh⟩ := hP
  have hx := Bd.exec
  have hby := Bd.bytes
  have hml : c.maxLocals = 3 := hml0
  have hown : s.vm.findClass "java/util/BitSet" = some m.cls := findClass_of_methodNamed Bd.named
  have hnm := (name_of_methodNamed Bd.named Bd.method).1
  have X0 : Stand p l e ({ frames := 3, cells := 1, slots := 2 * (own_g len (wd + 1) - len), locals := 47 } : Room) s m #[(.ref o0), (.int (Int32.ofNat wd))] below meth c s₁ [] 0 0 := Stand.of_body Bd
  have e0 : s₁.heap = h0 := by rw [← hh, Bd.state]; rfl
  have N0 := Fr.nil n0
  have c0 : ∀ τ, Steps p.tables e below (s₁.setTop (mkF m 0 #[.val (.ref o0), .val (.int (Int32.ofNat wd)), .unset] [])) τ → Steps p.tables e below (s₁.setTop (entryFrame m #[(.ref o0), (.int (Int32.ofNat wd))] 3)) τ := fun τ κ => castTop (ef_rm9 m o0 (Int32.ofNat wd)) κ
  obtain ⟨E, Fu, ⟨sx, Fs⟩, Fw, ⟨ka, vs, FV, hvl⟩, hul, hl1, hl2, g0, gt⟩ := id B
  have ne_o0_t : o0 ≠ t := own_ne_ea E (hw _ (List.mem_of_getElem? (i := 15) rfl)) FV
  have hg := own_gle len (wd + 1)
  have hgm := own_gmax (r := wd + 1) hl2 (by omega)
  have c1 : ∀ τ, Steps p.tables e below (s₁.setTop (mkF m 3 #[.val (.ref o0), .val (.int (Int32.ofNat wd)), .unset] [(.int ((Int32.ofNat wd) + (1 : Int32)))])) τ → Steps p.tables e below (s₁.setTop (entryFrame m #[(.ref o0), (.int (Int32.ofNat wd))] 3)) τ := fun τ κ => c0 τ (by
      show Steps p.tables e below (s₁.setTop (mkF m 0 #[.val (.ref o0), .val (.int (Int32.ofNat wd)), .unset] [])) _
      refine XS.iloadN X0.here hx rfl (hb hby d9_0) rfl ?_
      show Steps p.tables e below (s₁.setTop (mkF m 1 #[.val (.ref o0), .val (.int (Int32.ofNat wd)), .unset] [(.int (Int32.ofNat wd))])) _
      refine XS.iconst X0.here hx rfl (hb hby d9_1) ?_
      show Steps p.tables e below (s₁.setTop (mkF m 2 #[.val (.ref o0), .val (.int (Int32.ofNat wd)), .unset] [(.int (1 : Int32)), (.int (Int32.ofNat wd))])) _
      refine XS.iadd X0.here hx rfl (hb hby d9_2) rfl ?_
      exact κ)
  rw [show ((Int32.ofNat wd) + (1 : Int32)) = (Int32.ofNat (wd + 1)) from own_add wd 1] at c1
  have c2 : ∀ τ, Steps p.tables e below (s₁.setTop (mkF m 5 #[.val (.ref o0), .val (.int (Int32.ofNat wd)), .val (.int (Int32.ofNat (wd + 1)))] [(.ref o0)])) τ → Steps p.tables e below (s₁.setTop (entryFrame m #[(.ref o0), (.int (Int32.ofNat wd))] 3)) τ := fun τ κ => c1 τ (by
      show Steps p.tables e below (s₁.setTop (mkF m 3 #[.val (.ref o0), .val (.int (Int32.ofNat wd)), .unset] [(.int (Int32.ofNat (wd + 1)))])) _
      refine XS.istoreN X0.here hx rfl (hb hby d9_3) rfl (l' := #[.val (.ref o0), .val (.int (Int32.ofNat wd)), .val (.int (Int32.ofNat (wd + 1)))]) rfl ?_
      show Steps p.tables e below (s₁.setTop (mkF m 4 #[.val (.ref o0), .val (.int (Int32.ofNat wd)), .val (.int (Int32.ofNat (wd + 1)))] [])) _
      refine XS.aloadN X0.here hx rfl (hb hby d9_4) rfl rfl ?_
      exact κ)
  obtain ⟨T3, X3, e3, st3⟩ := getF X0 hx hZ hown (host := "") (Or.inl (hw _ (List.mem_of_getElem? (i := 21) rfl))) Via.refl e0 Fu (g := (mkF m 5 #[.val (.ref o0), .val (.int (Int32.ofNat wd)), .val (.int (Int32.ofNat (wd + 1)))] [(.ref o0)])) rfl rfl (hb hby d9_5)
  have c4 : ∀ τ, Steps p.tables e below (T3.setTop (mkF m 8 #[.val (.ref o0), .val (.int (Int32.ofNat wd)), .val (.int (Int32.ofNat (wd + 1)))] [(.int (Int32.ofNat u))])) τ → Steps p.tables e below (s₁.setTop (entryFrame m #[(.ref o0), (.int (Int32.ofNat wd))] 3)) τ := fun τ κ => c2 τ (st3 τ κ)
  have c5 : ∀ τ, Steps p.tables e below (T3.setTop (mkF m 9 #[.val (.ref o0), .val (.int (Int32.ofNat wd)), .val (.int (Int32.ofNat (wd + 1)))] [(.int (Int32.ofNat (wd + 1))), (.int (Int32.ofNat u))])) τ → Steps p.tables e below (s₁.setTop (entryFrame m #[(.ref o0), (.int (Int32.ofNat wd))] 3)) τ := fun τ κ => c4 τ (by
      show Steps p.tables e below (T3.setTop (mkF m 8 #[.val (.ref o0), .val (.int (Int32.ofNat wd)), .val (.int (Int32.ofNat (wd + 1)))] [(.int (Int32.ofNat u))])) _
      refine XS.iloadN X3.here hx rfl (hb hby d9_8) rfl ?_
      exact κ)
  by_cases hc : (Int32.ofNat u) < (Int32.ofNat (wd + 1))
  · have c6 : ∀ τ, Steps p.tables e below (T3.setTop (mkF m 14 #[.val (.ref o0), .val (.int (Int32.ofNat wd)), .val (.int (Int32.ofNat (wd + 1)))] [(.int (Int32.ofNat (wd + 1))), (.ref o0)])) τ → Steps p.tables e below (s₁.setTop (entryFrame m #[(.ref o0), (.int (Int32.ofNat wd))] 3)) τ := fun τ κ => c5 τ (by
        show Steps p.tables e below (T3.setTop (mkF m 9 #[.val (.ref o0), .val (.int (Int32.ofNat wd)), .val (.int (Int32.ofNat (wd + 1)))] [(.int (Int32.ofNat (wd + 1))), (.int (Int32.ofNat u))])) _
        refine XS.icmpNo X3.here hx rfl (hb hby d9_9) rfl (tlt hc).2.1 ?_
        show Steps p.tables e below (T3.setTop (mkF m 12 #[.val (.ref o0), .val (.int (Int32.ofNat wd)), .val (.int (Int32.ofNat (wd + 1)))] [])) _
        refine XS.aloadN X3.here hx rfl (hb hby d9_12) rfl rfl ?_
        show Steps p.tables e below (T3.setTop (mkF m 13 #[.val (.ref o0), .val (.int (Int32.ofNat wd)), .val (.int (Int32.ofNat (wd + 1)))] [(.ref o0)])) _
        refine XS.iloadN X3.here hx rfl (hb hby d9_13) rfl ?_
        exact κ)
    obtain ⟨cq7, q7, q7'⟩ := E.cell
    obtain ⟨_, _, ⟨T7, L7, k7, n7⟩, -, X7, ⟨Lc7, hQ7, l7, y7, z7⟩, st7⟩ := X3.privateBack hx (y := (⟨"java/util/BitSet", "ensureCapacity", "(I)V"⟩ : MethodName)) hown (mvT hZ (hw _ (List.mem_of_getElem? (i := 69) rfl))) (mvT hZ (hw _ (List.mem_of_getElem? (i := 70) rfl))) (mvT hZ (hw _ (List.mem_of_getElem? (i := 72) rfl))) (Cond.privateMethod_at (mvP hZ (hw _ (List.mem_of_getElem? (i := 71) rfl)) (args := #[]))) (mvT hZ (hw _ (List.mem_of_getElem? (i := 73) rfl))) (by decide) (backOf (W := 0) (rm10 l Z a0 hw [] o0 t u len (wd + 1) h0 n0 Z0 B (by omega)) hZ (hw _ (List.mem_of_getElem? (i := 73) rfl)) (hw _ (List.mem_of_getElem? (i := 16) rfl)) (Nat.le_of_ble_eq_true rfl) (Nat.le_of_ble_eq_true rfl)) (g := (mkF m 14 #[.val (.ref o0), .val (.int (Int32.ofNat wd)), .val (.int (Int32.ofNat (wd + 1)))] [(.int (Int32.ofNat (wd + 1))), (.ref o0)])) rfl (by rw [hml]; rfl) (Steps.refl _) (a := o0) (by rw [e3]; exact q7) q7' (argsL := [(.int (Int32.ofNat (wd + 1)))]) (rest := []) (lenOf pd_4 rfl) rfl (by show 2 * 0 + _ ≤ _; exact Nat.le_of_eq rfl) (hb hby d9_14) (fun _ _ => ⟨rfl, e3, (Nat.le_of_ble_eq_true rfl), (Nat.le_of_eq (Nat.zero_add _))⟩)
    dsimp only [Pt.U, Pt.locs, Pt.cells, Pt.slots] at X7 l7 y7 z7 st7 hQ7
    rw [y7, z7] at X7
    obtain ⟨rfl, N7q, t', K7q, B', ht'⟩ := hQ7
    have N7 : Fr n0 L7 := by rw [l7]; exact Fr.app N0 N7q
    replace X7 := X7.more (cells' := 1) (slots' := (0 + 2 * (own_g len (wd + 1) - len))) (Nat.le_refl _) (Nat.le_refl _)
    replace X7 : Stand p l e _ s m _ below meth c T7 L7 1 (0 + 2 * (own_g len (wd + 1) - len)) := X7
    clear l7 y7 z7
    have Z7 : n0 ≤ T7.heap.size := Nat.le_trans Z0 K7q.1
    have K7 : Keep h0 T7.heap [o0] := (Keep.refl h0 [o0]).trans K7q (allS (Or.inl (List.mem_of_getElem? (i := 0) rfl)) all0)
    have c8 : ∀ τ, Steps p.tables e below (T7.setTop (mkF m 17 #[.val (.ref o0), .val (.int (Int32.ofNat wd)), .val (.int (Int32.ofNat (wd + 1)))] [])) τ → Steps p.tables e below (s₁.setTop (entryFrame m #[(.ref o0), (.int (Int32.ofNat wd))] 3)) τ := fun τ κ => c6 τ (st7.trans κ)
    obtain ⟨Eb, Fub, ⟨sxb, Fsb⟩, Fwb, ⟨kab, vsb, FVb, hvlb⟩, hulb, hl1b, hl2b, g0b, gtb⟩ := id B'
    have ne_o0_t' : o0 ≠ t' := own_ne_ea Eb (hw _ (List.mem_of_getElem? (i := 15) rfl)) FVb
    have c9 : ∀ τ, Steps p.tables e below (T7.setTop (mkF m 19 #[.val (.ref o0), .val (.int (Int32.ofNat wd)), .val (.int (Int32.ofNat (wd + 1)))] [(.int (Int32.ofNat (wd + 1))), (.ref o0)])) τ → Steps p.tables e below (s₁.setTop (entryFrame m #[(.ref o0), (.int (Int32.ofNat wd))] 3)) τ := fun τ κ => c8 τ (by
        show Steps p.tables e below (T7.setTop (mkF m 17 #[.val (.ref o0), .val (.int (Int32.ofNat wd)), .val (.int (Int32.ofNat (wd + 1)))] [])) _
        refine XS.aloadN X7.here hx rfl (hb hby d9_17) rfl rfl ?_
        show Steps p.tables e below (T7.setTop (mkF m 18 #[.val (.ref o0), .val (.int (Int32.ofNat wd)), .val (.int (Int32.ofNat (wd + 1)))] [(.ref o0)])) _
        refine XS.iloadN X7.here hx rfl (hb hby d9_18) rfl ?_
        exact κ)
    obtain ⟨T10, h10, X10, e10, W10, st10⟩ := putF X7 hx hZ hown (host := "") (Or.inl (hw _ (List.mem_of_getElem? (i := 21) rfl))) Via.refl rfl Fub Eb (Or.inl (hw _ (List.mem_of_getElem? (i := 22) rfl))) (hw _ (List.mem_of_getElem? (i := 15) rfl)) (ty := .int) (by decide) rfl rfl (g := (mkF m 19 #[.val (.ref o0), .val (.int (Int32.ofNat wd)), .val (.int (Int32.ofNat (wd + 1)))] [(.int (Int32.ofNat (wd + 1))), (.ref o0)])) rfl rfl (hb hby d9_19)
    have F10 := Fub.same W10
    have N10 := Fr.snoc X10 N7 g0b
    have Z10 : n0 ≤ h10.size := Nat.le_trans Z7 (Keep.of_wr W10).1
    have K10 : Keep h0 h10 [o0] := K7.wr W10 (Or.inl (List.mem_of_getElem? (i := 0) rfl))
    have c11 : ∀ τ, Steps p.tables e below (T10.setTop (mkF m 22 #[.val (.ref o0), .val (.int (Int32.ofNat wd)), .val (.int (Int32.ofNat (wd + 1)))] [])) τ → Steps p.tables e below (s₁.setTop (entryFrame m #[(.ref o0), (.int (Int32.ofNat wd))] 3)) τ := fun τ κ => c9 τ (st10 τ κ)
    have f12 := (Eb.wr W10)
    have f13 := (Fsb.other W10 (Or.inr (slot_ne (Or.inl (hw _ (List.mem_of_getElem? (i := 24) rfl))) (Or.inl (hw _ (List.mem_of_getElem? (i := 22) rfl))) (by decide) (t := .boolean) (t' := .int) (by decide) (by decide))))
    have f14 := (Fwb.other W10 (Or.inr (slot_ne (Or.inl (hw _ (List.mem_of_getElem? (i := 35) rfl))) (Or.inl (hw _ (List.mem_of_getElem? (i := 22) rfl))) (by decide) (t := (.array .long)) (t' := .int) (by decide) (by decide))))
    have f15 := (FVb.other W10 (Ne.symm ne_o0_t'))
    obtain ⟨fs, hr, hrun, hended, hW, hsame⟩ := X10.leave (v := none) (fun _ => rfl)
    refine ⟨_, _, c11 _ (X10.returnOut hx Bd.returns (hb hby d9_22) hr), hrun, hended, _, _, rfl, ?_, ⟨_, rfl⟩, hW, hsame.mono (Nat.le_of_ble_eq_true rfl) (Nat.le_of_eq (Nat.zero_add _))⟩
    show Q_rm9 Z o0 t u len wd h0 n0 _ T10.heap _
    rw [e10]
    exact ⟨rfl, N10, t', wd + 1, K10, ⟨f12, F10, ⟨_, f13⟩, f14, ⟨_, _, f15, hvlb⟩, by omega, by omega, by omega, g0b, gtb⟩, Nat.le_refl _, ht'⟩
  · have hle : wd + 1 ≤ u := own_nltE (by omega) (by omega) hc
    have hge := own_g2 (n := len) (r := wd + 1) (by omega)
    have c6 : ∀ τ, Steps p.tables e below (T3.setTop (mkF m 22 #[.val (.ref o0), .val (.int (Int32.ofNat wd)), .val (.int (Int32.ofNat (wd + 1)))] [])) τ → Steps p.tables e below (s₁.setTop (entryFrame m #[(.ref o0), (.int (Int32.ofNat wd))] 3)) τ := fun τ κ => c5 τ (by
        show Steps p.tables e below (T3.setTop (mkF m 9 #[.val (.ref o0), .val (.int (Int32.ofNat wd)), .val (.int (Int32.ofNat (wd + 1)))] [(.int (Int32.ofNat (wd + 1))), (.int (Int32.ofNat u))])) _
        refine XS.icmpYes X3.here hx rfl (pc0 := 9) (pc' := 22) rfl (hb hby d9_9) rfl (flt hc).2.1 (by decide) (by decide) ?_
        exact κ)
    obtain ⟨fs, hr, hrun, hended, hW, hsame⟩ := X3.leave (v := none) (fun _ => rfl)
    refine ⟨_, _, c6 _ (X3.returnOut hx Bd.returns (hb hby d9_22) hr), hrun, hended, _, _, rfl, ?_, ⟨_, rfl⟩, hW, hsame.mono (Nat.zero_le _) (Nat.zero_le _)⟩
    show Q_rm9 Z o0 t u len wd h0 n0 _ T3.heap _
    rw [e3]
    exact ⟨rfl, N0, t, u, (Keep.refl h0 [o0]), by rw [hge]; exact B, hle, Or.inl rfl⟩
theorem d11_0 : decode jdk_92_method_2_code 0 = .ok (.getstatic 3, 3) := by decide +kernel
theorem d11_3 : decode jdk_92_method_2_code 3 = .ok (.ifCond .ne 34, 3) := by decide +kernel
theorem d11_6 : decode jdk_92_method_2_code 6 = .ok (.aload_n 0, 1) := by decide +kernel
theorem d11_7 : decode jdk_92_method_2_code 7 = .ok (.getfield 7, 3) := by decide +kernel
theorem d11_10 : decode jdk_92_method_2_code 10 = .ok (.ifCond .eq 27, 3) := by decide +kernel
theorem d11_13 : decode jdk_92_method_2_code 13 = .ok (.aload_n 0, 1) := by decide +kernel
theorem d11_14 : decode jdk_92_method_2_code 14 = .ok (.getfield 11, 3) := by decide +kernel
theorem d11_17 : decode jdk_92_method_2_code 17 = .ok (.aload_n 0, 1) := by decide +kernel
theorem d11_18 : decode jdk_92_method_2_code 18 = .ok (.getfield 7, 3) := by decide +kernel
theorem d11_21 : decode jdk_92_method_2_code 21 = .ok (.iconst 1, 1) := by decide +kernel
theorem d11_22 : decode jdk_92_method_2_code 22 = .ok (.isub, 1) := by decide +kernel
theorem d11_23 : decode jdk_92_method_2_code 23 = .ok (.laload, 1) := by decide +kernel
theorem d11_24 : decode jdk_92_method_2_code 24 = .ok (.lconst 0, 1) := by decide +kernel
theorem d11_25 : decode jdk_92_method_2_code 25 = .ok (.lcmp, 1) := by decide +kernel
theorem d11_26 : decode jdk_92_method_2_code 26 = .ok (.ifCond .ne 11, 3) := by decide +kernel
theorem d11_29 : decode jdk_92_method_2_code 29 = .ok (.new 15, 3) := by decide +kernel
theorem d11_32 : decode jdk_92_method_2_code 32 = .ok (.dup, 1) := by decide +kernel
theorem d11_33 : decode jdk_92_method_2_code 33 = .ok (.invokespecial 17, 3) := by decide +kernel
theorem d11_36 : decode jdk_92_method_2_code 36 = .ok (.athrow, 1) := by decide +kernel
theorem d11_37 : decode jdk_92_method_2_code 37 = .ok (.getstatic 3, 3) := by decide +kernel
theorem d11_40 : decode jdk_92_method_2_code 40 = .ok (.ifCond .ne 30, 3) := by decide +kernel
theorem d11_43 : decode jdk_92_method_2_code 43 = .ok (.aload_n 0, 1) := by decide +kernel
theorem d11_44 : decode jdk_92_method_2_code 44 = .ok (.getfield 7, 3) := by decide +kernel
theorem d11_47 : decode jdk_92_method_2_code 47 = .ok (.ifCond .lt 15, 3) := by decide +kernel
theorem d11_50 : decode jdk_92_method_2_code 50 = .ok (.aload_n 0, 1) := by decide +kernel
theorem d11_51 : decode jdk_92_method_2_code 51 = .ok (.getfield 7, 3) := by decide +kernel
theorem d11_54 : decode jdk_92_method_2_code 54 = .ok (.aload_n 0, 1) := by decide +kernel
theorem d11_55 : decode jdk_92_method_2_code 55 = .ok (.getfield 11, 3) := by decide +kernel
theorem d11_58 : decode jdk_92_method_2_code 58 = .ok (.arraylength, 1) := by decide +kernel
theorem d11_59 : decode jdk_92_method_2_code 59 = .ok (.if_icmp .le 11, 3) := by decide +kernel
theorem d11_62 : decode jdk_92_method_2_code 62 = .ok (.new 15, 3) := by decide +kernel
theorem d11_65 : decode jdk_92_method_2_code 65 = .ok (.dup, 1) := by decide +kernel
theorem d11_66 : decode jdk_92_method_2_code 66 = .ok (.invokespecial 17, 3) := by decide +kernel
theorem d11_69 : decode jdk_92_method_2_code 69 = .ok (.athrow, 1) := by decide +kernel
theorem d11_70 : decode jdk_92_method_2_code 70 = .ok (.getstatic 3, 3) := by decide +kernel
theorem d11_73 : decode jdk_92_method_2_code 73 = .ok (.ifCond .ne 37, 3) := by decide +kernel
theorem d11_76 : decode jdk_92_method_2_code 76 = .ok (.aload_n 0, 1) := by decide +kernel
theorem d11_77 : decode jdk_92_method_2_code 77 = .ok (.getfield 7, 3) := by decide +kernel
theorem d11_80 : decode jdk_92_method_2_code 80 = .ok (.aload_n 0, 1) := by decide +kernel
theorem d11_81 : decode jdk_92_method_2_code 81 = .ok (.getfield 11, 3) := by decide +kernel
theorem d11_84 : decode jdk_92_method_2_code 84 = .ok (.arraylength, 1) := by decide +kernel
theorem d11_85 : decode jdk_92_method_2_code 85 = .ok (.if_icmp .eq 25, 3) := by decide +kernel
theorem d11_88 : decode jdk_92_method_2_code 88 = .ok (.aload_n 0, 1) := by decide +kernel
theorem d11_89 : decode jdk_92_method_2_code 89 = .ok (.getfield 11, 3) := by decide +kernel
theorem d11_92 : decode jdk_92_method_2_code 92 = .ok (.aload_n 0, 1) := by decide +kernel
theorem d11_93 : decode jdk_92_method_2_code 93 = .ok (.getfield 7, 3) := by decide +kernel
theorem d11_96 : decode jdk_92_method_2_code 96 = .ok (.laload, 1) := by decide +kernel
theorem d11_97 : decode jdk_92_method_2_code 97 = .ok (.lconst 0, 1) := by decide +kernel
theorem d11_98 : decode jdk_92_method_2_code 98 = .ok (.lcmp, 1) := by decide +kernel
theorem d11_99 : decode jdk_92_method_2_code 99 = .ok (.ifCond .eq 11, 3) := by decide +kernel
theorem d11_102 : decode jdk_92_method_2_code 102 = .ok (.new 15, 3) := by decide +kernel
theorem d11_105 : decode jdk_92_method_2_code 105 = .ok (.dup, 1) := by decide +kernel
theorem d11_106 : decode jdk_92_method_2_code 106 = .ok (.invokespecial 17, 3) := by decide +kernel
theorem d11_109 : decode jdk_92_method_2_code 109 = .ok (.athrow, 1) := by decide +kernel
theorem d11_110 : decode jdk_92_method_2_code 110 = .ok (.return_, 1) := by decide +kernel
theorem ef_rm11 (m : MethodId) (x0 : Addr) : entryFrame m #[(.ref x0)] 1 = mkF m 0 #[.val (.ref x0)] [] := by first | (simp [entryFrame, mkF, argsToLocals, Value.category]; done) | rfl
def Q_rm11 (Z : State) (o0 : Addr) (h0 : Heap) (n0 : Nat) (v : Option Value) (h : Heap) (L : List Loc) : Prop := v = none ∧ Fr n0 L ∧ h = h0
set_option maxRecDepth 65536 in
set_option maxHeartbeats 40000000 in
theorem rm11 (l : Launch) (Z : State) (a0 : Array Value) (hw : ∀ d ∈ tables_1, d.before a0 Z = true) (ws : List Jvm.Cond) (o0 : Addr) (h0 : Heap) (n0 : Nat) (Z0 : n0 ≤ h0.size) (S : Sta Z h0 "java/util/BitSet" "$assertionsDisabled" "Z" (.int (1 : Int32))) :
    MetFree l (⟨"java/util/BitSet", "checkInvariants", "()V"⟩ : MethodName) (head1 (Jvm.Cond.code (⟨"java/util/BitSet", "checkInvariants", "()V"⟩ : MethodName) jdk_92_method_2_code 1 none :: ws) ({ frames := 0, cells := 0, slots := 0, locals := 0 } : Room)) (fun a U => a = #[(.ref o0)] ∧ Z.Warmed39 U.vm ∧ U.heap = h0) (fun _ _ _ _ _ => True) (fun _ U o U' => ∃ v L, o = .returned v ∧ Q_rm11 Z o0 h0 n0 v U'.heap L ∧ FrameEnd U o U' L ({ frames := 0, cells := 0, slots := 0, locals := 0 } : Room).cells ({ frames := 0, cells := 0, slots := 0, locals := 0 } : Room).slots) := by
  refine MetFree.of_bodySF (plainFor_of_name pn_5) hisR ?_
  intro p e s m args below meth c s₁ Bd hml0 hP hK
  obtain ⟨rfl, hZ, hh⟩ := hP
  have hx := Bd.exec
  have hby := Bd.bytes
  have hml : c.maxLocals = 1 := hml0
  have hown : s.vm.findClass "java/util/BitSet" = some m.cls := findClass_of_methodNamed Bd.named
  have hnm := (name_of_methodNamed Bd.named Bd.method).1
  have X0 : Stand p l e ({ frames := 0, cells := 0, slots := 0, locals := 0 } : Room) s m #[(.ref o0)] below meth c s₁ [] 0 0 := Stand.of_body Bd
  have e0 : s₁.heap = h0 := by rw [← hh, Bd.state]; rfl
  have N0 := Fr.nil n0
  have c0 : ∀ τ, Steps p.tables e below (s₁.setTop (mkF m 0 #[.val (.ref o0)] [])) τ → Steps p.tables e below (s₁.setTop (entryFrame m #[(.ref o0)] 1)) τ := fun τ κ => castTop (ef_rm11 m o0) κ
  obtain ⟨T1, X1, e1, st1⟩ := getS2 X0 hx hZ hown (host := "") (Or.inl (hw _ (List.mem_of_getElem? (i := 79) rfl))) Via.refl e0 S (g := (mkF m 0 #[.val (.ref o0)] [])) rfl (hb hby d11_0)
  have c2 : ∀ τ, Steps p.tables e below (T1.setTop (mkF m 3 #[.val (.ref o0)] [(.int (1 : Int32))])) τ → Steps p.tables e below (s₁.setTop (entryFrame m #[(.ref o0)] 1)) τ := fun τ κ => c0 τ (st1 τ κ)
  have c3 : ∀ τ, Steps p.tables e below (T1.setTop (mkF m 37 #[.val (.ref o0)] [])) τ → Steps p.tables e below (s₁.setTop (entryFrame m #[(.ref o0)] 1)) τ := fun τ κ => c2 τ (by
      show Steps p.tables e below (T1.setTop (mkF m 3 #[.val (.ref o0)] [(.int (1 : Int32))])) _
      refine XS.ifYes X1.here hx rfl (pc0 := 3) (pc' := 37) rfl (hb hby d11_3) rfl ((if0 _ _).trans (feq (by decide)).2) (by decide) (by decide) ?_
      exact κ)
  obtain ⟨T4, X4, e4, st4⟩ := getS2 X1 hx hZ hown (host := "") (Or.inl (hw _ (List.mem_of_getElem? (i := 79) rfl))) Via.refl e1 S (g := (mkF m 37 #[.val (.ref o0)] [])) rfl (hb hby d11_37)
  have c5 : ∀ τ, Steps p.tables e below (T4.setTop (mkF m 40 #[.val (.ref o0)] [(.int (1 : Int32))])) τ → Steps p.tables e below (s₁.setTop (entryFrame m #[(.ref o0)] 1)) τ := fun τ κ => c3 τ (st4 τ κ)
  have c6 : ∀ τ, Steps p.tables e below (T4.setTop (mkF m 70 #[.val (.ref o0)] [])) τ → Steps p.tables e below (s₁.setTop (entryFrame m #[(.ref o0)] 1)) τ := fun τ κ => c5 τ (by
      show Steps p.tables e below (T4.setTop (mkF m 40 #[.val (.ref o0)] [(.int (1 : Int32))])) _
      refine XS.ifYes X4.here hx rfl (pc0 := 40) (pc' := 70) rfl (hb hby d11_40) rfl ((if0 _ _).trans (feq (by decide)).2) (by decide) (by decide) ?_
      exact κ)
  obtain ⟨T7, X7, e7, st7⟩ := getS2 X4 hx hZ hown (host := "") (Or.inl (hw _ (List.mem_of_getElem? (i := 79) rfl))) Via.refl e4 S (g := (mkF m 70 #[.val (.ref o0)] [])) rfl (hb hby d11_70)
  have c8 : ∀ τ, Steps p.tables e below (T7.setTop (mkF m 73 #[.val (.ref o0)] [(.int (1 : Int32))])) τ → Steps p.tables e below (s₁.setTop (entryFrame m #[(.ref o0)] 1)) τ := fun τ κ => c6 τ (st7 τ κ)
  have c9 : ∀ τ, Steps p.tables e below (T7.setTop (mkF m 110 #[.val (.ref o0)] [])) τ → Steps p.tables e below (s₁.setTop (entryFrame m #[(.ref o0)] 1)) τ := fun τ κ => c8 τ (by
      show Steps p.tables e below (T7.setTop (mkF m 73 #[.val (.ref o0)] [(.int (1 : Int32))])) _
      refine XS.ifYes X7.here hx rfl (pc0 := 73) (pc' := 110) rfl (hb hby d11_73) rfl ((if0 _ _).trans (feq (by decide)).2) (by decide) (by decide) ?_
      exact κ)
  obtain ⟨fs, hr, hrun, hended, hW, hsame⟩ := X7.leave (v := none) (fun _ => rfl)
  refine ⟨_, _, c9 _ (X7.returnOut hx Bd.returns (hb hby d11_110) hr), hrun, hended, _, _, rfl, ?_, ⟨_, rfl⟩, hW, hsame.mono (by decide) (by decide)⟩
  show Q_rm11 Z o0 h0 n0 _ T7.heap _
  rw [e7]
  exact ⟨rfl, N0, rfl⟩
theorem d8_0 : decode jdk_92_method_19_code 0 = .ok (.iload_n 1, 1) := by decide +kernel
theorem d8_1 : decode jdk_92_method_19_code 1 = .ok (.ifCond .ge 30, 3) := by decide +kernel
theorem d8_4 : decode jdk_92_method_19_code 4 = .ok (.new 142, 3) := by decide +kernel
theorem d8_7 : decode jdk_92_method_19_code 7 = .ok (.dup, 1) := by decide +kernel
theorem d8_8 : decode jdk_92_method_19_code 8 = .ok (.new 33, 3) := by decide +kernel
theorem d8_11 : decode jdk_92_method_19_code 11 = .ok (.dup, 1) := by decide +kernel
theorem d8_12 : decode jdk_92_method_19_code 12 = .ok (.invokespecial 35, 3) := by decide +kernel
theorem d8_15 : decode jdk_92_method_19_code 15 = .ok (.ldc 153, 2) := by decide +kernel
theorem d8_17 : decode jdk_92_method_19_code 17 = .ok (.invokevirtual 38, 3) := by decide +kernel
theorem d8_20 : decode jdk_92_method_19_code 20 = .ok (.iload_n 1, 1) := by decide +kernel
theorem d8_21 : decode jdk_92_method_19_code 21 = .ok (.invokevirtual 42, 3) := by decide +kernel
theorem d8_24 : decode jdk_92_method_19_code 24 = .ok (.invokevirtual 45, 3) := by decide +kernel
theorem d8_27 : decode jdk_92_method_19_code 27 = .ok (.invokespecial 146, 3) := by decide +kernel
theorem d8_30 : decode jdk_92_method_19_code 30 = .ok (.athrow, 1) := by decide +kernel
theorem d8_31 : decode jdk_92_method_19_code 31 = .ok (.iload_n 1, 1) := by decide +kernel
theorem d8_32 : decode jdk_92_method_19_code 32 = .ok (.invokestatic 52, 3) := by decide +kernel
theorem d8_35 : decode jdk_92_method_19_code 35 = .ok (.istore_n 2, 1) := by decide +kernel
theorem d8_36 : decode jdk_92_method_19_code 36 = .ok (.aload_n 0, 1) := by decide +kernel
theorem d8_37 : decode jdk_92_method_19_code 37 = .ok (.iload_n 2, 1) := by decide +kernel
theorem d8_38 : decode jdk_92_method_19_code 38 = .ok (.invokevirtual 155, 3) := by decide +kernel
theorem d8_41 : decode jdk_92_method_19_code 41 = .ok (.aload_n 0, 1) := by decide +kernel
theorem d8_42 : decode jdk_92_method_19_code 42 = .ok (.getfield 11, 3) := by decide +kernel
theorem d8_45 : decode jdk_92_method_19_code 45 = .ok (.iload_n 2, 1) := by decide +kernel
theorem d8_46 : decode jdk_92_method_19_code 46 = .ok (.dup2, 1) := by decide +kernel
theorem d8_47 : decode jdk_92_method_19_code 47 = .ok (.laload, 1) := by decide +kernel
theorem d8_48 : decode jdk_92_method_19_code 48 = .ok (.lconst 1, 1) := by decide +kernel
theorem d8_49 : decode jdk_92_method_19_code 49 = .ok (.iload_n 1, 1) := by decide +kernel
theorem d8_50 : decode jdk_92_method_19_code 50 = .ok (.lshl, 1) := by decide +kernel
theorem d8_51 : decode jdk_92_method_19_code 51 = .ok (.lor, 1) := by decide +kernel
theorem d8_52 : decode jdk_92_method_19_code 52 = .ok (.lastore, 1) := by decide +kernel
theorem d8_53 : decode jdk_92_method_19_code 53 = .ok (.aload_n 0, 1) := by decide +kernel
theorem d8_54 : decode jdk_92_method_19_code 54 = .ok (.invokevirtual 56, 3) := by decide +kernel
theorem d8_57 : decode jdk_92_method_19_code 57 = .ok (.return_, 1) := by decide +kernel
theorem pd_3 : parseMethodDescriptor "(I)I" = some ⟨[.int], some .int⟩ := by decide +kernel
theorem pd_2 : parseMethodDescriptor "()V" = some ⟨[], none⟩ := by decide +kernel
theorem ef_rm8 (m : MethodId) (x0 : Addr) (x1 : Int32) : entryFrame m #[(.ref x0), (.int x1)] 3 = mkF m 0 #[.val (.ref x0), .val (.int x1), .unset] [] := by first | (simp [entryFrame, mkF, argsToLocals, Value.category]; done) | rfl
def Q_rm8 (Z : State) (o0 : Addr) (t : Addr) (u len i : Nat) (h0 : Heap) (n0 : Nat) (v : Option Value) (h : Heap) (L : List Loc) : Prop := v = none ∧ Fr n0 L ∧ ∃ (t' : Addr) (u' : Nat), Keep h0 h [o0, t] ∧ own_B Z h o0 t' u' (own_g len (i / 64 + 1)) n0 ∧ (t' = t ∨ h0.size ≤ t')
set_option maxRecDepth 65536 in
set_option maxHeartbeats 40000000 in
theorem rm8 (l : Launch) (Z : State) (a0 : Array Value) (hw : ∀ d ∈ tables_1, d.before a0 Z = true) (ws : List Jvm.Cond) (o0 : Addr) (t : Addr) (u len i : Nat) (h0 : Heap) (n0 : Nat) (Z0 : n0 ≤ h0.size) (B : own_B Z h0 o0 t u len n0) (hi : i ≤ 65535) (SA : Sta Z Z.heap "java/util/BitSet" "$assertionsDisabled" "Z" (.int (1 : Int32))) (Od : Old Z n0 h0) :
    MetFree l (⟨"java/util/BitSet", "set", "(I)V"⟩ : MethodName) (head1 (Jvm.Cond.code (⟨"java/util/BitSet", "set", "(I)V"⟩ : MethodName) jdk_92_method_19_code 3 none :: ws) ({ frames := 4, cells := 1, slots := 2 * (own_g len (i / 64 + 1) - len), locals := 61 } : Room)) (fun a U => a = #[(.ref o0), (.int (Int32.ofNat i))] ∧ Z.Warmed39 U.vm ∧ U.heap = h0) (fun _ _ _ _ _ => True) (fun _ U o U' => ∃ v L, o = .returned v ∧ Q_rm8 Z o0 t u len i h0 n0 v U'.heap L ∧ FrameEnd U o U' L ({ frames := 4, cells := 1, slots := 2 * (own_g len (i / 64 + 1) - len), locals := 61 } : Room).cells ({ frames := 4, cells := 1, slots := 2 * (own_g len (i / 64 + 1) - len), locals := 61 } : Room).slots) := by
  refine MetFree.of_bodySF (plainFor_of_name pn_5) hisR ?_
  intro p e s m args below meth c s₁ Bd hml0 hP hK
  obtain ⟨rfl, hZ, hh⟩ := hP
  have hx := Bd.exec
  have hby := Bd.bytes
  have hml : c.maxLocals = 3 := hml0
  have hown : s.vm.findClass "java/util/BitSet" = some m.cls := findClass_of_methodNamed Bd.named
  have hnm := (name_of_methodNamed Bd.named Bd.method).1
  have X0 : Stand p l e ({ frames := 4, cells := 1, slots := 2 * (own_g len (i / 64 + 1) - len), locals := 61 } : Room) s m #[(.ref o0), (.int (Int32.ofNat i))] below meth c s₁ [] 0 0 := Stand.of_body Bd
  have e0 : s₁.heap = h0 := by rw [← hh, Bd.state]; rfl
  have N0 := Fr.nil n0
  have c0 : ∀ τ, Steps p.tables e below (s₁.setTop (mkF m 0 #[.val (.ref o0), .val (.int (Int32.ofNat i)), .unset] [])) τ → Steps p.tables e below (s₁.setTop (entryFrame m #[(.ref o0), (.int (Int32.ofNat i))] 3)) τ := fun τ κ => castTop (ef_rm8 m o0 (Int32.ofNat i)) κ
  obtain ⟨E, Fu, ⟨sx, Fs⟩, Fw, ⟨ka, vs, FV, hvl⟩, hul, hl1, hl2, g0, gt⟩ := id B
  have ne_o0_t : o0 ≠ t := own_ne_ea E (hw _ (List.mem_of_getElem? (i := 15) rfl)) FV
  have c1 : ∀ τ, Steps p.tables e below (s₁.setTop (mkF m 32 #[.val (.ref o0), .val (.int (Int32.ofNat i)), .unset] [(.int (Int32.ofNat i))])) τ → Steps p.tables e below (s₁.setTop (entryFrame m #[(.ref o0), (.int (Int32.ofNat i))] 3)) τ := fun τ κ => c0 τ (by
      show Steps p.tables e below (s₁.setTop (mkF m 0 #[.val (.ref o0), .val (.int (Int32.ofNat i)), .unset] [])) _
      refine XS.iloadN X0.here hx rfl (hb hby d8_0) rfl ?_
      show Steps p.tables e below (s₁.setTop (mkF m 1 #[.val (.ref o0), .val (.int (Int32.ofNat i)), .unset] [(.int (Int32.ofNat i))])) _
      refine XS.ifYes X0.here hx rfl (pc0 := 1) (pc' := 31) rfl (hb hby d8_1) rfl ((if0 _ _).trans (flt (own_nn (by omega))).2.1) (by decide) (by decide) ?_
      show Steps p.tables e below (s₁.setTop (mkF m 31 #[.val (.ref o0), .val (.int (Int32.ofNat i)), .unset] [])) _
      refine XS.iloadN X0.here hx rfl (hb hby d8_31) rfl ?_
      exact κ)
  obtain ⟨_, _, ⟨T2, L2, k2, n2⟩, -, X2, ⟨Lc2, hQ2, l2, y2, z2⟩, st2⟩ := Jvm.LawKit.callS X0 hx (y := (⟨"java/util/BitSet", "wordIndex", "(I)I"⟩ : MethodName)) hown (mvT hZ (hw _ (List.mem_of_getElem? (i := 30) rfl))) (mvT hZ (hw _ (List.mem_of_getElem? (i := 31) rfl))) (mvT hZ (hw _ (List.mem_of_getElem? (i := 16) rfl))) (mvT hZ (hw _ (List.mem_of_getElem? (i := 32) rfl))) (by decide) (backOf (W := 0) (rm6 l Z a0 hw [] (Int32.ofNat i) h0 n0 Z0) hZ (hw _ (List.mem_of_getElem? (i := 32) rfl)) (hw _ (List.mem_of_getElem? (i := 16) rfl)) (Nat.le_of_ble_eq_true rfl) (Nat.le_of_ble_eq_true rfl)) (g := (mkF m 32 #[.val (.ref o0), .val (.int (Int32.ofNat i)), .unset] [(.int (Int32.ofNat i))])) rfl (by rw [hml]; rfl) (argsL := [(.int (Int32.ofNat i))]) (rest := []) (lenOf pd_3 rfl) rfl (by show 2 * 0 + _ ≤ _; exact Nat.le_of_eq rfl) (hb hby d8_32) (fun _ _ => ⟨rfl, e0, (Nat.le_of_ble_eq_true rfl), (Nat.zero_le _)⟩)
  dsimp only [Pt.U, Pt.locs, Pt.cells, Pt.slots] at X2 l2 y2 z2 st2 hQ2
  rw [y2, z2] at X2
  obtain ⟨rfl, N2q, e2⟩ := hQ2
  have N2 : Fr n0 L2 := by rw [l2]; exact Fr.app N0 N2q
  replace X2 := X2.more (cells' := 0) (slots' := 0) (Nat.le_refl _) (Nat.le_refl _)
  replace X2 : Stand p l e _ s m _ below meth c T2 L2 0 0 := X2
  clear l2 y2 z2
  have c3 : ∀ τ, Steps p.tables e below (T2.setTop (mkF m 35 #[.val (.ref o0), .val (.int (Int32.ofNat i)), .unset] [(.int (f6_0_r (Int32.ofNat i)))])) τ → Steps p.tables e below (s₁.setTop (entryFrame m #[(.ref o0), (.int (Int32.ofNat i))] 3)) τ := fun τ κ => c1 τ (st2 τ κ)
  rw [show (f6_0_r (Int32.ofNat i)) = (Int32.ofNat (i / 64)) from own_wi hi] at c3
  have c4 : ∀ τ, Steps p.tables e below (T2.setTop (mkF m 38 #[.val (.ref o0), .val (.int (Int32.ofNat i)), .val (.int (Int32.ofNat (i / 64)))] [(.int (Int32.ofNat (i / 64))), (.ref o0)])) τ → Steps p.tables e below (s₁.setTop (entryFrame m #[(.ref o0), (.int (Int32.ofNat i))] 3)) τ := fun τ κ => c3 τ (by
      show Steps p.tables e below (T2.setTop (mkF m 35 #[.val (.ref o0), .val (.int (Int32.ofNat i)), .unset] [(.int (Int32.ofNat (i / 64)))])) _
      refine XS.istoreN X2.here hx rfl (hb hby d8_35) rfl (l' := #[.val (.ref o0), .val (.int (Int32.ofNat i)), .val (.int (Int32.ofNat (i / 64)))]) rfl ?_
      show Steps p.tables e below (T2.setTop (mkF m 36 #[.val (.ref o0), .val (.int (Int32.ofNat i)), .val (.int (Int32.ofNat (i / 64)))] [])) _
      refine XS.aloadN X2.here hx rfl (hb hby d8_36) rfl rfl ?_
      show Steps p.tables e below (T2.setTop (mkF m 37 #[.val (.ref o0), .val (.int (Int32.ofNat i)), .val (.int (Int32.ofNat (i / 64)))] [(.ref o0)])) _
      refine XS.iloadN X2.here hx rfl (hb hby d8_37) rfl ?_
      exact κ)
  obtain ⟨cq5, q5, q5'⟩ := E.cell
  obtain ⟨_, _, ⟨T5, L5, k5, n5⟩, -, X5, ⟨Lc5, hQ5, l5, y5, z5⟩, st5⟩ := X2.privateBack hx (y := (⟨"java/util/BitSet", "expandTo", "(I)V"⟩ : MethodName)) hown (mvT hZ (hw _ (List.mem_of_getElem? (i := 64) rfl))) (mvT hZ (hw _ (List.mem_of_getElem? (i := 65) rfl))) (mvT hZ (hw _ (List.mem_of_getElem? (i := 67) rfl))) (Cond.privateMethod_at (mvP hZ (hw _ (List.mem_of_getElem? (i := 66) rfl)) (args := #[]))) (mvT hZ (hw _ (List.mem_of_getElem? (i := 68) rfl))) (by decide) (backOf (W := 0) (rm9 l Z a0 hw [] o0 t u len (i / 64) h0 n0 Z0 B (by omega)) hZ (hw _ (List.mem_of_getElem? (i := 68) rfl)) (hw _ (List.mem_of_getElem? (i := 16) rfl)) (Nat.le_of_ble_eq_true rfl) (Nat.le_of_ble_eq_true rfl)) (g := (mkF m 38 #[.val (.ref o0), .val (.int (Int32.ofNat i)), .val (.int (Int32.ofNat (i / 64)))] [(.int (Int32.ofNat (i / 64))), (.ref o0)])) rfl (by rw [hml]; rfl) (Steps.refl _) (a := o0) (by rw [e2]; exact q5) q5' (argsL := [(.int (Int32.ofNat (i / 64)))]) (rest := []) (lenOf pd_4 rfl) rfl (by show 2 * 0 + _ ≤ _; exact Nat.le_of_eq rfl) (hb hby d8_38) (fun _ _ => ⟨rfl, e2, (Nat.le_of_ble_eq_true rfl), (Nat.le_of_eq (Nat.zero_add _))⟩)
  dsimp only [Pt.U, Pt.locs, Pt.cells, Pt.slots] at X5 l5 y5 z5 st5 hQ5
  rw [y5, z5] at X5
  obtain ⟨rfl, N5q, t', u', K5q, B', hu', ht'⟩ := hQ5
  have N5 : Fr n0 L5 := by rw [l5]; exact Fr.app N2 N5q
  replace X5 := X5.more (cells' := 1) (slots' := (0 + 2 * (own_g len (i / 64 + 1) - len))) (Nat.le_refl _) (Nat.le_refl _)
  replace X5 : Stand p l e _ s m _ below meth c T5 L5 1 (0 + 2 * (own_g len (i / 64 + 1) - len)) := X5
  clear l5 y5 z5
  have Z5 : n0 ≤ T5.heap.size := Nat.le_trans Z0 K5q.1
  have K5 : Keep h0 T5.heap [o0, t] := (Keep.refl h0 [o0, t]).trans K5q (allS (Or.inl (List.mem_of_getElem? (i := 0) rfl)) all0)
  have c6 : ∀ τ, Steps p.tables e below (T5.setTop (mkF m 41 #[.val (.ref o0), .val (.int (Int32.ofNat i)), .val (.int (Int32.ofNat (i / 64)))] [])) τ → Steps p.tables e below (s₁.setTop (entryFrame m #[(.ref o0), (.int (Int32.ofNat i))] 3)) τ := fun τ κ => c4 τ (st5.trans κ)
  obtain ⟨Eb, Fub, ⟨sxb, Fsb⟩, Fwb, ⟨kab, vsb, FVb, hvlb⟩, hulb, hl1b, hl2b, g0b, gtb⟩ := id B'
  have ne_o0_t' : o0 ≠ t' := own_ne_ea Eb (hw _ (List.mem_of_getElem? (i := 15) rfl)) FVb
  have c7 : ∀ τ, Steps p.tables e below (T5.setTop (mkF m 42 #[.val (.ref o0), .val (.int (Int32.ofNat i)), .val (.int (Int32.ofNat (i / 64)))] [(.ref o0)])) τ → Steps p.tables e below (s₁.setTop (entryFrame m #[(.ref o0), (.int (Int32.ofNat i))] 3)) τ := fun τ κ => c6 τ (by
      show Steps p.tables e below (T5.setTop (mkF m 41 #[.val (.ref o0), .val (.int (Int32.ofNat i)), .val (.int (Int32.ofNat (i / 64)))] [])) _
      refine XS.aloadN X5.here hx rfl (hb hby d8_41) rfl rfl ?_
      exact κ)
  obtain ⟨T8, X8, e8, st8⟩ := getF X5 hx hZ hown (host := "") (Or.inl (hw _ (List.mem_of_getElem? (i := 34) rfl))) Via.refl rfl Fwb (g := (mkF m 42 #[.val (.ref o0), .val (.int (Int32.ofNat i)), .val (.int (Int32.ofNat (i / 64)))] [(.ref o0)])) rfl rfl (hb hby d8_42)
  have c9 : ∀ τ, Steps p.tables e below (T8.setTop (mkF m 45 #[.val (.ref o0), .val (.int (Int32.ofNat i)), .val (.int (Int32.ofNat (i / 64)))] [(.ref t')])) τ → Steps p.tables e below (s₁.setTop (entryFrame m #[(.ref o0), (.int (Int32.ofNat i))] 3)) τ := fun τ κ => c7 τ (st8 τ κ)
  have c10 : ∀ τ, Steps p.tables e below (T8.setTop (mkF m 47 #[.val (.ref o0), .val (.int (Int32.ofNat i)), .val (.int (Int32.ofNat (i / 64)))] [(.int (Int32.ofNat (i / 64))), (.ref t'), (.int (Int32.ofNat (i / 64))), (.ref t')])) τ → Steps p.tables e below (s₁.setTop (entryFrame m #[(.ref o0), (.int (Int32.ofNat i))] 3)) τ := fun τ κ => c9 τ (by
      show Steps p.tables e below (T8.setTop (mkF m 45 #[.val (.ref o0), .val (.int (Int32.ofNat i)), .val (.int (Int32.ofNat (i / 64)))] [(.ref t')])) _
      refine XS.iloadN X8.here hx rfl (hb hby d8_45) rfl ?_
      show Steps p.tables e below (T8.setTop (mkF m 46 #[.val (.ref o0), .val (.int (Int32.ofNat i)), .val (.int (Int32.ofNat (i / 64)))] [(.int (Int32.ofNat (i / 64))), (.ref t')])) _
      refine Jvm.Free.XT.dup2 X8.here hx rfl (hb hby d8_46) rfl rfl rfl ?_
      exact κ)
  have hin : ¬ (Int32.ofNat (i / 64)) < 0 ∧ (Int32.ofNat (i / 64)) < (Int32.ofNat (own_g len (i / 64 + 1))) := ⟨own_nn (by omega), own_lt (by omega) (by omega)⟩
  obtain ⟨yw, hyw⟩ := own_longat FVb hin
  have c11 : ∀ τ, Steps p.tables e below (T8.setTop (mkF m 48 #[.val (.ref o0), .val (.int (Int32.ofNat i)), .val (.int (Int32.ofNat (i / 64)))] [(.long yw), (.int (Int32.ofNat (i / 64))), (.ref t')])) τ → Steps p.tables e below (s₁.setTop (entryFrame m #[(.ref o0), (.int (Int32.ofNat i))] 3)) τ := fun τ κ => c10 τ (own_laload X8 hx hZ e8 FVb (j := (Int32.ofNat (i / 64))) hin (v := (.long yw)) hyw (g := (mkF m 47 #[.val (.ref o0), .val (.int (Int32.ofNat i)), .val (.int (Int32.ofNat (i / 64)))] [(.int (Int32.ofNat (i / 64))), (.ref t'), (.int (Int32.ofNat (i / 64))), (.ref t')])) rfl rfl (hb hby d8_47) _ κ)
  have c12 : ∀ τ, Steps p.tables e below (T8.setTop (mkF m 52 #[.val (.ref o0), .val (.int (Int32.ofNat i)), .val (.int (Int32.ofNat (i / 64)))] [(.long (yw ||| ((1 : Int64) <<< ((Int32.ofNat i) &&& 0x3f).toInt64))), (.int (Int32.ofNat (i / 64))), (.ref t')])) τ → Steps p.tables e below (s₁.setTop (entryFrame m #[(.ref o0), (.int (Int32.ofNat i))] 3)) τ := fun τ κ => c11 τ (by
      show Steps p.tables e below (T8.setTop (mkF m 48 #[.val (.ref o0), .val (.int (Int32.ofNat i)), .val (.int (Int32.ofNat (i / 64)))] [(.long yw), (.int (Int32.ofNat (i / 64))), (.ref t')])) _
      refine XS.lconst X8.here hx rfl (hb hby d8_48) ?_
      show Steps p.tables e below (T8.setTop (mkF m 49 #[.val (.ref o0), .val (.int (Int32.ofNat i)), .val (.int (Int32.ofNat (i / 64)))] [(.long (1 : Int64)), (.long yw), (.int (Int32.ofNat (i / 64))), (.ref t')])) _
      refine XS.iloadN X8.here hx rfl (hb hby d8_49) rfl ?_
      show Steps p.tables e below (T8.setTop (mkF m 50 #[.val (.ref o0), .val (.int (Int32.ofNat i)), .val (.int (Int32.ofNat (i / 64)))] [(.int (Int32.ofNat i)), (.long (1 : Int64)), (.long yw), (.int (Int32.ofNat (i / 64))), (.ref t')])) _
      refine XS.lshl X8.here hx rfl (hb hby d8_50) rfl ?_
      show Steps p.tables e below (T8.setTop (mkF m 51 #[.val (.ref o0), .val (.int (Int32.ofNat i)), .val (.int (Int32.ofNat (i / 64)))] [(.long ((1 : Int64) <<< ((Int32.ofNat i) &&& 0x3f).toInt64)), (.long yw), (.int (Int32.ofNat (i / 64))), (.ref t')])) _
      refine XS.lor X8.here hx rfl (hb hby d8_51) rfl ?_
      exact κ)
  obtain ⟨T13, h13, L13, X13, e13, N13, W13, V13, st13⟩ := own_stJ X8 hx hZ e8 FVb (j := (Int32.ofNat (i / 64))) hin (i / 64) (own_n32 (by omega)) (by omega) N5 gtb (g := (mkF m 52 #[.val (.ref o0), .val (.int (Int32.ofNat i)), .val (.int (Int32.ofNat (i / 64)))] [(.long (yw ||| ((1 : Int64) <<< ((Int32.ofNat i) &&& 0x3f).toInt64))), (.int (Int32.ofNat (i / 64))), (.ref t')])) rfl rfl (hb hby d8_52)
  have Z13 : n0 ≤ h13.size := Nat.le_trans Z5 (Keep.of_wr W13).1
  have K13 : Keep h0 h13 [o0, t] := K5.wr W13 (ht'.elim (fun q => Or.inl (by rw [q]; exact List.mem_of_getElem? (i := 1) rfl)) Or.inr)
  have c14 : ∀ τ, Steps p.tables e below (T13.setTop (mkF m 53 #[.val (.ref o0), .val (.int (Int32.ofNat i)), .val (.int (Int32.ofNat (i / 64)))] [])) τ → Steps p.tables e below (s₁.setTop (entryFrame m #[(.ref o0), (.int (Int32.ofNat i))] 3)) τ := fun τ κ => c12 τ (st13 τ κ)
  have f15 := ((Od.keep K5q (allS g0b all0)).wr W13 gtb)
  have c16 : ∀ τ, Steps p.tables e below (T13.setTop (mkF m 54 #[.val (.ref o0), .val (.int (Int32.ofNat i)), .val (.int (Int32.ofNat (i / 64)))] [(.ref o0)])) τ → Steps p.tables e below (s₁.setTop (entryFrame m #[(.ref o0), (.int (Int32.ofNat i))] 3)) τ := fun τ κ => c14 τ (by
      show Steps p.tables e below (T13.setTop (mkF m 53 #[.val (.ref o0), .val (.int (Int32.ofNat i)), .val (.int (Int32.ofNat (i / 64)))] [])) _
      refine XS.aloadN X13.here hx rfl (hb hby d8_53) rfl rfl ?_
      exact κ)
  have f18 := (Eb.wr W13)
  obtain ⟨cq17, q17, q17'⟩ := f18.cell
  obtain ⟨_, _, ⟨T17, L17, k17, n17⟩, -, X17, ⟨Lc17, hQ17, l17, y17, z17⟩, st17⟩ := X13.privateBack hx (y := (⟨"java/util/BitSet", "checkInvariants", "()V"⟩ : MethodName)) hown (mvT hZ (hw _ (List.mem_of_getElem? (i := 74) rfl))) (mvT hZ (hw _ (List.mem_of_getElem? (i := 75) rfl))) (mvT hZ (hw _ (List.mem_of_getElem? (i := 77) rfl))) (Cond.privateMethod_at (mvP hZ (hw _ (List.mem_of_getElem? (i := 76) rfl)) (args := #[]))) (mvT hZ (hw _ (List.mem_of_getElem? (i := 78) rfl))) (by decide) (backOf (W := 0) (rm11 l Z a0 hw [] o0 h13 n0 Z13 (SA.ext f15.2)) hZ (hw _ (List.mem_of_getElem? (i := 78) rfl)) (hw _ (List.mem_of_getElem? (i := 16) rfl)) (Nat.le_of_ble_eq_true rfl) (Nat.le_of_ble_eq_true rfl)) (g := (mkF m 54 #[.val (.ref o0), .val (.int (Int32.ofNat i)), .val (.int (Int32.ofNat (i / 64)))] [(.ref o0)])) rfl (by rw [hml]; rfl) (Steps.refl _) (a := o0) (by rw [e13]; exact q17) q17' (argsL := []) (rest := []) (lenOf pd_2 rfl) rfl (by show 2 * 0 + _ ≤ _; exact Nat.le_of_eq rfl) (hb hby d8_54) (fun _ _ => ⟨rfl, e13, (Nat.le_of_ble_eq_true rfl), (by show 0 + 2 * (own_g len (i / 64 + 1) - len) + 0 ≤ 2 * (own_g len (i / 64 + 1) - len); omega)⟩)
  dsimp only [Pt.U, Pt.locs, Pt.cells, Pt.slots] at X17 l17 y17 z17 st17 hQ17
  rw [y17, z17] at X17
  obtain ⟨rfl, N17q, e17⟩ := hQ17
  have N17 : Fr n0 L17 := by rw [l17]; exact Fr.app N13 N17q
  replace X17 := X17.more (cells' := 1) (slots' := (0 + 2 * (own_g len (i / 64 + 1) - len))) (Nat.le_refl _) (Nat.le_refl _)
  replace X17 : Stand p l e _ s m _ below meth c T17 L17 1 (0 + 2 * (own_g len (i / 64 + 1) - len)) := X17
  clear l17 y17 z17
  have c19 : ∀ τ, Steps p.tables e below (T17.setTop (mkF m 57 #[.val (.ref o0), .val (.int (Int32.ofNat i)), .val (.int (Int32.ofNat (i / 64)))] [])) τ → Steps p.tables e below (s₁.setTop (entryFrame m #[(.ref o0), (.int (Int32.ofNat i))] 3)) τ := fun τ κ => c16 τ (st17.trans κ)
  have f20 := (Fub.other W13 (Or.inl ne_o0_t'))
  have f21 := (Fsb.other W13 (Or.inl ne_o0_t'))
  have f22 := (Fwb.other W13 (Or.inl ne_o0_t'))
  obtain ⟨fs, hr, hrun, hended, hW, hsame⟩ := X17.leave (v := none) (fun _ => rfl)
  refine ⟨_, _, c19 _ (X17.returnOut hx Bd.returns (hb hby d8_57) hr), hrun, hended, _, _, rfl, ?_, ⟨_, rfl⟩, hW, hsame.mono (Nat.le_of_ble_eq_true rfl) (Nat.le_of_eq (Nat.zero_add _))⟩
  show Q_rm8 Z o0 t u len i h0 n0 _ T17.heap _
  rw [e17]
  exact ⟨rfl, N17, t', u', K13, ⟨f18, f20, ⟨_, f21⟩, f22, ⟨_, _, V13, by rw [List.length_set]; exact hvlb⟩, by omega, by omega, by omega, g0b, gtb⟩, ht'⟩
theorem d5_0 : decode jdk_92_method_6_code 0 = .ok (.aload_n 0, 1) := by decide +kernel
theorem d5_1 : decode jdk_92_method_6_code 1 = .ok (.iload_n 1, 1) := by decide +kernel
theorem d5_2 : decode jdk_92_method_6_code 2 = .ok (.iconst 1, 1) := by decide +kernel
theorem d5_3 : decode jdk_92_method_6_code 3 = .ok (.isub, 1) := by decide +kernel
theorem d5_4 : decode jdk_92_method_6_code 4 = .ok (.invokestatic 52, 3) := by decide +kernel
theorem d5_7 : decode jdk_92_method_6_code 7 = .ok (.iconst 1, 1) := by decide +kernel
theorem d5_8 : decode jdk_92_method_6_code 8 = .ok (.iadd, 1) := by decide +kernel
theorem d5_9 : decode jdk_92_method_6_code 9 = .ok (.newarray .long, 2) := by decide +kernel
theorem d5_11 : decode jdk_92_method_6_code 11 = .ok (.putfield 11, 3) := by decide +kernel
theorem d5_14 : decode jdk_92_method_6_code 14 = .ok (.return_, 1) := by decide +kernel
theorem ef_rm5 (m : MethodId) (x0 : Addr) (x1 : Int32) : entryFrame m #[(.ref x0), (.int x1)] 2 = mkF m 0 #[.val (.ref x0), .val (.int x1)] [] := by first | (simp [entryFrame, mkF, argsToLocals, Value.category]; done) | rfl
def Q_rm5 (Z : State) (o0 : Addr) (sx : Int32) (h0 : Heap) (n0 : Nat) (v : Option Value) (h : Heap) (L : List Loc) : Prop := v = none ∧ Fr n0 L ∧ ∃ t' : Addr, Keep h0 h [o0] ∧ own_B Z h o0 t' 0 1 n0 ∧ h0.size ≤ t'
set_option maxRecDepth 65536 in
set_option maxHeartbeats 40000000 in
theorem rm5 (l : Launch) (Z : State) (a0 : Array Value) (hw : ∀ d ∈ tables_1, d.before a0 Z = true) (ws : List Jvm.Cond) (o0 : Addr) (sx : Int32) (h0 : Heap) (n0 : Nat) (Z0 : n0 ≤ h0.size) (E : Exa Z h0 o0 "java/util/BitSet") (Fu : Fld Z h0 o0 "java/util/BitSet" "wordsInUse" "I" (.int (0 : Int32))) (Fs : Fld Z h0 o0 "java/util/BitSet" "sizeIsSticky" "Z" (.int sx)) (Fw : Fld Z h0 o0 "java/util/BitSet" "words" "[J" .null) (g0 : n0 ≤ o0) :
    MetFree l (⟨"java/util/BitSet", "initWords", "(I)V"⟩ : MethodName) (head1 (Jvm.Cond.code (⟨"java/util/BitSet", "initWords", "(I)V"⟩ : MethodName) jdk_92_method_6_code 2 none :: ws) ({ frames := 1, cells := 1, slots := 1, locals := 13 } : Room)) (fun a U => a = #[(.ref o0), (.int (64 : Int32))] ∧ Z.Warmed39 U.vm ∧ U.heap = h0) (fun _ _ _ _ _ => True) (fun _ U o U' => ∃ v L, o = .returned v ∧ Q_rm5 Z o0 sx h0 n0 v U'.heap L ∧ FrameEnd U o U' L ({ frames := 1, cells := 1, slots := 1, locals := 13 } : Room).cells ({ frames := 1, cells := 1, slots := 1, locals := 13 } : Room).slots) := by
  refine MetFree.of_bodySF (plainFor_of_name pn_5) hisR ?_
  intro p e s m args below meth c s₁ Bd hml0 hP hK
  obtain ⟨rfl, hZ, hh⟩ := hP
  have hx := Bd.exec
  have hby := Bd.bytes
  have hml : c.maxLocals = 2 := hml0
  have hown : s.vm.findClass "java/util/BitSet" = some m.cls := findClass_of_methodNamed Bd.named
  have hnm := (name_of_methodNamed Bd.named Bd.method).1
  have X0 : Stand p l e ({ frames := 1, cells := 1, slots := 1, locals := 13 } : Room) s m #[(.ref o0), (.int (64 : Int32))] below meth c s₁ [] 0 0 := Stand.of_body Bd
  have e0 : s₁.heap = h0 := by rw [← hh, Bd.state]; rfl
  have N0 := Fr.nil n0
  have c0 : ∀ τ, Steps p.tables e below (s₁.setTop (mkF m 0 #[.val (.ref o0), .val (.int (64 : Int32))] [])) τ → Steps p.tables e below (s₁.setTop (entryFrame m #[(.ref o0), (.int (64 : Int32))] 2)) τ := fun τ κ => castTop (ef_rm5 m o0 (64 : Int32)) κ
  have c1 : ∀ τ, Steps p.tables e below (s₁.setTop (mkF m 4 #[.val (.ref o0), .val (.int (64 : Int32))] [(.int ((64 : Int32) - (1 : Int32))), (.ref o0)])) τ → Steps p.tables e below (s₁.setTop (entryFrame m #[(.ref o0), (.int (64 : Int32))] 2)) τ := fun τ κ => c0 τ (by
      show Steps p.tables e below (s₁.setTop (mkF m 0 #[.val (.ref o0), .val (.int (64 : Int32))] [])) _
      refine XS.aloadN X0.here hx rfl (hb hby d5_0) rfl rfl ?_
      show Steps p.tables e below (s₁.setTop (mkF m 1 #[.val (.ref o0), .val (.int (64 : Int32))] [(.ref o0)])) _
      refine XS.iloadN X0.here hx rfl (hb hby d5_1) rfl ?_
      show Steps p.tables e below (s₁.setTop (mkF m 2 #[.val (.ref o0), .val (.int (64 : Int32))] [(.int (64 : Int32)), (.ref o0)])) _
      refine XS.iconst X0.here hx rfl (hb hby d5_2) ?_
      show Steps p.tables e below (s₁.setTop (mkF m 3 #[.val (.ref o0), .val (.int (64 : Int32))] [(.int (1 : Int32)), (.int (64 : Int32)), (.ref o0)])) _
      refine XS.isub X0.here hx rfl (hb hby d5_3) rfl ?_
      exact κ)
  obtain ⟨_, _, ⟨T2, L2, k2, n2⟩, -, X2, ⟨Lc2, hQ2, l2, y2, z2⟩, st2⟩ := Jvm.LawKit.callS X0 hx (y := (⟨"java/util/BitSet", "wordIndex", "(I)I"⟩ : MethodName)) hown (mvT hZ (hw _ (List.mem_of_getElem? (i := 30) rfl))) (mvT hZ (hw _ (List.mem_of_getElem? (i := 31) rfl))) (mvT hZ (hw _ (List.mem_of_getElem? (i := 16) rfl))) (mvT hZ (hw _ (List.mem_of_getElem? (i := 32) rfl))) (by decide) (backOf (W := 1) (rm6 l Z a0 hw [] ((64 : Int32) - (1 : Int32)) h0 n0 Z0) hZ (hw _ (List.mem_of_getElem? (i := 32) rfl)) (hw _ (List.mem_of_getElem? (i := 16) rfl)) (by decide) (by decide)) (g := (mkF m 4 #[.val (.ref o0), .val (.int (64 : Int32))] [(.int ((64 : Int32) - (1 : Int32))), (.ref o0)])) rfl (by rw [hml]; rfl) (argsL := [(.int ((64 : Int32) - (1 : Int32)))]) (rest := [(.ref o0)]) (lenOf pd_3 rfl) rfl (by show 2 * 0 + _ ≤ _; exact Nat.le_of_eq rfl) (hb hby d5_4) (fun _ _ => ⟨rfl, e0, (by decide : 0 + 0 ≤ _), (by decide : 0 + 0 ≤ _)⟩)
  dsimp only [Pt.U, Pt.locs, Pt.cells, Pt.slots] at X2 l2 y2 z2 st2 hQ2
  rw [y2, z2] at X2
  obtain ⟨rfl, N2q, e2⟩ := hQ2
  have N2 : Fr n0 L2 := by rw [l2]; exact Fr.app N0 N2q
  replace X2 : Stand p l e _ s m _ below meth c T2 L2 0 0 := X2
  clear l2 y2 z2
  have c3 : ∀ τ, Steps p.tables e below (T2.setTop (mkF m 7 #[.val (.ref o0), .val (.int (64 : Int32))] [(.int (f6_0_r ((64 : Int32) - (1 : Int32)))), (.ref o0)])) τ → Steps p.tables e below (s₁.setTop (entryFrame m #[(.ref o0), (.int (64 : Int32))] 2)) τ := fun τ κ => c1 τ (st2 τ κ)
  have c4 : ∀ τ, Steps p.tables e below (T2.setTop (mkF m 9 #[.val (.ref o0), .val (.int (64 : Int32))] [(.int ((f6_0_r ((64 : Int32) - (1 : Int32))) + (1 : Int32))), (.ref o0)])) τ → Steps p.tables e below (s₁.setTop (entryFrame m #[(.ref o0), (.int (64 : Int32))] 2)) τ := fun τ κ => c3 τ (by
      show Steps p.tables e below (T2.setTop (mkF m 7 #[.val (.ref o0), .val (.int (64 : Int32))] [(.int (f6_0_r ((64 : Int32) - (1 : Int32)))), (.ref o0)])) _
      refine XS.iconst X2.here hx rfl (hb hby d5_7) ?_
      show Steps p.tables e below (T2.setTop (mkF m 8 #[.val (.ref o0), .val (.int (64 : Int32))] [(.int (1 : Int32)), (.int (f6_0_r ((64 : Int32) - (1 : Int32)))), (.ref o0)])) _
      refine XS.iadd X2.here hx rfl (hb hby d5_8) rfl ?_
      exact κ)
  rw [show ((f6_0_r ((64 : Int32) - (1 : Int32))) + (1 : Int32)) = (1 : Int32) from (by decide)] at c4
  obtain ⟨T5, h5, k5, X5, e5, E5, A5, st5⟩ := newP X2 hx hZ (hw _ (List.mem_of_getElem? (i := 33) rfl)) e2 (g := (mkF m 9 #[.val (.ref o0), .val (.int (64 : Int32))] [(.int (1 : Int32)), (.ref o0)])) rfl (hb hby d5_9) rfl (by decide) (cap := 1) (by decide) (by decide) (by decide) (by decide)
  obtain ⟨b5, g5⟩ : ∃ z, z = h0.size := ⟨_, rfl⟩
  rw [← g5] at A5 st5
  have gb5 : n0 ≤ b5 := Nat.le_trans Z0 (Nat.le_of_eq g5.symm)
  have ne_o0_b5 : o0 ≠ b5 := Nat.ne_of_lt (Nat.lt_of_lt_of_le E.lt (Nat.le_of_eq g5.symm))
  have V5 : Arv Z h5 b5 k5 .long (1 : Int32) [(.long (0 : Int64))] (.long (0 : Int64)) := (Arv.new A5 (by decide)).pad (pad_rep [] (.long (0 : Int64)) 1)
  have Z5 : n0 ≤ h5.size := Nat.le_trans Z0 E5.1
  have sz5 : h0.size ≤ b5 := Nat.le_trans (Keep.refl h0 [o0]).1 (Nat.le_of_eq g5.symm)
  have K5 : Keep h0 h5 [o0] := (Keep.refl h0 [o0]).ext E5
  have c6 : ∀ τ, Steps p.tables e below (T5.setTop (mkF m 11 #[.val (.ref o0), .val (.int (64 : Int32))] [(.ref b5), (.ref o0)])) τ → Steps p.tables e below (s₁.setTop (entryFrame m #[(.ref o0), (.int (64 : Int32))] 2)) τ := fun τ κ => c4 τ (st5 τ κ)
  have f8 := (Fw.ext E5)
  have f9 := (E.ext E5)
  obtain ⟨T7, h7, X7, e7, W7, st7⟩ := putF X5 hx hZ hown (host := "") (Or.inl (hw _ (List.mem_of_getElem? (i := 34) rfl))) Via.refl e5 f8 f9 (Or.inl (hw _ (List.mem_of_getElem? (i := 35) rfl))) (hw _ (List.mem_of_getElem? (i := 15) rfl)) (ty := (.array .long)) (by decide) rfl rfl (g := (mkF m 11 #[.val (.ref o0), .val (.int (64 : Int32))] [(.ref b5), (.ref o0)])) rfl rfl (hb hby d5_11)
  have F7 := f8.same W7
  have N7 := Fr.snoc X7 N2 g0
  have Z7 : n0 ≤ h7.size := Nat.le_trans Z5 (Keep.of_wr W7).1
  have K7 : Keep h0 h7 [o0] := K5.wr W7 (Or.inl (List.mem_of_getElem? (i := 0) rfl))
  have c10 : ∀ τ, Steps p.tables e below (T7.setTop (mkF m 14 #[.val (.ref o0), .val (.int (64 : Int32))] [])) τ → Steps p.tables e below (s₁.setTop (entryFrame m #[(.ref o0), (.int (64 : Int32))] 2)) τ := fun τ κ => c6 τ (st7 τ κ)
  have f11 := (f9.wr W7)
  have f12 := ((Fu.ext E5).other W7 (Or.inr (slot_ne (Or.inl (hw _ (List.mem_of_getElem? (i := 22) rfl))) (Or.inl (hw _ (List.mem_of_getElem? (i := 35) rfl))) (by decide) (t := .int) (t' := (.array .long)) (by decide) (by decide))))
  have f13 := ((Fs.ext E5).other W7 (Or.inr (slot_ne (Or.inl (hw _ (List.mem_of_getElem? (i := 24) rfl))) (Or.inl (hw _ (List.mem_of_getElem? (i := 35) rfl))) (by decide) (t := .boolean) (t' := (.array .long)) (by decide) (by decide))))
  have f14 := (V5.other W7 (Ne.symm ne_o0_b5))
  obtain ⟨fs, hr, hrun, hended, hW, hsame⟩ := X7.leave (v := none) (fun _ => rfl)
  refine ⟨_, _, c10 _ (X7.returnOut hx Bd.returns (hb hby d5_14) hr), hrun, hended, _, _, rfl, ?_, ⟨_, rfl⟩, hW, hsame.mono (by decide) (by decide)⟩
  show Q_rm5 Z o0 sx h0 n0 _ T7.heap _
  rw [e7]
  exact ⟨rfl, N7, b5, K7, ⟨f11, f12, ⟨_, f13⟩, F7, ⟨_, _, f14, rfl⟩, by decide, by decide, by decide, g0, gb5⟩, sz5⟩
theorem d4_0 : decode jdk_92_method_4_code 0 = .ok (.aload_n 0, 1) := by decide +kernel
theorem d4_1 : decode jdk_92_method_4_code 1 = .ok (.invokespecial 21, 3) := by decide +kernel
theorem d4_4 : decode jdk_92_method_4_code 4 = .ok (.aload_n 0, 1) := by decide +kernel
theorem d4_5 : decode jdk_92_method_4_code 5 = .ok (.iconst 0, 1) := by decide +kernel
theorem d4_6 : decode jdk_92_method_4_code 6 = .ok (.putfield 7, 3) := by decide +kernel
theorem d4_9 : decode jdk_92_method_4_code 9 = .ok (.aload_n 0, 1) := by decide +kernel
theorem d4_10 : decode jdk_92_method_4_code 10 = .ok (.iconst 0, 1) := by decide +kernel
theorem d4_11 : decode jdk_92_method_4_code 11 = .ok (.putfield 24, 3) := by decide +kernel
theorem d4_14 : decode jdk_92_method_4_code 14 = .ok (.aload_n 0, 1) := by decide +kernel
theorem d4_15 : decode jdk_92_method_4_code 15 = .ok (.bipush 64, 2) := by decide +kernel
theorem d4_17 : decode jdk_92_method_4_code 17 = .ok (.invokevirtual 27, 3) := by decide +kernel
theorem d4_20 : decode jdk_92_method_4_code 20 = .ok (.aload_n 0, 1) := by decide +kernel
theorem d4_21 : decode jdk_92_method_4_code 21 = .ok (.iconst 0, 1) := by decide +kernel
theorem d4_22 : decode jdk_92_method_4_code 22 = .ok (.putfield 24, 3) := by decide +kernel
theorem d4_25 : decode jdk_92_method_4_code 25 = .ok (.return_, 1) := by decide +kernel
theorem ef_rm4 (m : MethodId) (x0 : Addr) : entryFrame m #[(.ref x0)] 1 = mkF m 0 #[.val (.ref x0)] [] := by first | (simp [entryFrame, mkF, argsToLocals, Value.category]; done) | rfl
def Q_rm4 (Z : State) (o0 : Addr) (h0 : Heap) (n0 : Nat) (v : Option Value) (h : Heap) (L : List Loc) : Prop := v = none ∧ Fr n0 L ∧ ∃ t' : Addr, Keep h0 h [o0] ∧ own_B Z h o0 t' 0 1 n0 ∧ h0.size ≤ t'
set_option maxRecDepth 65536 in
set_option maxHeartbeats 40000000 in
theorem rm4 (l : Launch) (Z : State) (a0 : Array Value) (hw : ∀ d ∈ tables_1, d.before a0 Z = true) (ws : List Jvm.Cond) (o0 : Addr) (h0 : Heap) (n0 : Nat) (Z0 : n0 ≤ h0.size) (E : Exa Z h0 o0 "java/util/BitSet") (Fu : Fld Z h0 o0 "java/util/BitSet" "wordsInUse" "I" (.int (0 : Int32))) (Fs : Fld Z h0 o0 "java/util/BitSet" "sizeIsSticky" "Z" (.int (0 : Int32))) (Fw : Fld Z h0 o0 "java/util/BitSet" "words" "[J" .null) (g0 : n0 ≤ o0) :
    MetFree l (⟨"java/util/BitSet", "<init>", "()V"⟩ : MethodName) (head1 (Jvm.Cond.code (⟨"java/util/BitSet", "<init>", "()V"⟩ : MethodName) jdk_92_method_4_code 1 none :: ws) ({ frames := 2, cells := 1, slots := 1, locals := 26 } : Room)) (fun a U => a = #[(.ref o0)] ∧ Z.Warmed39 U.vm ∧ U.heap = h0) (fun _ _ _ _ _ => True) (fun _ U o U' => ∃ v L, o = .returned v ∧ Q_rm4 Z o0 h0 n0 v U'.heap L ∧ FrameEnd U o U' L ({ frames := 2, cells := 1, slots := 1, locals := 26 } : Room).cells ({ frames := 2, cells := 1, slots := 1, locals := 26 } : Room).slots) := by
  refine MetFree.of_bodySF (plainFor_of_name pn_5) hisR ?_
  intro p e s m args below meth c s₁ Bd hml0 hP hK
  obtain ⟨rfl, hZ, hh⟩ := hP
  have hx := Bd.exec
  have hby := Bd.bytes
  have hml : c.maxLocals = 1 := hml0
  have hown : s.vm.findClass "java/util/BitSet" = some m.cls := findClass_of_methodNamed Bd.named
  have hnm := (name_of_methodNamed Bd.named Bd.method).1
  have X0 : Stand p l e ({ frames := 2, cells := 1, slots := 1, locals := 26 } : Room) s m #[(.ref o0)] below meth c s₁ [] 0 0 := Stand.of_body Bd
  have e0 : s₁.heap = h0 := by rw [← hh, Bd.state]; rfl
  have N0 := Fr.nil n0
  have c0 : ∀ τ, Steps p.tables e below (s₁.setTop (mkF m 0 #[.val (.ref o0)] [])) τ → Steps p.tables e below (s₁.setTop (entryFrame m #[(.ref o0)] 1)) τ := fun τ κ => castTop (ef_rm4 m o0) κ
  have c1 : ∀ τ, Steps p.tables e below (s₁.setTop (mkF m 1 #[.val (.ref o0)] [(.ref o0)])) τ → Steps p.tables e below (s₁.setTop (entryFrame m #[(.ref o0)] 1)) τ := fun τ κ => c0 τ (by
      show Steps p.tables e below (s₁.setTop (mkF m 0 #[.val (.ref o0)] [])) _
      refine XS.aloadN X0.here hx rfl (hb hby d4_0) rfl rfl ?_
      exact κ)
  obtain ⟨T2, X2, e2, st2⟩ := initO X0 hx hZ hown (hw _ (List.mem_of_getElem? (i := 20) rfl)) (hw _ (List.mem_of_getElem? (i := 12) rfl)) (hw _ (List.mem_of_getElem? (i := 13) rfl)) e0 (g := (mkF m 1 #[.val (.ref o0)] [(.ref o0)])) rfl (by rw [hml]; rfl) rfl (hb hby d4_1) (by decide) (W := 0) (by show 2 * 0 + _ ≤ _; exact Nat.le_of_eq rfl) (by decide)
  have c3 : ∀ τ, Steps p.tables e below (T2.setTop (mkF m 4 #[.val (.ref o0)] [])) τ → Steps p.tables e below (s₁.setTop (entryFrame m #[(.ref o0)] 1)) τ := fun τ κ => c1 τ (st2 τ κ)
  have c4 : ∀ τ, Steps p.tables e below (T2.setTop (mkF m 6 #[.val (.ref o0)] [(.int (0 : Int32)), (.ref o0)])) τ → Steps p.tables e below (s₁.setTop (entryFrame m #[(.ref o0)] 1)) τ := fun τ κ => c3 τ (by
      show Steps p.tables e below (T2.setTop (mkF m 4 #[.val (.ref o0)] [])) _
      refine XS.aloadN X2.here hx rfl (hb hby d4_4) rfl rfl ?_
      show Steps p.tables e below (T2.setTop (mkF m 5 #[.val (.ref o0)] [(.ref o0)])) _
      refine XS.iconst X2.here hx rfl (hb hby d4_5) ?_
      exact κ)
  obtain ⟨T5, h5, X5, e5, W5, st5⟩ := putF X2 hx hZ hown (host := "") (Or.inl (hw _ (List.mem_of_getElem? (i := 21) rfl))) Via.refl e2 Fu E (Or.inl (hw _ (List.mem_of_getElem? (i := 22) rfl))) (hw _ (List.mem_of_getElem? (i := 15) rfl)) (ty := .int) (by decide) rfl rfl (g := (mkF m 6 #[.val (.ref o0)] [(.int (0 : Int32)), (.ref o0)])) rfl rfl (hb hby d4_6)
  have F5 := Fu.same W5
  have N5 := Fr.snoc X5 N0 g0
  have Z5 : n0 ≤ h5.size := Nat.le_trans Z0 (Keep.of_wr W5).1
  have K5 : Keep h0 h5 [o0] := (Keep.refl h0 [o0]).wr W5 (Or.inl (List.mem_of_getElem? (i := 0) rfl))
  have c6 : ∀ τ, Steps p.tables e below (T5.setTop (mkF m 9 #[.val (.ref o0)] [])) τ → Steps p.tables e below (s₁.setTop (entryFrame m #[(.ref o0)] 1)) τ := fun τ κ => c4 τ (st5 τ κ)
  have c7 : ∀ τ, Steps p.tables e below (T5.setTop (mkF m 11 #[.val (.ref o0)] [(.int (0 : Int32)), (.ref o0)])) τ → Steps p.tables e below (s₁.setTop (entryFrame m #[(.ref o0)] 1)) τ := fun τ κ => c6 τ (by
      show Steps p.tables e below (T5.setTop (mkF m 9 #[.val (.ref o0)] [])) _
      refine XS.aloadN X5.here hx rfl (hb hby d4_9) rfl rfl ?_
      show Steps p.tables e below (T5.setTop (mkF m 10 #[.val (.ref o0)] [(.ref o0)])) _
      refine XS.iconst X5.here hx rfl (hb hby d4_10) ?_
      exact κ)
  have f9 := (Fs.other W5 (Or.inr (slot_ne (Or.inl (hw _ (List.mem_of_getElem? (i := 24) rfl))) (Or.inl (hw _ (List.mem_of_getElem? (i := 22) rfl))) (by decide) (t := .boolean) (t' := .int) (by decide) (by decide))))
  have f10 := (E.wr W5)
  obtain ⟨T8, h8, X8, e8, W8, st8⟩ := putFN X5 hx hZ hown (hw _ (List.mem_of_getElem? (i := 23) rfl)) Via.refl e5 f9 f10 (Or.inl (hw _ (List.mem_of_getElem? (i := 24) rfl))) (hw _ (List.mem_of_getElem? (i := 15) rfl)) (ty := .boolean) (v' := (.int (nar .boolean (0 : Int32)))) (by decide) rfl (fits_nar_bool _) (g := (mkF m 11 #[.val (.ref o0)] [(.int (0 : Int32)), (.ref o0)])) rfl rfl (hb hby d4_11)
  have F8 := f9.same W8
  have N8 := Fr.snoc X8 N5 g0
  have Z8 : n0 ≤ h8.size := Nat.le_trans Z5 (Keep.of_wr W8).1
  have K8 : Keep h0 h8 [o0] := K5.wr W8 (Or.inl (List.mem_of_getElem? (i := 0) rfl))
  have c11 : ∀ τ, Steps p.tables e below (T8.setTop (mkF m 14 #[.val (.ref o0)] [])) τ → Steps p.tables e below (s₁.setTop (entryFrame m #[(.ref o0)] 1)) τ := fun τ κ => c7 τ (st8 τ κ)
  have f12 := (f10.wr W8)
  have f13 := (F5.other W8 (Or.inr (slot_ne (Or.inl (hw _ (List.mem_of_getElem? (i := 22) rfl))) (Or.inl (hw _ (List.mem_of_getElem? (i := 24) rfl))) (by decide) (t := .int) (t' := .boolean) (by decide) (by decide))))
  have f14 := ((Fw.other W5 (Or.inr (slot_ne (Or.inl (hw _ (List.mem_of_getElem? (i := 35) rfl))) (Or.inl (hw _ (List.mem_of_getElem? (i := 22) rfl))) (by decide) (t := (.array .long)) (t' := .int) (by decide) (by decide)))).other W8 (Or.inr (slot_ne (Or.inl (hw _ (List.mem_of_getElem? (i := 35) rfl))) (Or.inl (hw _ (List.mem_of_getElem? (i := 24) rfl))) (by decide) (t := (.array .long)) (t' := .boolean) (by decide) (by decide))))
  have c15 : ∀ τ, Steps p.tables e below (T8.setTop (mkF m 17 #[.val (.ref o0)] [(.int (64 : Int32)), (.ref o0)])) τ → Steps p.tables e below (s₁.setTop (entryFrame m #[(.ref o0)] 1)) τ := fun τ κ => c11 τ (by
      show Steps p.tables e below (T8.setTop (mkF m 14 #[.val (.ref o0)] [])) _
      refine XS.aloadN X8.here hx rfl (hb hby d4_14) rfl rfl ?_
      show Steps p.tables e below (T8.setTop (mkF m 15 #[.val (.ref o0)] [(.ref o0)])) _
      refine XS.bipush X8.here hx rfl (hb hby d4_15) ?_
      exact κ)
  obtain ⟨cq16, q16, q16'⟩ := f12.cell
  obtain ⟨_, _, ⟨T16, L16, k16, n16⟩, -, X16, ⟨Lc16, hQ16, l16, y16, z16⟩, st16⟩ := X8.privateBack hx (y := (⟨"java/util/BitSet", "initWords", "(I)V"⟩ : MethodName)) hown (mvT hZ (hw _ (List.mem_of_getElem? (i := 25) rfl))) (mvT hZ (hw _ (List.mem_of_getElem? (i := 26) rfl))) (mvT hZ (hw _ (List.mem_of_getElem? (i := 28) rfl))) (Cond.privateMethod_at (mvP hZ (hw _ (List.mem_of_getElem? (i := 27) rfl)) (args := #[]))) (mvT hZ (hw _ (List.mem_of_getElem? (i := 29) rfl))) (by decide) (backOf (W := 0) (rm5 l Z a0 hw [] o0 (nar .boolean (0 : Int32)) h8 n0 Z8 f12 f13 F8 f14 g0) hZ (hw _ (List.mem_of_getElem? (i := 29) rfl)) (hw _ (List.mem_of_getElem? (i := 16) rfl)) (by decide) (by decide)) (g := (mkF m 17 #[.val (.ref o0)] [(.int (64 : Int32)), (.ref o0)])) rfl (by rw [hml]; rfl) (Steps.refl _) (a := o0) (by rw [e8]; exact q16) q16' (argsL := [(.int (64 : Int32))]) (rest := []) (lenOf pd_4 rfl) rfl (by show 2 * 0 + _ ≤ _; exact Nat.le_of_eq rfl) (hb hby d4_17) (fun _ _ => ⟨rfl, e8, (by decide : 0 + 1 ≤ _), (by decide : 0 + 1 ≤ _)⟩)
  dsimp only [Pt.U, Pt.locs, Pt.cells, Pt.slots] at X16 l16 y16 z16 st16 hQ16
  rw [y16, z16] at X16
  obtain ⟨rfl, N16q, t', K16q, B', ht'⟩ := hQ16
  have N16 : Fr n0 L16 := by rw [l16]; exact Fr.app N8 N16q
  replace X16 : Stand p l e _ s m _ below meth c T16 L16 1 1 := X16
  clear l16 y16 z16
  have Z16 : n0 ≤ T16.heap.size := Nat.le_trans Z8 K16q.1
  have K16 : Keep h0 T16.heap [o0] := K8.trans K16q (allS (Or.inl (List.mem_of_getElem? (i := 0) rfl)) all0)
  have c17 : ∀ τ, Steps p.tables e below (T16.setTop (mkF m 20 #[.val (.ref o0)] [])) τ → Steps p.tables e below (s₁.setTop (entryFrame m #[(.ref o0)] 1)) τ := fun τ κ => c15 τ (st16.trans κ)
  have hsz : h0.size ≤ t' := Nat.le_trans K8.1 ht'
  obtain ⟨Eb, Fub, ⟨sxb, Fsb⟩, Fwb, ⟨kab, vsb, FVb, hvlb⟩, hulb, hl1b, hl2b, g0b, gtb⟩ := id B'
  have ne_o0_t' : o0 ≠ t' := own_ne_ea Eb (hw _ (List.mem_of_getElem? (i := 15) rfl)) FVb
  have c18 : ∀ τ, Steps p.tables e below (T16.setTop (mkF m 22 #[.val (.ref o0)] [(.int (0 : Int32)), (.ref o0)])) τ → Steps p.tables e below (s₁.setTop (entryFrame m #[(.ref o0)] 1)) τ := fun τ κ => c17 τ (by
      show Steps p.tables e below (T16.setTop (mkF m 20 #[.val (.ref o0)] [])) _
      refine XS.aloadN X16.here hx rfl (hb hby d4_20) rfl rfl ?_
      show Steps p.tables e below (T16.setTop (mkF m 21 #[.val (.ref o0)] [(.ref o0)])) _
      refine XS.iconst X16.here hx rfl (hb hby d4_21) ?_
      exact κ)
  obtain ⟨T19, h19, X19, e19, W19, st19⟩ := putFN X16 hx hZ hown (hw _ (List.mem_of_getElem? (i := 23) rfl)) Via.refl rfl Fsb Eb (Or.inl (hw _ (List.mem_of_getElem? (i := 24) rfl))) (hw _ (List.mem_of_getElem? (i := 15) rfl)) (ty := .boolean) (v' := (.int (nar .boolean (0 : Int32)))) (by decide) rfl (fits_nar_bool _) (g := (mkF m 22 #[.val (.ref o0)] [(.int (0 : Int32)), (.ref o0)])) rfl rfl (hb hby d4_22)
  have F19 := Fsb.same W19
  have N19 := Fr.snoc X19 N16 g0b
  have Z19 : n0 ≤ h19.size := Nat.le_trans Z16 (Keep.of_wr W19).1
  have K19 : Keep h0 h19 [o0] := K16.wr W19 (Or.inl (List.mem_of_getElem? (i := 0) rfl))
  have c20 : ∀ τ, Steps p.tables e below (T19.setTop (mkF m 25 #[.val (.ref o0)] [])) τ → Steps p.tables e below (s₁.setTop (entryFrame m #[(.ref o0)] 1)) τ := fun τ κ => c18 τ (st19 τ κ)
  have f21 := (Eb.wr W19)
  have f22 := (Fub.other W19 (Or.inr (slot_ne (Or.inl (hw _ (List.mem_of_getElem? (i := 22) rfl))) (Or.inl (hw _ (List.mem_of_getElem? (i := 24) rfl))) (by decide) (t := .int) (t' := .boolean) (by decide) (by decide))))
  have f23 := (Fwb.other W19 (Or.inr (slot_ne (Or.inl (hw _ (List.mem_of_getElem? (i := 35) rfl))) (Or.inl (hw _ (List.mem_of_getElem? (i := 24) rfl))) (by decide) (t := (.array .long)) (t' := .boolean) (by decide) (by decide))))
  have f24 := (FVb.other W19 (Ne.symm ne_o0_t'))
  obtain ⟨fs, hr, hrun, hended, hW, hsame⟩ := X19.leave (v := none) (fun _ => rfl)
  refine ⟨_, _, c20 _ (X19.returnOut hx Bd.returns (hb hby d4_25) hr), hrun, hended, _, _, rfl, ?_, ⟨_, rfl⟩, hW, hsame.mono (by decide) (by decide)⟩
  show Q_rm4 Z o0 h0 n0 _ T19.heap _
  rw [e19]
  exact ⟨rfl, N19, t', K19, ⟨f21, f22, ⟨_, F19⟩, f23, ⟨_, _, f24, hvlb⟩, by omega, by omega, by omega, g0b, gtb⟩, hsz⟩
theorem d7_0 : decode prog_50_method_2_code 0 = .ok (.aload_n 0, 1) := by decide +kernel
theorem d7_1 : decode prog_50_method_2_code 1 = .ok (.getfield 22, 3) := by decide +kernel
theorem d7_4 : decode prog_50_method_2_code 4 = .ok (.arraylength, 1) := by decide +kernel
theorem d7_5 : decode prog_50_method_2_code 5 = .ok (.aload_n 0, 1) := by decide +kernel
theorem d7_6 : decode prog_50_method_2_code 6 = .ok (.getfield 29, 3) := by decide +kernel
theorem d7_9 : decode prog_50_method_2_code 9 = .ok (.aload_n 0, 1) := by decide +kernel
theorem d7_10 : decode prog_50_method_2_code 10 = .ok (.getfield 25, 3) := by decide +kernel
theorem d7_13 : decode prog_50_method_2_code 13 = .ok (.isub, 1) := by decide +kernel
theorem d7_14 : decode prog_50_method_2_code 14 = .ok (.isub, 1) := by decide +kernel
theorem d7_15 : decode prog_50_method_2_code 15 = .ok (.ireturn, 1) := by decide +kernel
theorem pn_1 : plainName "com/example/tapeline/tapeline/OpenTypeLayout$GlyphRun" = true := by first | (simp [plainName, overriddenIn]; done) | decide +kernel
theorem ef_rm7 (m : MethodId) (x0 : Addr) : entryFrame m #[(.ref x0)] 1 = mkF m 0 #[.val (.ref x0)] [] := by first | (simp [entryFrame, mkF, argsToLocals, Value.category]; done) | rfl
def Q_rm7 (Z : State) (o0 : Addr) (gl : Addr) (kg : ClassId) (vs : List Value) (n gs ge : Nat) (h0 : Heap) (n0 : Nat) (v : Option Value) (h : Heap) (L : List Loc) : Prop := v = some (.int ((Int32.ofNat n) - ((Int32.ofNat ge) - (Int32.ofNat gs)))) ∧ Fr n0 L ∧ h = h0
set_option maxRecDepth 65536 in
set_option maxHeartbeats 40000000 in
theorem rm7 (l : Launch) (Z : State) (a0 : Array Value) (hw : ∀ d ∈ tables_1, d.before a0 Z = true) (ws : List Jvm.Cond) (o0 : Addr) (gl : Addr) (kg : ClassId) (vs : List Value) (n gs ge : Nat) (h0 : Heap) (n0 : Nat) (Z0 : n0 ≤ h0.size) (Fg : Fld Z h0 o0 "com/example/tapeline/tapeline/OpenTypeLayout$GlyphRun" "glyphs" "[I" (.ref gl)) (F1 : Fld Z h0 o0 "com/example/tapeline/tapeline/OpenTypeLayout$GlyphRun" "gapStart" "I" (.int (Int32.ofNat gs))) (F2 : Fld Z h0 o0 "com/example/tapeline/tapeline/OpenTypeLayout$GlyphRun" "gapEnd" "I" (.int (Int32.ofNat ge))) (FV : Arv Z h0 gl kg .int (Int32.ofNat n) vs (.int (0 : Int32))) :
    MetFree l (⟨"com/example/tapeline/tapeline/OpenTypeLayout$GlyphRun", "length", "()I"⟩ : MethodName) (head1 (Jvm.Cond.code (⟨"com/example/tapeline/tapeline/OpenTypeLayout$GlyphRun", "length", "()I"⟩ : MethodName) prog_50_method_2_code 1 (some .int) :: ws) ({ frames := 0, cells := 0, slots := 0, locals := 0 } : Room)) (fun a U => a = #[(.ref o0)] ∧ Z.Warmed39 U.vm ∧ U.heap = h0) (fun _ _ _ _ _ => True) (fun _ U o U' => ∃ v L, o = .returned v ∧ Q_rm7 Z o0 gl kg vs n gs ge h0 n0 v U'.heap L ∧ FrameEnd U o U' L ({ frames := 0, cells := 0, slots := 0, locals := 0 } : Room).cells ({ frames := 0, cells := 0, slots := 0, locals := 0 } : Room).slots) := by
  refine MetFree.of_bodySF (plainFor_of_name pn_1) hisR ?_
  intro p e s m args below meth c s₁ Bd hml0 hP hK
  obtain ⟨rfl, hZ, hh⟩ := hP
  have hx := Bd.exec
  have hby := Bd.bytes
  have hml : c.maxLocals = 1 := hml0
  have hown : s.vm.findClass "com/example/tapeline/tapeline/OpenTypeLayout$GlyphRun" = some m.cls := findClass_of_methodNamed Bd.named
  have hnm := (name_of_methodNamed Bd.named Bd.method).1
  have X0 : Stand p l e ({ frames := 0, cells := 0, slots := 0, locals := 0 } : Room) s m #[(.ref o0)] below meth c s₁ [] 0 0 := Stand.of_body Bd
  have e0 : s₁.heap = h0 := by rw [← hh, Bd.state]; rfl
  have N0 := Fr.nil n0
  have c0 : ∀ τ, Steps p.tables e below (s₁.setTop (mkF m 0 #[.val (.ref o0)] [])) τ → Steps p.tables e below (s₁.setTop (entryFrame m #[(.ref o0)] 1)) τ := fun τ κ => castTop (ef_rm7 m o0) κ
  have c1 : ∀ τ, Steps p.tables e below (s₁.setTop (mkF m 1 #[.val (.ref o0)] [(.ref o0)])) τ → Steps p.tables e below (s₁.setTop (entryFrame m #[(.ref o0)] 1)) τ := fun τ κ => c0 τ (by
      show Steps p.tables e below (s₁.setTop (mkF m 0 #[.val (.ref o0)] [])) _
      refine XS.aloadN X0.here hx rfl (hb hby d7_0) rfl rfl ?_
      exact κ)
  obtain ⟨T2, X2, e2, st2⟩ := getF X0 hx hZ hown (host := "") (Or.inl (hw _ (List.mem_of_getElem? (i := 47) rfl))) Via.refl e0 Fg (g := (mkF m 1 #[.val (.ref o0)] [(.ref o0)])) rfl rfl (hb hby d7_1)
  have c3 : ∀ τ, Steps p.tables e below (T2.setTop (mkF m 4 #[.val (.ref o0)] [(.ref gl)])) τ → Steps p.tables e below (s₁.setTop (entryFrame m #[(.ref o0)] 1)) τ := fun τ κ => c1 τ (st2 τ κ)
  have c4 : ∀ τ, Steps p.tables e below (T2.setTop (mkF m 5 #[.val (.ref o0)] [(.int (Int32.ofNat n))])) τ → Steps p.tables e below (s₁.setTop (entryFrame m #[(.ref o0)] 1)) τ := fun τ κ => c3 τ (own_alen X2 hx hZ e2 FV (g := (mkF m 4 #[.val (.ref o0)] [(.ref gl)])) rfl rfl (hb hby d7_4) _ κ)
  have c5 : ∀ τ, Steps p.tables e below (T2.setTop (mkF m 6 #[.val (.ref o0)] [(.ref o0), (.int (Int32.ofNat n))])) τ → Steps p.tables e below (s₁.setTop (entryFrame m #[(.ref o0)] 1)) τ := fun τ κ => c4 τ (by
      show Steps p.tables e below (T2.setTop (mkF m 5 #[.val (.ref o0)] [(.int (Int32.ofNat n))])) _
      refine XS.aloadN X2.here hx rfl (hb hby d7_5) rfl rfl ?_
      exact κ)
  obtain ⟨T6, X6, e6, st6⟩ := getF X2 hx hZ hown (host := "") (Or.inl (hw _ (List.mem_of_getElem? (i := 51) rfl))) Via.refl e2 F2 (g := (mkF m 6 #[.val (.ref o0)] [(.ref o0), (.int (Int32.ofNat n))])) rfl rfl (hb hby d7_6)
  have c7 : ∀ τ, Steps p.tables e below (T6.setTop (mkF m 9 #[.val (.ref o0)] [(.int (Int32.ofNat ge)), (.int (Int32.ofNat n))])) τ → Steps p.tables e below (s₁.setTop (entryFrame m #[(.ref o0)] 1)) τ := fun τ κ => c5 τ (st6 τ κ)
  have c8 : ∀ τ, Steps p.tables e below (T6.setTop (mkF m 10 #[.val (.ref o0)] [(.ref o0), (.int (Int32.ofNat ge)), (.int (Int32.ofNat n))])) τ → Steps p.tables e below (s₁.setTop (entryFrame m #[(.ref o0)] 1)) τ := fun τ κ => c7 τ (by
      show Steps p.tables e below (T6.setTop (mkF m 9 #[.val (.ref o0)] [(.int (Int32.ofNat ge)), (.int (Int32.ofNat n))])) _
      refine XS.aloadN X6.here hx rfl (hb hby d7_9) rfl rfl ?_
      exact κ)
  obtain ⟨T9, X9, e9, st9⟩ := getF X6 hx hZ hown (host := "") (Or.inl (hw _ (List.mem_of_getElem? (i := 49) rfl))) Via.refl e6 F1 (g := (mkF m 10 #[.val (.ref o0)] [(.ref o0), (.int (Int32.ofNat ge)), (.int (Int32.ofNat n))])) rfl rfl (hb hby d7_10)
  have c10 : ∀ τ, Steps p.tables e below (T9.setTop (mkF m 13 #[.val (.ref o0)] [(.int (Int32.ofNat gs)), (.int (Int32.ofNat ge)), (.int (Int32.ofNat n))])) τ → Steps p.tables e below (s₁.setTop (entryFrame m #[(.ref o0)] 1)) τ := fun τ κ => c8 τ (st9 τ κ)
  have c11 : ∀ τ, Steps p.tables e below (T9.setTop (mkF m 15 #[.val (.ref o0)] [(.int ((Int32.ofNat n) - ((Int32.ofNat ge) - (Int32.ofNat gs))))])) τ → Steps p.tables e below (s₁.setTop (entryFrame m #[(.ref o0)] 1)) τ := fun τ κ => c10 τ (by
      show Steps p.tables e below (T9.setTop (mkF m 13 #[.val (.ref o0)] [(.int (Int32.ofNat gs)), (.int (Int32.ofNat ge)), (.int (Int32.ofNat n))])) _
      refine XS.isub X9.here hx rfl (hb hby d7_13) rfl ?_
      show Steps p.tables e below (T9.setTop (mkF m 14 #[.val (.ref o0)] [(.int ((Int32.ofNat ge) - (Int32.ofNat gs))), (.int (Int32.ofNat n))])) _
      refine XS.isub X9.here hx rfl (hb hby d7_14) rfl ?_
      exact κ)
  obtain ⟨fs, hr, hrun, hended, hW, hsame⟩ := X9.leave (v := some (.int ((Int32.ofNat n) - ((Int32.ofNat ge) - (Int32.ofNat gs))))) (fun h => by rw [Bd.returns] at h; cases h)
  refine ⟨_, _, c11 _ (retI X9 hx Bd.returns (hb hby d7_15) hr), hrun, hended, _, _, rfl, ?_, ⟨_, rfl⟩, hW, hsame.mono (by decide) (by decide)⟩
  show Q_rm7 Z o0 gl kg vs n gs ge h0 n0 _ T9.heap _
  rw [e9]
  exact ⟨rfl, N0, rfl⟩
theorem d13_0 : decode prog_50_method_6_code 0 = .ok (.iload_n 1, 1) := by decide +kernel
theorem d13_1 : decode prog_50_method_6_code 1 = .ok (.aload_n 0, 1) := by decide +kernel
theorem d13_2 : decode prog_50_method_6_code 2 = .ok (.getfield 25, 3) := by decide +kernel
theorem d13_5 : decode prog_50_method_6_code 5 = .ok (.if_icmp .ge 7, 3) := by decide +kernel
theorem d13_8 : decode prog_50_method_6_code 8 = .ok (.iload_n 1, 1) := by decide +kernel
theorem d13_9 : decode prog_50_method_6_code 9 = .ok (.goto 14, 3) := by decide +kernel
theorem d13_12 : decode prog_50_method_6_code 12 = .ok (.iload_n 1, 1) := by decide +kernel
theorem d13_13 : decode prog_50_method_6_code 13 = .ok (.aload_n 0, 1) := by decide +kernel
theorem d13_14 : decode prog_50_method_6_code 14 = .ok (.getfield 29, 3) := by decide +kernel
theorem d13_17 : decode prog_50_method_6_code 17 = .ok (.iadd, 1) := by decide +kernel
theorem d13_18 : decode prog_50_method_6_code 18 = .ok (.aload_n 0, 1) := by decide +kernel
theorem d13_19 : decode prog_50_method_6_code 19 = .ok (.getfield 25, 3) := by decide +kernel
theorem d13_22 : decode prog_50_method_6_code 22 = .ok (.isub, 1) := by decide +kernel
theorem d13_23 : decode prog_50_method_6_code 23 = .ok (.ireturn, 1) := by decide +kernel
theorem ef_rm13 (m : MethodId) (x0 : Addr) (x1 : Int32) : entryFrame m #[(.ref x0), (.int x1)] 2 = mkF m 0 #[.val (.ref x0), .val (.int x1)] [] := by first | (simp [entryFrame, mkF, argsToLocals, Value.category]; done) | rfl
def Q_rm13 (Z : State) (o0 : Addr) (gs ge pos : Nat) (h0 : Heap) (n0 : Nat) (v : Option Value) (h : Heap) (L : List Loc) : Prop := v = some (.int (Int32.ofNat (own_ix pos gs ge))) ∧ Fr n0 L ∧ h = h0
set_option maxRecDepth 65536 in
set_option maxHeartbeats 40000000 in
theorem rm13 (l : Launch) (Z : State) (a0 : Array Value) (hw : ∀ d ∈ tables_1, d.before a0 Z = true) (ws : List Jvm.Cond) (o0 : Addr) (gs ge pos : Nat) (h0 : Heap) (n0 : Nat) (Z0 : n0 ≤ h0.size) (F1 : Fld Z h0 o0 "com/example/tapeline/tapeline/OpenTypeLayout$GlyphRun" "gapStart" "I" (.int (Int32.ofNat gs))) (F2 : Fld Z h0 o0 "com/example/tapeline/tapeline/OpenTypeLayout$GlyphRun" "gapEnd" "I" (.int (Int32.ofNat ge))) (h1 : gs ≤ ge) (h2 : ge ≤ 7) (h3 : pos ≤ 7) :
    MetFree l (⟨"com/example/tapeline/tapeline/OpenTypeLayout$GlyphRun", "index", "(I)I"⟩ : MethodName) (head1 (Jvm.Cond.code (⟨"com/example/tapeline/tapeline/OpenTypeLayout$GlyphRun", "index", "(I)I"⟩ : MethodName) prog_50_method_6_code 2 (some .int) :: ws) ({ frames := 0, cells := 0, slots := 0, locals := 0 } : Room)) (fun a U => a = #[(.ref o0), (.int (Int32.ofNat pos))] ∧ Z.Warmed39 U.vm ∧ U.heap = h0) (fun _ _ _ _ _ => True) (fun _ U o U' => ∃ v L, o = .returned v ∧ Q_rm13 Z o0 gs ge pos h0 n0 v U'.heap L ∧ FrameEnd U o U' L ({ frames := 0, cells := 0, slots := 0, locals := 0 } : Room).cells ({ frames := 0, cells := 0, slots := 0, locals := 0 } : Room).slots) := by
  refine MetFree.of_bodySF (plainFor_of_name pn_1) hisR ?_
  intro p e s m args below meth c s₁ Bd hml0 hP hK
  obtain ⟨rfl, hZ, hh⟩ := hP
  have hx := Bd.exec
  have hby := Bd.bytes
  have hml : c.maxLocals = 2 := hml0
  have hown : s.vm.findClass "com/example/tapeline/tapeline/OpenTypeLayout$GlyphRun" = some m.cls := findClass_of_methodNamed Bd.named
  have hnm := (name_of_methodNamed Bd.named Bd.method).1
  have X0 : Stand p l e ({ frames := 0, cells := 0, slots := 0, locals := 0 } : Room) s m #[(.ref o0), (.int (Int32.ofNat pos))] below meth c s₁ [] 0 0 := Stand.of_body Bd
  have e0 : s₁.heap = h0 := by rw [← hh, Bd.state]; rfl
  have N0 := Fr.nil n0
  have c0 : ∀ τ, Steps p.tables e below (s₁.setTop (mkF m 0 #[.val (.ref o0), .val (.int (Int32.ofNat pos))] [])) τ → Steps p.tables e below (s₁.setTop (entryFrame m #[(.ref o0), (.int (Int32.ofNat pos))] 2)) τ := fun τ κ => castTop (ef_rm13 m o0 (Int32.ofNat pos)) κ
  have c1 : ∀ τ, Steps p.tables e below (s₁.setTop (mkF m 2 #[.val (.ref o0), .val (.int (Int32.ofNat pos))] [(.ref o0), (.int (Int32.ofNat pos))])) τ → Steps p.tables e below (s₁.setTop (entryFrame m #[(.ref o0), (.int (Int32.ofNat pos))] 2)) τ := fun τ κ => c0 τ (by
      show Steps p.tables e below (s₁.setTop (mkF m 0 #[.val (.ref o0), .val (.int (Int32.ofNat pos))] [])) _
      refine XS.iloadN X0.here hx rfl (hb hby d13_0) rfl ?_
      show Steps p.tables e below (s₁.setTop (mkF m 1 #[.val (.ref o0), .val (.int (Int32.ofNat pos))] [(.int (Int32.ofNat pos))])) _
      refine XS.aloadN X0.here hx rfl (hb hby d13_1) rfl rfl ?_
      exact κ)
  obtain ⟨T2, X2, e2, st2⟩ := getF X0 hx hZ hown (host := "") (Or.inl (hw _ (List.mem_of_getElem? (i := 49) rfl))) Via.refl e0 F1 (g := (mkF m 2 #[.val (.ref o0), .val (.int (Int32.ofNat pos))] [(.ref o0), (.int (Int32.ofNat pos))])) rfl rfl (hb hby d13_2)
  have c3 : ∀ τ, Steps p.tables e below (T2.setTop (mkF m 5 #[.val (.ref o0), .val (.int (Int32.ofNat pos))] [(.int (Int32.ofNat gs)), (.int (Int32.ofNat pos))])) τ → Steps p.tables e below (s₁.setTop (entryFrame m #[(.ref o0), (.int (Int32.ofNat pos))] 2)) τ := fun τ κ => c1 τ (st2 τ κ)
  by_cases hc : (Int32.ofNat pos) < (Int32.ofNat gs)
  · have hx1 : own_ix pos gs ge = pos := if_pos (own_ltE (by omega) (by omega) hc)
    have c4 : ∀ τ, Steps p.tables e below (T2.setTop (mkF m 23 #[.val (.ref o0), .val (.int (Int32.ofNat pos))] [(.int (Int32.ofNat pos))])) τ → Steps p.tables e below (s₁.setTop (entryFrame m #[(.ref o0), (.int (Int32.ofNat pos))] 2)) τ := fun τ κ => c3 τ (by
        show Steps p.tables e below (T2.setTop (mkF m 5 #[.val (.ref o0), .val (.int (Int32.ofNat pos))] [(.int (Int32.ofNat gs)), (.int (Int32.ofNat pos))])) _
        refine XS.icmpNo X2.here hx rfl (hb hby d13_5) rfl (tlt hc).2.1 ?_
        show Steps p.tables e below (T2.setTop (mkF m 8 #[.val (.ref o0), .val (.int (Int32.ofNat pos))] [])) _
        refine XS.iloadN X2.here hx rfl (hb hby d13_8) rfl ?_
        show Steps p.tables e below (T2.setTop (mkF m 9 #[.val (.ref o0), .val (.int (Int32.ofNat pos))] [(.int (Int32.ofNat pos))])) _
        refine XS.goto X2.here hx rfl (pc0 := 9) (pc' := 23) rfl (hb hby d13_9) (by decide) (by decide) ?_
        exact κ)
    obtain ⟨fs, hr, hrun, hended, hW, hsame⟩ := X2.leave (v := some (.int (Int32.ofNat (own_ix pos gs ge)))) (fun h => by rw [Bd.returns] at h; cases h)
    refine ⟨_, _, c4 _ (retI X2 hx Bd.returns (hb hby d13_23) (by rw [hx1] at hr; exact hr)), hrun, hended, _, _, rfl, ?_, ⟨_, rfl⟩, hW, hsame.mono (by decide) (by decide)⟩
    show Q_rm13 Z o0 gs ge pos h0 n0 _ T2.heap _
    rw [e2]
    exact ⟨rfl, N0, rfl⟩
  · have c4 : ∀ τ, Steps p.tables e below (T2.setTop (mkF m 14 #[.val (.ref o0), .val (.int (Int32.ofNat pos))] [(.ref o0), (.int (Int32.ofNat pos))])) τ → Steps p.tables e below (s₁.setTop (entryFrame m #[(.ref o0), (.int (Int32.ofNat pos))] 2)) τ := fun τ κ => c3 τ (by
        show Steps p.tables e below (T2.setTop (mkF m 5 #[.val (.ref o0), .val (.int (Int32.ofNat pos))] [(.int (Int32.ofNat gs)), (.int (Int32.ofNat pos))])) _
        refine XS.icmpYes X2.here hx rfl (pc0 := 5) (pc' := 12) rfl (hb hby d13_5) rfl (flt hc).2.1 (by decide) (by decide) ?_
        show Steps p.tables e below (T2.setTop (mkF m 12 #[.val (.ref o0), .val (.int (Int32.ofNat pos))] [])) _
        refine XS.iloadN X2.here hx rfl (hb hby d13_12) rfl ?_
        show Steps p.tables e below (T2.setTop (mkF m 13 #[.val (.ref o0), .val (.int (Int32.ofNat pos))] [(.int (Int32.ofNat pos))])) _
        refine XS.aloadN X2.here hx rfl (hb hby d13_13) rfl rfl ?_
        exact κ)
    obtain ⟨T5, X5, e5, st5⟩ := getF X2 hx hZ hown (host := "") (Or.inl (hw _ (List.mem_of_getElem? (i := 51) rfl))) Via.refl e2 F2 (g := (mkF m 14 #[.val (.ref o0), .val (.int (Int32.ofNat pos))] [(.ref o0), (.int (Int32.ofNat pos))])) rfl rfl (hb hby d13_14)
    have c6 : ∀ τ, Steps p.tables e below (T5.setTop (mkF m 17 #[.val (.ref o0), .val (.int (Int32.ofNat pos))] [(.int (Int32.ofNat ge)), (.int (Int32.ofNat pos))])) τ → Steps p.tables e below (s₁.setTop (entryFrame m #[(.ref o0), (.int (Int32.ofNat pos))] 2)) τ := fun τ κ => c4 τ (st5 τ κ)
    have c7 : ∀ τ, Steps p.tables e below (T5.setTop (mkF m 19 #[.val (.ref o0), .val (.int (Int32.ofNat pos))] [(.ref o0), (.int ((Int32.ofNat pos) + (Int32.ofNat ge)))])) τ → Steps p.tables e below (s₁.setTop (entryFrame m #[(.ref o0), (.int (Int32.ofNat pos))] 2)) τ := fun τ κ => c6 τ (by
        show Steps p.tables e below (T5.setTop (mkF m 17 #[.val (.ref o0), .val (.int (Int32.ofNat pos))] [(.int (Int32.ofNat ge)), (.int (Int32.ofNat pos))])) _
        refine XS.iadd X5.here hx rfl (hb hby d13_17) rfl ?_
        show Steps p.tables e below (T5.setTop (mkF m 18 #[.val (.ref o0), .val (.int (Int32.ofNat pos))] [(.int ((Int32.ofNat pos) + (Int32.ofNat ge)))])) _
        refine XS.aloadN X5.here hx rfl (hb hby d13_18) rfl rfl ?_
        exact κ)
    obtain ⟨T8, X8, e8, st8⟩ := getF X5 hx hZ hown (host := "") (Or.inl (hw _ (List.mem_of_getElem? (i := 49) rfl))) Via.refl e5 F1 (g := (mkF m 19 #[.val (.ref o0), .val (.int (Int32.ofNat pos))] [(.ref o0), (.int ((Int32.ofNat pos) + (Int32.ofNat ge)))])) rfl rfl (hb hby d13_19)
    have c9 : ∀ τ, Steps p.tables e below (T8.setTop (mkF m 22 #[.val (.ref o0), .val (.int (Int32.ofNat pos))] [(.int (Int32.ofNat gs)), (.int ((Int32.ofNat pos) + (Int32.ofNat ge)))])) τ → Steps p.tables e below (s₁.setTop (entryFrame m #[(.ref o0), (.int (Int32.ofNat pos))] 2)) τ := fun τ κ => c7 τ (st8 τ κ)
    have hle := own_nltE (by omega) (by omega) hc
    have hx1 : own_ix pos gs ge = pos + ge - gs := if_neg (by omega)
    have c10 : ∀ τ, Steps p.tables e below (T8.setTop (mkF m 23 #[.val (.ref o0), .val (.int (Int32.ofNat pos))] [(.int (((Int32.ofNat pos) + (Int32.ofNat ge)) - (Int32.ofNat gs)))])) τ → Steps p.tables e below (s₁.setTop (entryFrame m #[(.ref o0), (.int (Int32.ofNat pos))] 2)) τ := fun τ κ => c9 τ (by
        show Steps p.tables e below (T8.setTop (mkF m 22 #[.val (.ref o0), .val (.int (Int32.ofNat pos))] [(.int (Int32.ofNat gs)), (.int ((Int32.ofNat pos) + (Int32.ofNat ge)))])) _
        refine XS.isub X8.here hx rfl (hb hby d13_22) rfl ?_
        exact κ)
    obtain ⟨fs, hr, hrun, hended, hW, hsame⟩ := X8.leave (v := some (.int (Int32.ofNat (own_ix pos gs ge)))) (fun h => by rw [Bd.returns] at h; cases h)
    refine ⟨_, _, c10 _ (by rw [hx1, ← own_sub (by omega), ← own_add] at hr; exact retI X8 hx Bd.returns (hb hby d13_23) hr), hrun, hended, _, _, rfl, ?_, ⟨_, rfl⟩, hW, hsame.mono (by decide) (by decide)⟩
    show Q_rm13 Z o0 gs ge pos h0 n0 _ T8.heap _
    rw [e8]
    exact ⟨rfl, N0, rfl⟩
theorem d17_0 : decode prog_50_method_7_code 0 = .ok (.aload_n 0, 1) := by decide +kernel
theorem d17_1 : decode prog_50_method_7_code 1 = .ok (.getfield 29, 3) := by decide +kernel
theorem d17_4 : decode prog_50_method_7_code 4 = .ok (.aload_n 0, 1) := by decide +kernel
theorem d17_5 : decode prog_50_method_7_code 5 = .ok (.getfield 25, 3) := by decide +kernel
theorem d17_8 : decode prog_50_method_7_code 8 = .ok (.isub, 1) := by decide +kernel
theorem d17_9 : decode prog_50_method_7_code 9 = .ok (.istore_n 2, 1) := by decide +kernel
theorem d17_10 : decode prog_50_method_7_code 10 = .ok (.iload_n 1, 1) := by decide +kernel
theorem d17_11 : decode prog_50_method_7_code 11 = .ok (.aload_n 0, 1) := by decide +kernel
theorem d17_12 : decode prog_50_method_7_code 12 = .ok (.getfield 25, 3) := by decide +kernel
theorem d17_15 : decode prog_50_method_7_code 15 = .ok (.if_icmp .ge 27, 3) := by decide +kernel
theorem d17_18 : decode prog_50_method_7_code 18 = .ok (.aload_n 0, 1) := by decide +kernel
theorem d17_19 : decode prog_50_method_7_code 19 = .ok (.getfield 22, 3) := by decide +kernel
theorem d17_22 : decode prog_50_method_7_code 22 = .ok (.iload_n 1, 1) := by decide +kernel
theorem d17_23 : decode prog_50_method_7_code 23 = .ok (.aload_n 0, 1) := by decide +kernel
theorem d17_24 : decode prog_50_method_7_code 24 = .ok (.getfield 22, 3) := by decide +kernel
theorem d17_27 : decode prog_50_method_7_code 27 = .ok (.iload_n 1, 1) := by decide +kernel
theorem d17_28 : decode prog_50_method_7_code 28 = .ok (.iload_n 2, 1) := by decide +kernel
theorem d17_29 : decode prog_50_method_7_code 29 = .ok (.iadd, 1) := by decide +kernel
theorem d17_30 : decode prog_50_method_7_code 30 = .ok (.aload_n 0, 1) := by decide +kernel
theorem d17_31 : decode prog_50_method_7_code 31 = .ok (.getfield 25, 3) := by decide +kernel
theorem d17_34 : decode prog_50_method_7_code 34 = .ok (.iload_n 1, 1) := by decide +kernel
theorem d17_35 : decode prog_50_method_7_code 35 = .ok (.isub, 1) := by decide +kernel
theorem d17_36 : decode prog_50_method_7_code 36 = .ok (.invokestatic 52, 3) := by decide +kernel
theorem d17_39 : decode prog_50_method_7_code 39 = .ok (.goto 28, 3) := by decide +kernel
theorem d17_42 : decode prog_50_method_7_code 42 = .ok (.aload_n 0, 1) := by decide +kernel
theorem d17_43 : decode prog_50_method_7_code 43 = .ok (.getfield 22, 3) := by decide +kernel
theorem d17_46 : decode prog_50_method_7_code 46 = .ok (.aload_n 0, 1) := by decide +kernel
theorem d17_47 : decode prog_50_method_7_code 47 = .ok (.getfield 29, 3) := by decide +kernel
theorem d17_50 : decode prog_50_method_7_code 50 = .ok (.aload_n 0, 1) := by decide +kernel
theorem d17_51 : decode prog_50_method_7_code 51 = .ok (.getfield 22, 3) := by decide +kernel
theorem d17_54 : decode prog_50_method_7_code 54 = .ok (.aload_n 0, 1) := by decide +kernel
theorem d17_55 : decode prog_50_method_7_code 55 = .ok (.getfield 25, 3) := by decide +kernel
theorem d17_58 : decode prog_50_method_7_code 58 = .ok (.iload_n 1, 1) := by decide +kernel
theorem d17_59 : decode prog_50_method_7_code 59 = .ok (.aload_n 0, 1) := by decide +kernel
theorem d17_60 : decode prog_50_method_7_code 60 = .ok (.getfield 25, 3) := by decide +kernel
theorem d17_63 : decode prog_50_method_7_code 63 = .ok (.isub, 1) := by decide +kernel
theorem d17_64 : decode prog_50_method_7_code 64 = .ok (.invokestatic 52, 3) := by decide +kernel
theorem d17_67 : decode prog_50_method_7_code 67 = .ok (.aload_n 0, 1) := by decide +kernel
theorem d17_68 : decode prog_50_method_7_code 68 = .ok (.iload_n 1, 1) := by decide +kernel
theorem d17_69 : decode prog_50_method_7_code 69 = .ok (.putfield 25, 3) := by decide +kernel
theorem d17_72 : decode prog_50_method_7_code 72 = .ok (.aload_n 0, 1) := by decide +kernel
theorem d17_73 : decode prog_50_method_7_code 73 = .ok (.iload_n 1, 1) := by decide +kernel
theorem d17_74 : decode prog_50_method_7_code 74 = .ok (.iload_n 2, 1) := by decide +kernel
theorem d17_75 : decode prog_50_method_7_code 75 = .ok (.iadd, 1) := by decide +kernel
theorem d17_76 : decode prog_50_method_7_code 76 = .ok (.putfield 29, 3) := by decide +kernel
theorem d17_79 : decode prog_50_method_7_code 79 = .ok (.return_, 1) := by decide +kernel
theorem ef_rm17 (m : MethodId) (x0 : Addr) (x1 : Int32) : entryFrame m #[(.ref x0), (.int x1)] 3 = mkF m 0 #[.val (.ref x0), .val (.int x1), .unset] [] := by first | (simp [entryFrame, mkF, argsToLocals, Value.category]; done) | rfl
def Q_rm17 (Z : State) (o0 : Addr) (gl bs : Addr) (kg : ClassId) (n gs ge q : Nat) (h0 : Heap) (n0 : Nat) (v : Option Value) (h : Heap) (L : List Loc) : Prop := v = none ∧ Fr n0 L ∧ Keep h0 h [o0, gl] ∧ Exa Z h o0 "com/example/tapeline/tapeline/OpenTypeLayout$GlyphRun" ∧ Fld Z h o0 "com/example/tapeline/tapeline/OpenTypeLayout$GlyphRun" "glyphs" "[I" (.ref gl) ∧ Fld Z h o0 "com/example/tapeline/tapeline/OpenTypeLayout$GlyphRun" "gapStart" "I" (.int (Int32.ofNat q)) ∧ Fld Z h o0 "com/example/tapeline/tapeline/OpenTypeLayout$GlyphRun" "gapEnd" "I" (.int (Int32.ofNat (q + (ge - gs)))) ∧ Fld Z h o0 "com/example/tapeline/tapeline/OpenTypeLayout$GlyphRun" "held" "Ljava/util/BitSet;" (.ref bs) ∧ own_I Z h gl kg n
set_option maxRecDepth 65536 in
set_option maxHeartbeats 40000000 in
theorem rm17 (l : Launch) (Z : State) (a0 : Array Value) (hw : ∀ d ∈ tables_1, d.before a0 Z = true) (ws : List Jvm.Cond) (o0 : Addr) (gl bs : Addr) (kg : ClassId) (n gs ge q : Nat) (h0 : Heap) (n0 : Nat) (Z0 : n0 ≤ h0.size) (E : Exa Z h0 o0 "com/example/tapeline/tapeline/OpenTypeLayout$GlyphRun") (Fg : Fld Z h0 o0 "com/example/tapeline/tapeline/OpenTypeLayout$GlyphRun" "glyphs" "[I" (.ref gl)) (F1 : Fld Z h0 o0 "com/example/tapeline/tapeline/OpenTypeLayout$GlyphRun" "gapStart" "I" (.int (Int32.ofNat gs))) (F2 : Fld Z h0 o0 "com/example/tapeline/tapeline/OpenTypeLayout$GlyphRun" "gapEnd" "I" (.int (Int32.ofNat ge))) (Fh : Fld Z h0 o0 "com/example/tapeline/tapeline/OpenTypeLayout$GlyphRun" "held" "Ljava/util/BitSet;" (.ref bs)) (FI : own_I Z h0 gl kg n) (h1 : gs ≤ ge) (h2 : ge ≤ n) (h3 : n ≤ 7) (h4 : q + (ge - gs) ≤ n) (g0 : n0 ≤ o0) (gg : n0 ≤ gl) :
    MetFree l (⟨"com/example/tapeline/tapeline/OpenTypeLayout$GlyphRun", "moveGap", "(I)V"⟩ : MethodName) (head1 (Jvm.Cond.code (⟨"com/example/tapeline/tapeline/OpenTypeLayout$GlyphRun", "moveGap", "(I)V"⟩ : MethodName) prog_50_method_7_code 3 none :: ws) ({ frames := 1, cells := 0, slots := 0, locals := 18 } : Room)) (fun a U => a = #[(.ref o0), (.int (Int32.ofNat q))] ∧ Z.Warmed39 U.vm ∧ U.heap = h0) (fun _ _ _ _ _ => True) (fun _ U o U' => ∃ v L, o = .returned v ∧ Q_rm17 Z o0 gl bs kg n gs ge q h0 n0 v U'.heap L ∧ FrameEnd U o U' L ({ frames := 1, cells := 0, slots := 0, locals := 18 } : Room).cells ({ frames := 1, cells := 0, slots := 0, locals := 18 } : Room).slots) := by
  refine MetFree.of_bodySF (plainFor_of_name pn_1) hisR ?_
  intro p e s m args below meth c s₁ Bd hml0 hP hK
  obtain ⟨rfl, hZ, hh⟩ := hP
  have hx := Bd.exec
  have hby := Bd.bytes
  have hml : c.maxLocals = 3 := hml0
  have hown : s.vm.findClass "com/example/tapeline/tapeline/OpenTypeLayout$GlyphRun" = some m.cls := findClass_of_methodNamed Bd.named
  have hnm := (name_of_methodNamed Bd.named Bd.method).1
  have X0 : Stand p l e ({ frames := 1, cells := 0, slots := 0, locals := 18 } : Room) s m #[(.ref o0), (.int (Int32.ofNat q))] below meth c s₁ [] 0 0 := Stand.of_body Bd
  have e0 : s₁.heap = h0 := by rw [← hh, Bd.state]; rfl
  have N0 := Fr.nil n0
  have c0 : ∀ τ, Steps p.tables e below (s₁.setTop (mkF m 0 #[.val (.ref o0), .val (.int (Int32.ofNat q)), .unset] [])) τ → Steps p.tables e below (s₁.setTop (entryFrame m #[(.ref o0), (.int (Int32.ofNat q))] 3)) τ := fun τ κ => castTop (ef_rm17 m o0 (Int32.ofNat q)) κ
  obtain ⟨vs, FV, hvl⟩ := FI
  have ne_o0_gl : o0 ≠ gl := own_ne_ea E (hw _ (List.mem_of_getElem? (i := 6) rfl)) FV
  have c1 : ∀ τ, Steps p.tables e below (s₁.setTop (mkF m 1 #[.val (.ref o0), .val (.int (Int32.ofNat q)), .unset] [(.ref o0)])) τ → Steps p.tables e below (s₁.setTop (entryFrame m #[(.ref o0), (.int (Int32.ofNat q))] 3)) τ := fun τ κ => c0 τ (by
      show Steps p.tables e below (s₁.setTop (mkF m 0 #[.val (.ref o0), .val (.int (Int32.ofNat q)), .unset] [])) _
      refine XS.aloadN X0.here hx rfl (hb hby d17_0) rfl rfl ?_
      exact κ)
  obtain ⟨T2, X2, e2, st2⟩ := getF X0 hx hZ hown (host := "") (Or.inl (hw _ (List.mem_of_getElem? (i := 51) rfl))) Via.refl e0 F2 (g := (mkF m 1 #[.val (.ref o0), .val (.int (Int32.ofNat q)), .unset] [(.ref o0)])) rfl rfl (hb hby d17_1)
  have c3 : ∀ τ, Steps p.tables e below (T2.setTop (mkF m 4 #[.val (.ref o0), .val (.int (Int32.ofNat q)), .unset] [(.int (Int32.ofNat ge))])) τ → Steps p.tables e below (s₁.setTop (entryFrame m #[(.ref o0), (.int (Int32.ofNat q))] 3)) τ := fun τ κ => c1 τ (st2 τ κ)
  have c4 : ∀ τ, Steps p.tables e below (T2.setTop (mkF m 5 #[.val (.ref o0), .val (.int (Int32.ofNat q)), .unset] [(.ref o0), (.int (Int32.ofNat ge))])) τ → Steps p.tables e below (s₁.setTop (entryFrame m #[(.ref o0), (.int (Int32.ofNat q))] 3)) τ := fun τ κ => c3 τ (by
      show Steps p.tables e below (T2.setTop (mkF m 4 #[.val (.ref o0), .val (.int (Int32.ofNat q)), .unset] [(.int (Int32.ofNat ge))])) _
      refine XS.aloadN X2.here hx rfl (hb hby d17_4) rfl rfl ?_
      exact κ)
  obtain ⟨T5, X5, e5, st5⟩ := getF X2 hx hZ hown (host := "") (Or.inl (hw _ (List.mem_of_getElem? (i := 49) rfl))) Via.refl e2 F1 (g := (mkF m 5 #[.val (.ref o0), .val (.int (Int32.ofNat q)), .unset] [(.ref o0), (.int (Int32.ofNat ge))])) rfl rfl (hb hby d17_5)
  have c6 : ∀ τ, Steps p.tables e below (T5.setTop (mkF m 8 #[.val (.ref o0), .val (.int (Int32.ofNat q)), .unset] [(.int (Int32.ofNat gs)), (.int (Int32.ofNat ge))])) τ → Steps p.tables e below (s₁.setTop (entryFrame m #[(.ref o0), (.int (Int32.ofNat q))] 3)) τ := fun τ κ => c4 τ (st5 τ κ)
  have c7 : ∀ τ, Steps p.tables e below (T5.setTop (mkF m 9 #[.val (.ref o0), .val (.int (Int32.ofNat q)), .unset] [(.int ((Int32.ofNat ge) - (Int32.ofNat gs)))])) τ → Steps p.tables e below (s₁.setTop (entryFrame m #[(.ref o0), (.int (Int32.ofNat q))] 3)) τ := fun τ κ => c6 τ (by
      show Steps p.tables e below (T5.setTop (mkF m 8 #[.val (.ref o0), .val (.int (Int32.ofNat q)), .unset] [(.int (Int32.ofNat gs)), (.int (Int32.ofNat ge))])) _
      refine XS.isub X5.here hx rfl (hb hby d17_8) rfl ?_
      exact κ)
  rw [show ((Int32.ofNat ge) - (Int32.ofNat gs)) = (Int32.ofNat (ge - gs)) from own_sub h1] at c7
  have c8 : ∀ τ, Steps p.tables e below (T5.setTop (mkF m 12 #[.val (.ref o0), .val (.int (Int32.ofNat q)), .val (.int (Int32.ofNat (ge - gs)))] [(.ref o0), (.int (Int32.ofNat q))])) τ → Steps p.tables e below (s₁.setTop (entryFrame m #[(.ref o0), (.int (Int32.ofNat q))] 3)) τ := fun τ κ => c7 τ (by
      show Steps p.tables e below (T5.setTop (mkF m 9 #[.val (.ref o0), .val (.int (Int32.ofNat q)), .unset] [(.int (Int32.ofNat (ge - gs)))])) _
      refine XS.istoreN X5.here hx rfl (hb hby d17_9) rfl (l' := #[.val (.ref o0), .val (.int (Int32.ofNat q)), .val (.int (Int32.ofNat (ge - gs)))]) rfl ?_
      show Steps p.tables e below (T5.setTop (mkF m 10 #[.val (.ref o0), .val (.int (Int32.ofNat q)), .val (.int (Int32.ofNat (ge - gs)))] [])) _
      refine XS.iloadN X5.here hx rfl (hb hby d17_10) rfl ?_
      show Steps p.tables e below (T5.setTop (mkF m 11 #[.val (.ref o0), .val (.int (Int32.ofNat q)), .val (.int (Int32.ofNat (ge - gs)))] [(.int (Int32.ofNat q))])) _
      refine XS.aloadN X5.here hx rfl (hb hby d17_11) rfl rfl ?_
      exact κ)
  obtain ⟨T9, X9, e9, st9⟩ := getF X5 hx hZ hown (host := "") (Or.inl (hw _ (List.mem_of_getElem? (i := 49) rfl))) Via.refl e5 F1 (g := (mkF m 12 #[.val (.ref o0), .val (.int (Int32.ofNat q)), .val (.int (Int32.ofNat (ge - gs)))] [(.ref o0), (.int (Int32.ofNat q))])) rfl rfl (hb hby d17_12)
  have c10 : ∀ τ, Steps p.tables e below (T9.setTop (mkF m 15 #[.val (.ref o0), .val (.int (Int32.ofNat q)), .val (.int (Int32.ofNat (ge - gs)))] [(.int (Int32.ofNat gs)), (.int (Int32.ofNat q))])) τ → Steps p.tables e below (s₁.setTop (entryFrame m #[(.ref o0), (.int (Int32.ofNat q))] 3)) τ := fun τ κ => c8 τ (st9 τ κ)
  by_cases hc : (Int32.ofNat q) < (Int32.ofNat gs)
  · have hlt := own_ltE (by omega) (by omega) hc
    have c11 : ∀ τ, Steps p.tables e below (T9.setTop (mkF m 19 #[.val (.ref o0), .val (.int (Int32.ofNat q)), .val (.int (Int32.ofNat (ge - gs)))] [(.ref o0)])) τ → Steps p.tables e below (s₁.setTop (entryFrame m #[(.ref o0), (.int (Int32.ofNat q))] 3)) τ := fun τ κ => c10 τ (by
        show Steps p.tables e below (T9.setTop (mkF m 15 #[.val (.ref o0), .val (.int (Int32.ofNat q)), .val (.int (Int32.ofNat (ge - gs)))] [(.int (Int32.ofNat gs)), (.int (Int32.ofNat q))])) _
        refine XS.icmpNo X9.here hx rfl (hb hby d17_15) rfl (tlt hc).2.1 ?_
        show Steps p.tables e below (T9.setTop (mkF m 18 #[.val (.ref o0), .val (.int (Int32.ofNat q)), .val (.int (Int32.ofNat (ge - gs)))] [])) _
        refine XS.aloadN X9.here hx rfl (hb hby d17_18) rfl rfl ?_
        exact κ)
    obtain ⟨T12, X12, e12, st12⟩ := getF X9 hx hZ hown (host := "") (Or.inl (hw _ (List.mem_of_getElem? (i := 47) rfl))) Via.refl e9 Fg (g := (mkF m 19 #[.val (.ref o0), .val (.int (Int32.ofNat q)), .val (.int (Int32.ofNat (ge - gs)))] [(.ref o0)])) rfl rfl (hb hby d17_19)
    have c13 : ∀ τ, Steps p.tables e below (T12.setTop (mkF m 22 #[.val (.ref o0), .val (.int (Int32.ofNat q)), .val (.int (Int32.ofNat (ge - gs)))] [(.ref gl)])) τ → Steps p.tables e below (s₁.setTop (entryFrame m #[(.ref o0), (.int (Int32.ofNat q))] 3)) τ := fun τ κ => c11 τ (st12 τ κ)
    have c14 : ∀ τ, Steps p.tables e below (T12.setTop (mkF m 24 #[.val (.ref o0), .val (.int (Int32.ofNat q)), .val (.int (Int32.ofNat (ge - gs)))] [(.ref o0), (.int (Int32.ofNat q)), (.ref gl)])) τ → Steps p.tables e below (s₁.setTop (entryFrame m #[(.ref o0), (.int (Int32.ofNat q))] 3)) τ := fun τ κ => c13 τ (by
        show Steps p.tables e below (T12.setTop (mkF m 22 #[.val (.ref o0), .val (.int (Int32.ofNat q)), .val (.int (Int32.ofNat (ge - gs)))] [(.ref gl)])) _
        refine XS.iloadN X12.here hx rfl (hb hby d17_22) rfl ?_
        show Steps p.tables e below (T12.setTop (mkF m 23 #[.val (.ref o0), .val (.int (Int32.ofNat q)), .val (.int (Int32.ofNat (ge - gs)))] [(.int (Int32.ofNat q)), (.ref gl)])) _
        refine XS.aloadN X12.here hx rfl (hb hby d17_23) rfl rfl ?_
        exact κ)
    obtain ⟨T15, X15, e15, st15⟩ := getF X12 hx hZ hown (host := "") (Or.inl (hw _ (List.mem_of_getElem? (i := 47) rfl))) Via.refl e12 Fg (g := (mkF m 24 #[.val (.ref o0), .val (.int (Int32.ofNat q)), .val (.int (Int32.ofNat (ge - gs)))] [(.ref o0), (.int (Int32.ofNat q)), (.ref gl)])) rfl rfl (hb hby d17_24)
    have c16 : ∀ τ, Steps p.tables e below (T15.setTop (mkF m 27 #[.val (.ref o0), .val (.int (Int32.ofNat q)), .val (.int (Int32.ofNat (ge - gs)))] [(.ref gl), (.int (Int32.ofNat q)), (.ref gl)])) τ → Steps p.tables e below (s₁.setTop (entryFrame m #[(.ref o0), (.int (Int32.ofNat q))] 3)) τ := fun τ κ => c14 τ (st15 τ κ)
    have c17 : ∀ τ, Steps p.tables e below (T15.setTop (mkF m 30 #[.val (.ref o0), .val (.int (Int32.ofNat q)), .val (.int (Int32.ofNat (ge - gs)))] [(.int ((Int32.ofNat q) + (Int32.ofNat (ge - gs)))), (.ref gl), (.int (Int32.ofNat q)), (.ref gl)])) τ → Steps p.tables e below (s₁.setTop (entryFrame m #[(.ref o0), (.int (Int32.ofNat q))] 3)) τ := fun τ κ => c16 τ (by
        show Steps p.tables e below (T15.setTop (mkF m 27 #[.val (.ref o0), .val (.int (Int32.ofNat q)), .val (.int (Int32.ofNat (ge - gs)))] [(.ref gl), (.int (Int32.ofNat q)), (.ref gl)])) _
        refine XS.iloadN X15.here hx rfl (hb hby d17_27) rfl ?_
        show Steps p.tables e below (T15.setTop (mkF m 28 #[.val (.ref o0), .val (.int (Int32.ofNat q)), .val (.int (Int32.ofNat (ge - gs)))] [(.int (Int32.ofNat q)), (.ref gl), (.int (Int32.ofNat q)), (.ref gl)])) _
        refine XS.iloadN X15.here hx rfl (hb hby d17_28) rfl ?_
        show Steps p.tables e below (T15.setTop (mkF m 29 #[.val (.ref o0), .val (.int (Int32.ofNat q)), .val (.int (Int32.ofNat (ge - gs)))] [(.int (Int32.ofNat (ge - gs))), (.int (Int32.ofNat q)), (.ref gl), (.int (Int32.ofNat q)), (.ref gl)])) _
        refine XS.iadd X15.here hx rfl (hb hby d17_29) rfl ?_
        exact κ)
    rw [show ((Int32.ofNat q) + (Int32.ofNat (ge - gs))) = (Int32.ofNat (q + (ge - gs))) from own_add _ _] at c17
    have c18 : ∀ τ, Steps p.tables e below (T15.setTop (mkF m 31 #[.val (.ref o0), .val (.int (Int32.ofNat q)), .val (.int (Int32.ofNat (ge - gs)))] [(.ref o0), (.int (Int32.ofNat (q + (ge - gs)))), (.ref gl), (.int (Int32.ofNat q)), (.ref gl)])) τ → Steps p.tables e below (s₁.setTop (entryFrame m #[(.ref o0), (.int (Int32.ofNat q))] 3)) τ := fun τ κ => c17 τ (by
        show Steps p.tables e below (T15.setTop (mkF m 30 #[.val (.ref o0), .val (.int (Int32.ofNat q)), .val (.int (Int32.ofNat (ge - gs)))] [(.int (Int32.ofNat (q + (ge - gs)))), (.ref gl), (.int (Int32.ofNat q)), (.ref gl)])) _
        refine XS.aloadN X15.here hx rfl (hb hby d17_30) rfl rfl ?_
        exact κ)
    obtain ⟨T19, X19, e19, st19⟩ := getF X15 hx hZ hown (host := "") (Or.inl (hw _ (List.mem_of_getElem? (i := 49) rfl))) Via.refl e15 F1 (g := (mkF m 31 #[.val (.ref o0), .val (.int (Int32.ofNat q)), .val (.int (Int32.ofNat (ge - gs)))] [(.ref o0), (.int (Int32.ofNat (q + (ge - gs)))), (.ref gl), (.int (Int32.ofNat q)), (.ref gl)])) rfl rfl (hb hby d17_31)
    have c20 : ∀ τ, Steps p.tables e below (T19.setTop (mkF m 34 #[.val (.ref o0), .val (.int (Int32.ofNat q)), .val (.int (Int32.ofNat (ge - gs)))] [(.int (Int32.ofNat gs)), (.int (Int32.ofNat (q + (ge - gs)))), (.ref gl), (.int (Int32.ofNat q)), (.ref gl)])) τ → Steps p.tables e below (s₁.setTop (entryFrame m #[(.ref o0), (.int (Int32.ofNat q))] 3)) τ := fun τ κ => c18 τ (st19 τ κ)
    have c21 : ∀ τ, Steps p.tables e below (T19.setTop (mkF m 36 #[.val (.ref o0), .val (.int (Int32.ofNat q)), .val (.int (Int32.ofNat (ge - gs)))] [(.int ((Int32.ofNat gs) - (Int32.ofNat q))), (.int (Int32.ofNat (q + (ge - gs)))), (.ref gl), (.int (Int32.ofNat q)), (.ref gl)])) τ → Steps p.tables e below (s₁.setTop (entryFrame m #[(.ref o0), (.int (Int32.ofNat q))] 3)) τ := fun τ κ => c20 τ (by
        show Steps p.tables e below (T19.setTop (mkF m 34 #[.val (.ref o0), .val (.int (Int32.ofNat q)), .val (.int (Int32.ofNat (ge - gs)))] [(.int (Int32.ofNat gs)), (.int (Int32.ofNat (q + (ge - gs)))), (.ref gl), (.int (Int32.ofNat q)), (.ref gl)])) _
        refine XS.iloadN X19.here hx rfl (hb hby d17_34) rfl ?_
        show Steps p.tables e below (T19.setTop (mkF m 35 #[.val (.ref o0), .val (.int (Int32.ofNat q)), .val (.int (Int32.ofNat (ge - gs)))] [(.int (Int32.ofNat q)), (.int (Int32.ofNat gs)), (.int (Int32.ofNat (q + (ge - gs)))), (.ref gl), (.int (Int32.ofNat q)), (.ref gl)])) _
        refine XS.isub X19.here hx rfl (hb hby d17_35) rfl ?_
        exact κ)
    rw [show ((Int32.ofNat gs) - (Int32.ofNat q)) = (Int32.ofNat (gs - q)) from own_sub (by omega)] at c21
    obtain ⟨T22, h22, L22, X22, e22, N22, K22q, V22, st22⟩ := cpA X19 hx hZ hown (hw _ (List.mem_of_getElem? (i := 110) rfl)) (hw _ (List.mem_of_getElem? (i := 105) rfl)) (hw _ (List.mem_of_getElem? (i := 103) rfl)) (hw _ (List.mem_of_getElem? (i := 104) rfl)) e19 FV FV (Or.inl ⟨rfl, rfl⟩) (sp := (Int32.ofNat q)) (dp := (Int32.ofNat (q + (ge - gs)))) (nn := (Int32.ofNat (gs - q))) (own_nn (by omega)) (own_nn (by omega)) (own_nn (by omega)) (by rw [own_n32 (by omega), own_n32 (by omega), own_n32 (by omega)]; omega) (by rw [own_n32 (by omega), own_n32 (by omega), own_n32 (by omega)]; omega) rfl (by rw [own_n32 (by omega), own_n32 (by omega), hvl]; omega) N0 gg (g := (mkF m 36 #[.val (.ref o0), .val (.int (Int32.ofNat q)), .val (.int (Int32.ofNat (ge - gs)))] [(.int (Int32.ofNat (gs - q))), (.int (Int32.ofNat (q + (ge - gs)))), (.ref gl), (.int (Int32.ofNat q)), (.ref gl)])) rfl (by rw [hml]; rfl) rfl (hb hby d17_36) (Nat.le_of_ble_eq_true rfl) (W := 0) (by show 2 * 0 + _ ≤ _; exact Nat.le_of_eq rfl) (Nat.le_of_ble_eq_true rfl)
    have Z22 : n0 ≤ h22.size := Nat.le_trans Z0 K22q.1
    have K22 : Keep h0 h22 [o0, gl] := (Keep.refl h0 [o0, gl]).trans K22q (allS (Or.inl (List.mem_of_getElem? (i := 1) rfl)) all0)
    have c23 : ∀ τ, Steps p.tables e below (T22.setTop (mkF m 39 #[.val (.ref o0), .val (.int (Int32.ofNat q)), .val (.int (Int32.ofNat (ge - gs)))] [])) τ → Steps p.tables e below (s₁.setTop (entryFrame m #[(.ref o0), (.int (Int32.ofNat q))] 3)) τ := fun τ κ => c21 τ (st22 τ κ)
    have c24 : ∀ τ, Steps p.tables e below (T22.setTop (mkF m 69 #[.val (.ref o0), .val (.int (Int32.ofNat q)), .val (.int (Int32.ofNat (ge - gs)))] [(.int (Int32.ofNat q)), (.ref o0)])) τ → Steps p.tables e below (s₁.setTop (entryFrame m #[(.ref o0), (.int (Int32.ofNat q))] 3)) τ := fun τ κ => c23 τ (by
        show Steps p.tables e below (T22.setTop (mkF m 39 #[.val (.ref o0), .val (.int (Int32.ofNat q)), .val (.int (Int32.ofNat (ge - gs)))] [])) _
        refine XS.goto X22.here hx rfl (pc0 := 39) (pc' := 67) rfl (hb hby d17_39) (by decide) (by decide) ?_
        show Steps p.tables e below (T22.setTop (mkF m 67 #[.val (.ref o0), .val (.int (Int32.ofNat q)), .val (.int (Int32.ofNat (ge - gs)))] [])) _
        refine XS.aloadN X22.here hx rfl (hb hby d17_67) rfl rfl ?_
        show Steps p.tables e below (T22.setTop (mkF m 68 #[.val (.ref o0), .val (.int (Int32.ofNat q)), .val (.int (Int32.ofNat (ge - gs)))] [(.ref o0)])) _
        refine XS.iloadN X22.here hx rfl (hb hby d17_68) rfl ?_
        exact κ)
    have f26 := (F1.keep K22q (ninS ne_o0_gl nin0))
    have f27 := (E.keep K22q)
    obtain ⟨T25, h25, X25, e25, W25, st25⟩ := putF X22 hx hZ hown (host := "") (Or.inl (hw _ (List.mem_of_getElem? (i := 49) rfl))) Via.refl e22 f26 f27 (Or.inl (hw _ (List.mem_of_getElem? (i := 50) rfl))) (hw _ (List.mem_of_getElem? (i := 6) rfl)) (ty := .int) (by decide) rfl rfl (g := (mkF m 69 #[.val (.ref o0), .val (.int (Int32.ofNat q)), .val (.int (Int32.ofNat (ge - gs)))] [(.int (Int32.ofNat q)), (.ref o0)])) rfl rfl (hb hby d17_69)
    have F25 := f26.same W25
    have N25 := Fr.snoc X25 N22 g0
    have Z25 : n0 ≤ h25.size := Nat.le_trans Z22 (Keep.of_wr W25).1
    have K25 : Keep h0 h25 [o0, gl] := K22.wr W25 (Or.inl (List.mem_of_getElem? (i := 0) rfl))
    have c28 : ∀ τ, Steps p.tables e below (T25.setTop (mkF m 72 #[.val (.ref o0), .val (.int (Int32.ofNat q)), .val (.int (Int32.ofNat (ge - gs)))] [])) τ → Steps p.tables e below (s₁.setTop (entryFrame m #[(.ref o0), (.int (Int32.ofNat q))] 3)) τ := fun τ κ => c24 τ (st25 τ κ)
    have c29 : ∀ τ, Steps p.tables e below (T25.setTop (mkF m 76 #[.val (.ref o0), .val (.int (Int32.ofNat q)), .val (.int (Int32.ofNat (ge - gs)))] [(.int ((Int32.ofNat q) + (Int32.ofNat (ge - gs)))), (.ref o0)])) τ → Steps p.tables e below (s₁.setTop (entryFrame m #[(.ref o0), (.int (Int32.ofNat q))] 3)) τ := fun τ κ => c28 τ (by
        show Steps p.tables e below (T25.setTop (mkF m 72 #[.val (.ref o0), .val (.int (Int32.ofNat q)), .val (.int (Int32.ofNat (ge - gs)))] [])) _
        refine XS.aloadN X25.here hx rfl (hb hby d17_72) rfl rfl ?_
        show Steps p.tables e below (T25.setTop (mkF m 73 #[.val (.ref o0), .val (.int (Int32.ofNat q)), .val (.int (Int32.ofNat (ge - gs)))] [(.ref o0)])) _
        refine XS.iloadN X25.here hx rfl (hb hby d17_73) rfl ?_
        show Steps p.tables e below (T25.setTop (mkF m 74 #[.val (.ref o0), .val (.int (Int32.ofNat q)), .val (.int (Int32.ofNat (ge - gs)))] [(.int (Int32.ofNat q)), (.ref o0)])) _
        refine XS.iloadN X25.here hx rfl (hb hby d17_74) rfl ?_
        show Steps p.tables e below (T25.setTop (mkF m 75 #[.val (.ref o0), .val (.int (Int32.ofNat q)), .val (.int (Int32.ofNat (ge - gs)))] [(.int (Int32.ofNat (ge - gs))), (.int (Int32.ofNat q)), (.ref o0)])) _
        refine XS.iadd X25.here hx rfl (hb hby d17_75) rfl ?_
        exact κ)
    rw [show ((Int32.ofNat q) + (Int32.ofNat (ge - gs))) = (Int32.ofNat (q + (ge - gs))) from own_add _ _] at c29
    have f31 := ((F2.keep K22q (ninS ne_o0_gl nin0)).other W25 (Or.inr (slot_ne (Or.inl (hw _ (List.mem_of_getElem? (i := 52) rfl))) (Or.inl (hw _ (List.mem_of_getElem? (i := 50) rfl))) (by decide) (t := .int) (t' := .int) (by decide) (by decide))))
    have f32 := (f27.wr W25)
    obtain ⟨T30, h30, X30, e30, W30, st30⟩ := putF X25 hx hZ hown (host := "") (Or.inl (hw _ (List.mem_of_getElem? (i := 51) rfl))) Via.refl e25 f31 f32 (Or.inl (hw _ (List.mem_of_getElem? (i := 52) rfl))) (hw _ (List.mem_of_getElem? (i := 6) rfl)) (ty := .int) (by decide) rfl rfl (g := (mkF m 76 #[.val (.ref o0), .val (.int (Int32.ofNat q)), .val (.int (Int32.ofNat (ge - gs)))] [(.int (Int32.ofNat (q + (ge - gs)))), (.ref o0)])) rfl rfl (hb hby d17_76)
    have F30 := f31.same W30
    have N30 := Fr.snoc X30 N25 g0
    have Z30 : n0 ≤ h30.size := Nat.le_trans Z25 (Keep.of_wr W30).1
    have K30 : Keep h0 h30 [o0, gl] := K25.wr W30 (Or.inl (List.mem_of_getElem? (i := 0) rfl))
    have c33 : ∀ τ, Steps p.tables e below (T30.setTop (mkF m 79 #[.val (.ref o0), .val (.int (Int32.ofNat q)), .val (.int (Int32.ofNat (ge - gs)))] [])) τ → Steps p.tables e below (s₁.setTop (entryFrame m #[(.ref o0), (.int (Int32.ofNat q))] 3)) τ := fun τ κ => c29 τ (st30 τ κ)
    have f34 := (f32.wr W30)
    have f35 := (((Fg.keep K22q (ninS ne_o0_gl nin0)).other W25 (Or.inr (slot_ne (Or.inr (hw _ (List.mem_of_getElem? (i := 48) rfl))) (Or.inl (hw _ (List.mem_of_getElem? (i := 50) rfl))) (by decide) (t := (.array .int)) (t' := .int) (by decide) (by decide)))).other W30 (Or.inr (slot_ne (Or.inr (hw _ (List.mem_of_getElem? (i := 48) rfl))) (Or.inl (hw _ (List.mem_of_getElem? (i := 52) rfl))) (by decide) (t := (.array .int)) (t' := .int) (by decide) (by decide))))
    have f36 := (F25.other W30 (Or.inr (slot_ne (Or.inl (hw _ (List.mem_of_getElem? (i := 50) rfl))) (Or.inl (hw _ (List.mem_of_getElem? (i := 52) rfl))) (by decide) (t := .int) (t' := .int) (by decide) (by decide))))
    have f37 := (((Fh.keep K22q (ninS ne_o0_gl nin0)).other W25 (Or.inr (slot_ne (Or.inr (hw _ (List.mem_of_getElem? (i := 37) rfl))) (Or.inl (hw _ (List.mem_of_getElem? (i := 50) rfl))) (by decide) (t := (.object "java/util/BitSet")) (t' := .int) (by decide) (by decide)))).other W30 (Or.inr (slot_ne (Or.inr (hw _ (List.mem_of_getElem? (i := 37) rfl))) (Or.inl (hw _ (List.mem_of_getElem? (i := 52) rfl))) (by decide) (t := (.object "java/util/BitSet")) (t' := .int) (by decide) (by decide))))
    have f38 := ((V22.other W25 (Ne.symm ne_o0_gl)).other W30 (Ne.symm ne_o0_gl))
    obtain ⟨fs, hr, hrun, hended, hW, hsame⟩ := X30.leave (v := none) (fun _ => rfl)
    refine ⟨_, _, c33 _ (X30.returnOut hx Bd.returns (hb hby d17_79) hr), hrun, hended, _, _, rfl, ?_, ⟨_, rfl⟩, hW, hsame.mono (by decide) (by decide)⟩
    show Q_rm17 Z o0 gl bs kg n gs ge q h0 n0 _ T30.heap _
    rw [e30]
    exact ⟨rfl, N30, K30, f34, f35, f36, F30, f37, ⟨_, f38, own_splice hvl (by rw [List.length_map, List.length_range]) (by rw [own_n32 (by omega), own_n32 (by omega)]; omega)⟩⟩
  · have hle := own_nltE (by omega) (by omega) hc
    have c11 : ∀ τ, Steps p.tables e below (T9.setTop (mkF m 43 #[.val (.ref o0), .val (.int (Int32.ofNat q)), .val (.int (Int32.ofNat (ge - gs)))] [(.ref o0)])) τ → Steps p.tables e below (s₁.setTop (entryFrame m #[(.ref o0), (.int (Int32.ofNat q))] 3)) τ := fun τ κ => c10 τ (by
        show Steps p.tables e below (T9.setTop (mkF m 15 #[.val (.ref o0), .val (.int (Int32.ofNat q)), .val (.int (Int32.ofNat (ge - gs)))] [(.int (Int32.ofNat gs)), (.int (Int32.ofNat q))])) _
        refine XS.icmpYes X9.here hx rfl (pc0 := 15) (pc' := 42) rfl (hb hby d17_15) rfl (flt hc).2.1 (by decide) (by decide) ?_
        show Steps p.tables e below (T9.setTop (mkF m 42 #[.val (.ref o0), .val (.int (Int32.ofNat q)), .val (.int (Int32.ofNat (ge - gs)))] [])) _
        refine XS.aloadN X9.here hx rfl (hb hby d17_42) rfl rfl ?_
        exact κ)
    obtain ⟨T12, X12, e12, st12⟩ := getF X9 hx hZ hown (host := "") (Or.inl (hw _ (List.mem_of_getElem? (i := 47) rfl))) Via.refl e9 Fg (g := (mkF m 43 #[.val (.ref o0), .val (.int (Int32.ofNat q)), .val (.int (Int32.ofNat (ge - gs)))] [(.ref o0)])) rfl rfl (hb hby d17_43)
    have c13 : ∀ τ, Steps p.tables e below (T12.setTop (mkF m 46 #[.val (.ref o0), .val (.int (Int32.ofNat q)), .val (.int (Int32.ofNat (ge - gs)))] [(.ref gl)])) τ → Steps p.tables e below (s₁.setTop (entryFrame m #[(.ref o0), (.int (Int32.ofNat q))] 3)) τ := fun τ κ => c11 τ (st12 τ κ)
    have c14 : ∀ τ, Steps p.tables e below (T12.setTop (mkF m 47 #[.val (.ref o0), .val (.int (Int32.ofNat q)), .val (.int (Int32.ofNat (ge - gs)))] [(.ref o0), (.ref gl)])) τ → Steps p.tables e below (s₁.setTop (entryFrame m #[(.ref o0), (.int (Int32.ofNat q))] 3)) τ := fun τ κ => c13 τ (by
        show Steps p.tables e below (T12.setTop (mkF m 46 #[.val (.ref o0), .val (.int (Int32.ofNat q)), .val (.int (Int32.ofNat (ge - gs)))] [(.ref gl)])) _
        refine XS.aloadN X12.here hx rfl (hb hby d17_46) rfl rfl ?_
        exact κ)
    obtain ⟨T15, X15, e15, st15⟩ := getF X12 hx hZ hown (host := "") (Or.inl (hw _ (List.mem_of_getElem? (i := 51) rfl))) Via.refl e12 F2 (g := (mkF m 47 #[.val (.ref o0), .val (.int (Int32.ofNat q)), .val (.int (Int32.ofNat (ge - gs)))] [(.ref o0), (.ref gl)])) rfl rfl (hb hby d17_47)
    have c16 : ∀ τ, Steps p.tables e below (T15.setTop (mkF m 50 #[.val (.ref o0), .val (.int (Int32.ofNat q)), .val (.int (Int32.ofNat (ge - gs)))] [(.int (Int32.ofNat ge)), (.ref gl)])) τ → Steps p.tables e below (s₁.setTop (entryFrame m #[(.ref o0), (.int (Int32.ofNat q))] 3)) τ := fun τ κ => c14 τ (st15 τ κ)
    have c17 : ∀ τ, Steps p.tables e below (T15.setTop (mkF m 51 #[.val (.ref o0), .val (.int (Int32.ofNat q)), .val (.int (Int32.ofNat (ge - gs)))] [(.ref o0), (.int (Int32.ofNat ge)), (.ref gl)])) τ → Steps p.tables e below (s₁.setTop (entryFrame m #[(.ref o0), (.int (Int32.ofNat q))] 3)) τ := fun τ κ => c16 τ (by
        show Steps p.tables e below (T15.setTop (mkF m 50 #[.val (.ref o0), .val (.int (Int32.ofNat q)), .val (.int (Int32.ofNat (ge - gs)))] [(.int (Int32.ofNat ge)), (.ref gl)])) _
        refine XS.aloadN X15.here hx rfl (hb hby d17_50) rfl rfl ?_
        exact κ)
    obtain ⟨T18, X18, e18, st18⟩ := getF X15 hx hZ hown (host := "") (Or.inl (hw _ (List.mem_of_getElem? (i := 47) rfl))) Via.refl e15 Fg (g := (mkF m 51 #[.val (.ref o0), .val (.int (Int32.ofNat q)), .val (.int (Int32.ofNat (ge - gs)))] [(.ref o0), (.int (Int32.ofNat ge)), (.ref gl)])) rfl rfl (hb hby d17_51)
    have c19 : ∀ τ, Steps p.tables e below (T18.setTop (mkF m 54 #[.val (.ref o0), .val (.int (Int32.ofNat q)), .val (.int (Int32.ofNat (ge - gs)))] [(.ref gl), (.int (Int32.ofNat ge)), (.ref gl)])) τ → Steps p.tables e below (s₁.setTop (entryFrame m #[(.ref o0), (.int (Int32.ofNat q))] 3)) τ := fun τ κ => c17 τ (st18 τ κ)
    have c20 : ∀ τ, Steps p.tables e below (T18.setTop (mkF m 55 #[.val (.ref o0), .val (.int (Int32.ofNat q)), .val (.int (Int32.ofNat (ge - gs)))] [(.ref o0), (.ref gl), (.int (Int32.ofNat ge)), (.ref gl)])) τ → Steps p.tables e below (s₁.setTop (entryFrame m #[(.ref o0), (.int (Int32.ofNat q))] 3)) τ := fun τ κ => c19 τ (by
        show Steps p.tables e below (T18.setTop (mkF m 54 #[.val (.ref o0), .val (.int (Int32.ofNat q)), .val (.int (Int32.ofNat (ge - gs)))] [(.ref gl), (.int (Int32.ofNat ge)), (.ref gl)])) _
        refine XS.aloadN X18.here hx rfl (hb hby d17_54) rfl rfl ?_
        exact κ)
    obtain ⟨T21, X21, e21, st21⟩ := getF X18 hx hZ hown (host := "") (Or.inl (hw _ (List.mem_of_getElem? (i := 49) rfl))) Via.refl e18 F1 (g := (mkF m 55 #[.val (.ref o0), .val (.int (Int32.ofNat q)), .val (.int (Int32.ofNat (ge - gs)))] [(.ref o0), (.ref gl), (.int (Int32.ofNat ge)), (.ref gl)])) rfl rfl (hb hby d17_55)
    have c22 : ∀ τ, Steps p.tables e below (T21.setTop (mkF m 58 #[.val (.ref o0), .val (.int (Int32.ofNat q)), .val (.int (Int32.ofNat (ge - gs)))] [(.int (Int32.ofNat gs)), (.ref gl), (.int (Int32.ofNat ge)), (.ref gl)])) τ → Steps p.tables e below (s₁.setTop (entryFrame m #[(.ref o0), (.int (Int32.ofNat q))] 3)) τ := fun τ κ => c20 τ (st21 τ κ)
    have c23 : ∀ τ, Steps p.tables e below (T21.setTop (mkF m 60 #[.val (.ref o0), .val (.int (Int32.ofNat q)), .val (.int (Int32.ofNat (ge - gs)))] [(.ref o0), (.int (Int32.ofNat q)), (.int (Int32.ofNat gs)), (.ref gl), (.int (Int32.ofNat ge)), (.ref gl)])) τ → Steps p.tables e below (s₁.setTop (entryFrame m #[(.ref o0), (.int (Int32.ofNat q))] 3)) τ := fun τ κ => c22 τ (by
        show Steps p.tables e below (T21.setTop (mkF m 58 #[.val (.ref o0), .val (.int (Int32.ofNat q)), .val (.int (Int32.ofNat (ge - gs)))] [(.int (Int32.ofNat gs)), (.ref gl), (.int (Int32.ofNat ge)), (.ref gl)])) _
        refine XS.iloadN X21.here hx rfl (hb hby d17_58) rfl ?_
        show Steps p.tables e below (T21.setTop (mkF m 59 #[.val (.ref o0), .val (.int (Int32.ofNat q)), .val (.int (Int32.ofNat (ge - gs)))] [(.int (Int32.ofNat q)), (.int (Int32.ofNat gs)), (.ref gl), (.int (Int32.ofNat ge)), (.ref gl)])) _
        refine XS.aloadN X21.here hx rfl (hb hby d17_59) rfl rfl ?_
        exact κ)
    obtain ⟨T24, X24, e24, st24⟩ := getF X21 hx hZ hown (host := "") (Or.inl (hw _ (List.mem_of_getElem? (i := 49) rfl))) Via.refl e21 F1 (g := (mkF m 60 #[.val (.ref o0), .val (.int (Int32.ofNat q)), .val (.int (Int32.ofNat (ge - gs)))] [(.ref o0), (.int (Int32.ofNat q)), (.int (Int32.ofNat gs)), (.ref gl), (.int (Int32.ofNat ge)), (.ref gl)])) rfl rfl (hb hby d17_60)
    have c25 : ∀ τ, Steps p.tables e below (T24.setTop (mkF m 63 #[.val (.ref o0), .val (.int (Int32.ofNat q)), .val (.int (Int32.ofNat (ge - gs)))] [(.int (Int32.ofNat gs)), (.int (Int32.ofNat q)), (.int (Int32.ofNat gs)), (.ref gl), (.int (Int32.ofNat ge)), (.ref gl)])) τ → Steps p.tables e below (s₁.setTop (entryFrame m #[(.ref o0), (.int (Int32.ofNat q))] 3)) τ := fun τ κ => c23 τ (st24 τ κ)
    have c26 : ∀ τ, Steps p.tables e below (T24.setTop (mkF m 64 #[.val (.ref o0), .val (.int (Int32.ofNat q)), .val (.int (Int32.ofNat (ge - gs)))] [(.int ((Int32.ofNat q) - (Int32.ofNat gs))), (.int (Int32.ofNat gs)), (.ref gl), (.int (Int32.ofNat ge)), (.ref gl)])) τ → Steps p.tables e below (s₁.setTop (entryFrame m #[(.ref o0), (.int (Int32.ofNat q))] 3)) τ := fun τ κ => c25 τ (by
        show Steps p.tables e below (T24.setTop (mkF m 63 #[.val (.ref o0), .val (.int (Int32.ofNat q)), .val (.int (Int32.ofNat (ge - gs)))] [(.int (Int32.ofNat gs)), (.int (Int32.ofNat q)), (.int (Int32.ofNat gs)), (.ref gl), (.int (Int32.ofNat ge)), (.ref gl)])) _
        refine XS.isub X24.here hx rfl (hb hby d17_63) rfl ?_
        exact κ)
    rw [show ((Int32.ofNat q) - (Int32.ofNat gs)) = (Int32.ofNat (q - gs)) from own_sub hle] at c26
    obtain ⟨T27, h27, L27, X27, e27, N27, K27q, V27, st27⟩ := cpA X24 hx hZ hown (hw _ (List.mem_of_getElem? (i := 110) rfl)) (hw _ (List.mem_of_getElem? (i := 105) rfl)) (hw _ (List.mem_of_getElem? (i := 103) rfl)) (hw _ (List.mem_of_getElem? (i := 104) rfl)) e24 FV FV (Or.inl ⟨rfl, rfl⟩) (sp := (Int32.ofNat ge)) (dp := (Int32.ofNat gs)) (nn := (Int32.ofNat (q - gs))) (own_nn (by omega)) (own_nn (by omega)) (own_nn (by omega)) (by rw [own_n32 (by omega), own_n32 (by omega), own_n32 (by omega)]; omega) (by rw [own_n32 (by omega), own_n32 (by omega), own_n32 (by omega)]; omega) rfl (by rw [own_n32 (by omega), own_n32 (by omega), hvl]; omega) N0 gg (g := (mkF m 64 #[.val (.ref o0), .val (.int (Int32.ofNat q)), .val (.int (Int32.ofNat (ge - gs)))] [(.int (Int32.ofNat (q - gs))), (.int (Int32.ofNat gs)), (.ref gl), (.int (Int32.ofNat ge)), (.ref gl)])) rfl (by rw [hml]; rfl) rfl (hb hby d17_64) (Nat.le_of_ble_eq_true rfl) (W := 0) (by show 2 * 0 + _ ≤ _; exact Nat.le_of_eq rfl) (Nat.le_of_ble_eq_true rfl)
    have Z27 : n0 ≤ h27.size := Nat.le_trans Z0 K27q.1
    have K27 : Keep h0 h27 [o0, gl] := (Keep.refl h0 [o0, gl]).trans K27q (allS (Or.inl (List.mem_of_getElem? (i := 1) rfl)) all0)
    have c28 : ∀ τ, Steps p.tables e below (T27.setTop (mkF m 67 #[.val (.ref o0), .val (.int (Int32.ofNat q)), .val (.int (Int32.ofNat (ge - gs)))] [])) τ → Steps p.tables e below (s₁.setTop (entryFrame m #[(.ref o0), (.int (Int32.ofNat q))] 3)) τ := fun τ κ => c26 τ (st27 τ κ)
    have c29 : ∀ τ, Steps p.tables e below (T27.setTop (mkF m 69 #[.val (.ref o0), .val (.int (Int32.ofNat q)), .val (.int (Int32.ofNat (ge - gs)))] [(.int (Int32.ofNat q)), (.ref o0)])) τ → Steps p.tables e below (s₁.setTop (entryFrame m #[(.ref o0), (.int (Int32.ofNat q))] 3)) τ := fun τ κ => c28 τ (by
        show Steps p.tables e below (T27.setTop (mkF m 67 #[.val (.ref o0), .val (.int (Int32.ofNat q)), .val (.int (Int32.ofNat (ge - gs)))] [])) _
        refine XS.aloadN X27.here hx rfl (hb hby d17_67) rfl rfl ?_
        show Steps p.tables e below (T27.setTop (mkF m 68 #[.val (.ref o0), .val (.int (Int32.ofNat q)), .val (.int (Int32.ofNat (ge - gs)))] [(.ref o0)])) _
        refine XS.iloadN X27.here hx rfl (hb hby d17_68) rfl ?_
        exact κ)
    have f31 := (F1.keep K27q (ninS ne_o0_gl nin0))
    have f32 := (E.keep K27q)
    obtain ⟨T30, h30, X30, e30, W30, st30⟩ := putF X27 hx hZ hown (host := "") (Or.inl (hw _ (List.mem_of_getElem? (i := 49) rfl))) Via.refl e27 f31 f32 (Or.inl (hw _ (List.mem_of_getElem? (i := 50) rfl))) (hw _ (List.mem_of_getElem? (i := 6) rfl)) (ty := .int) (by decide) rfl rfl (g := (mkF m 69 #[.val (.ref o0), .val (.int (Int32.ofNat q)), .val (.int (Int32.ofNat (ge - gs)))] [(.int (Int32.ofNat q)), (.ref o0)])) rfl rfl (hb hby d17_69)
    have F30 := f31.same W30
    have N30 := Fr.snoc X30 N27 g0
    have Z30 : n0 ≤ h30.size := Nat.le_trans Z27 (Keep.of_wr W30).1
    have K30 : Keep h0 h30 [o0, gl] := K27.wr W30 (Or.inl (List.mem_of_getElem? (i := 0) rfl))
    have c33 : ∀ τ, Steps p.tables e below (T30.setTop (mkF m 72 #[.val (.ref o0), .val (.int (Int32.ofNat q)), .val (.int (Int32.ofNat (ge - gs)))] [])) τ → Steps p.tables e below (s₁.setTop (entryFrame m #[(.ref o0), (.int (Int32.ofNat q))] 3)) τ := fun τ κ => c29 τ (st30 τ κ)
    have c34 : ∀ τ, Steps p.tables e below (T30.setTop (mkF m 76 #[.val (.ref o0), .val (.int (Int32.ofNat q)), .val (.int (Int32.ofNat (ge - gs)))] [(.int ((Int32.ofNat q) + (Int32.ofNat (ge - gs)))), (.ref o0)])) τ → Steps p.tables e below (s₁.setTop (entryFrame m #[(.ref o0), (.int (Int32.ofNat q))] 3)) τ := fun τ κ => c33 τ (by
        show Steps p.tables e below (T30.setTop (mkF m 72 #[.val (.ref o0), .val (.int (Int32.ofNat q)), .val (.int (Int32.ofNat (ge - gs)))] [])) _
        refine XS.aloadN X30.here hx rfl (hb hby d17_72) rfl rfl ?_
        show Steps p.tables e below (T30.setTop (mkF m 73 #[.val (.ref o0), .val (.int (Int32.ofNat q)), .val (.int (Int32.ofNat (ge - gs)))] [(.ref o0)])) _
        refine XS.iloadN X30.here hx rfl (hb hby d17_73) rfl ?_
        show Steps p.tables e below (T30.setTop (mkF m 74 #[.val (.ref o0), .val (.int (Int32.ofNat q)), .val (.int (Int32.ofNat (ge - gs)))] [(.int (Int32.ofNat q)), (.ref o0)])) _
        refine XS.iloadN X30.here hx rfl (hb hby d17_74) rfl ?_
        show Steps p.tables e below (T30.setTop (mkF m 75 #[.val (.ref o0), .val (.int (Int32.ofNat q)), .val (.int (Int32.ofNat (ge - gs)))] [(.int (Int32.ofNat (ge - gs))), (.int (Int32.ofNat q)), (.ref o0)])) _
        refine XS.iadd X30.here hx rfl (hb hby d17_75) rfl ?_
        exact κ)
    rw [show ((Int32.ofNat q) + (Int32.ofNat (ge - gs))) = (Int32.ofNat (q + (ge - gs))) from own_add _ _] at c34
    have f36 := ((F2.keep K27q (ninS ne_o0_gl nin0)).other W30 (Or.inr (slot_ne (Or.inl (hw _ (List.mem_of_getElem? (i := 52) rfl))) (Or.inl (hw _ (List.mem_of_getElem? (i := 50) rfl))) (by decide) (t := .int) (t' := .int) (by decide) (by decide))))
    have f37 := (f32.wr W30)
    obtain ⟨T35, h35, X35, e35, W35, st35⟩ := putF X30 hx hZ hown (host := "") (Or.inl (hw _ (List.mem_of_getElem? (i := 51) rfl))) Via.refl e30 f36 f37 (Or.inl (hw _ (List.mem_of_getElem? (i := 52) rfl))) (hw _ (List.mem_of_getElem? (i := 6) rfl)) (ty := .int) (by decide) rfl rfl (g := (mkF m 76 #[.val (.ref o0), .val (.int (Int32.ofNat q)), .val (.int (Int32.ofNat (ge - gs)))] [(.int (Int32.ofNat (q + (ge - gs)))), (.ref o0)])) rfl rfl (hb hby d17_76)
    have F35 := f36.same W35
    have N35 := Fr.snoc X35 N30 g0
    have Z35 : n0 ≤ h35.size := Nat.le_trans Z30 (Keep.of_wr W35).1
    have K35 : Keep h0 h35 [o0, gl] := K30.wr W35 (Or.inl (List.mem_of_getElem? (i := 0) rfl))
    have c38 : ∀ τ, Steps p.tables e below (T35.setTop (mkF m 79 #[.val (.ref o0), .val (.int (Int32.ofNat q)), .val (.int (Int32.ofNat (ge - gs)))] [])) τ → Steps p.tables e below (s₁.setTop (entryFrame m #[(.ref o0), (.int (Int32.ofNat q))] 3)) τ := fun τ κ => c34 τ (st35 τ κ)
    have f39 := (f37.wr W35)
    have f40 := (((Fg.keep K27q (ninS ne_o0_gl nin0)).other W30 (Or.inr (slot_ne (Or.inr (hw _ (List.mem_of_getElem? (i := 48) rfl))) (Or.inl (hw _ (List.mem_of_getElem? (i := 50) rfl))) (by decide) (t := (.array .int)) (t' := .int) (by decide) (by decide)))).other W35 (Or.inr (slot_ne (Or.inr (hw _ (List.mem_of_getElem? (i := 48) rfl))) (Or.inl (hw _ (List.mem_of_getElem? (i := 52) rfl))) (by decide) (t := (.array .int)) (t' := .int) (by decide) (by decide))))
    have f41 := (F30.other W35 (Or.inr (slot_ne (Or.inl (hw _ (List.mem_of_getElem? (i := 50) rfl))) (Or.inl (hw _ (List.mem_of_getElem? (i := 52) rfl))) (by decide) (t := .int) (t' := .int) (by decide) (by decide))))
    have f42 := (((Fh.keep K27q (ninS ne_o0_gl nin0)).other W30 (Or.inr (slot_ne (Or.inr (hw _ (List.mem_of_getElem? (i := 37) rfl))) (Or.inl (hw _ (List.mem_of_getElem? (i := 50) rfl))) (by decide) (t := (.object "java/util/BitSet")) (t' := .int) (by decide) (by decide)))).other W35 (Or.inr (slot_ne (Or.inr (hw _ (List.mem_of_getElem? (i := 37) rfl))) (Or.inl (hw _ (List.mem_of_getElem? (i := 52) rfl))) (by decide) (t := (.object "java/util/BitSet")) (t' := .int) (by decide) (by decide))))
    have f43 := ((V27.other W30 (Ne.symm ne_o0_gl)).other W35 (Ne.symm ne_o0_gl))
    obtain ⟨fs, hr, hrun, hended, hW, hsame⟩ := X35.leave (v := none) (fun _ => rfl)
    refine ⟨_, _, c38 _ (X35.returnOut hx Bd.returns (hb hby d17_79) hr), hrun, hended, _, _, rfl, ?_, ⟨_, rfl⟩, hW, hsame.mono (by decide) (by decide)⟩
    show Q_rm17 Z o0 gl bs kg n gs ge q h0 n0 _ T35.heap _
    rw [e35]
    exact ⟨rfl, N35, K35, f39, f40, f41, F35, f42, ⟨_, f43, own_splice hvl (by rw [List.length_map, List.length_range]) (by rw [own_n32 (by omega), own_n32 (by omega)]; omega)⟩⟩
theorem d12_0 : decode prog_50_method_4_code 0 = .ok (.aload_n 0, 1) := by decide +kernel
theorem d12_1 : decode prog_50_method_4_code 1 = .ok (.getfield 22, 3) := by decide +kernel
theorem d12_4 : decode prog_50_method_4_code 4 = .ok (.aload_n 0, 1) := by decide +kernel
theorem d12_5 : decode prog_50_method_4_code 5 = .ok (.iload_n 1, 1) := by decide +kernel
theorem d12_6 : decode prog_50_method_4_code 6 = .ok (.invokevirtual 36, 3) := by decide +kernel
theorem d12_9 : decode prog_50_method_4_code 9 = .ok (.iload_n 3, 1) := by decide +kernel
theorem d12_10 : decode prog_50_method_4_code 10 = .ok (.iastore, 1) := by decide +kernel
theorem d12_11 : decode prog_50_method_4_code 11 = .ok (.aload_n 0, 1) := by decide +kernel
theorem d12_12 : decode prog_50_method_4_code 12 = .ok (.getfield 10, 3) := by decide +kernel
theorem d12_15 : decode prog_50_method_4_code 15 = .ok (.iload_n 3, 1) := by decide +kernel
theorem d12_16 : decode prog_50_method_4_code 16 = .ok (.invokevirtual 32, 3) := by decide +kernel
theorem d12_19 : decode prog_50_method_4_code 19 = .ok (.iload_n 2, 1) := by decide +kernel
theorem d12_20 : decode prog_50_method_4_code 20 = .ok (.iconst 1, 1) := by decide +kernel
theorem d12_21 : decode prog_50_method_4_code 21 = .ok (.if_icmp .le 22, 3) := by decide +kernel
theorem d12_24 : decode prog_50_method_4_code 24 = .ok (.aload_n 0, 1) := by decide +kernel
theorem d12_25 : decode prog_50_method_4_code 25 = .ok (.iload_n 1, 1) := by decide +kernel
theorem d12_26 : decode prog_50_method_4_code 26 = .ok (.iconst 1, 1) := by decide +kernel
theorem d12_27 : decode prog_50_method_4_code 27 = .ok (.iadd, 1) := by decide +kernel
theorem d12_28 : decode prog_50_method_4_code 28 = .ok (.invokevirtual 40, 3) := by decide +kernel
theorem d12_31 : decode prog_50_method_4_code 31 = .ok (.aload_n 0, 1) := by decide +kernel
theorem d12_32 : decode prog_50_method_4_code 32 = .ok (.dup, 1) := by decide +kernel
theorem d12_33 : decode prog_50_method_4_code 33 = .ok (.getfield 29, 3) := by decide +kernel
theorem d12_36 : decode prog_50_method_4_code 36 = .ok (.iload_n 2, 1) := by decide +kernel
theorem d12_37 : decode prog_50_method_4_code 37 = .ok (.iconst 1, 1) := by decide +kernel
theorem d12_38 : decode prog_50_method_4_code 38 = .ok (.isub, 1) := by decide +kernel
theorem d12_39 : decode prog_50_method_4_code 39 = .ok (.iadd, 1) := by decide +kernel
theorem d12_40 : decode prog_50_method_4_code 40 = .ok (.putfield 29, 3) := by decide +kernel
theorem d12_43 : decode prog_50_method_4_code 43 = .ok (.return_, 1) := by decide +kernel
theorem ef_rm12 (m : MethodId) (x0 : Addr) (x1 : Int32) (x2 : Int32) (x3 : Int32) : entryFrame m #[(.ref x0), (.int x1), (.int x2), (.int x3)] 4 = mkF m 0 #[.val (.ref x0), .val (.int x1), .val (.int x2), .val (.int x3)] [] := by first | (simp [entryFrame, mkF, argsToLocals, Value.category]; done) | rfl
def Q_rm12 (Z : State) (o0 : Addr) (gl bs t : Addr) (kg : ClassId) (n gs ge u len pos cnt gy : Nat) (h0 : Heap) (n0 : Nat) (v : Option Value) (h : Heap) (L : List Loc) : Prop := v = none ∧ Fr n0 L ∧ ∃ (t' : Addr) (u' : Nat), Keep h0 h [o0, gl, bs, t] ∧ own_R Z h o0 gl bs t' kg n (own_e cnt (pos + 1) gs) (own_e cnt (pos + cnt + (ge - gs)) ge) u' (own_g len (gy / 64 + 1)) n0
set_option maxRecDepth 65536 in
set_option maxHeartbeats 40000000 in
theorem rm12 (l : Launch) (Z : State) (a0 : Array Value) (hw : ∀ d ∈ tables_1, d.before a0 Z = true) (ws : List Jvm.Cond) (o0 : Addr) (gl bs t : Addr) (kg : ClassId) (n gs ge u len pos cnt gy : Nat) (h0 : Heap) (n0 : Nat) (Z0 : n0 ≤ h0.size) (R0 : own_R Z h0 o0 gl bs t kg n gs ge u len n0) (h1 : gs ≤ ge) (h2 : ge ≤ n) (h3 : n ≤ 7) (h4 : 1 ≤ cnt) (h5 : pos + cnt + (ge - gs) ≤ n) (h6 : gy ≤ 65535) (SA : Sta Z Z.heap "java/util/BitSet" "$assertionsDisabled" "Z" (.int (1 : Int32))) (Od : Old Z n0 h0) :
    MetFree l (⟨"com/example/tapeline/tapeline/OpenTypeLayout$GlyphRun", "replace", "(III)V"⟩ : MethodName) (head1 (Jvm.Cond.code (⟨"com/example/tapeline/tapeline/OpenTypeLayout$GlyphRun", "replace", "(III)V"⟩ : MethodName) prog_50_method_4_code 4 none :: ws) ({ frames := 5, cells := 1, slots := 2 * (own_g len (gy / 64 + 1) - len), locals := 75 } : Room)) (fun a U => a = #[(.ref o0), (.int (Int32.ofNat pos)), (.int (Int32.ofNat cnt)), (.int (Int32.ofNat gy))] ∧ Z.Warmed39 U.vm ∧ U.heap = h0) (fun _ _ _ _ _ => True) (fun _ U o U' => ∃ v L, o = .returned v ∧ Q_rm12 Z o0 gl bs t kg n gs ge u len pos cnt gy h0 n0 v U'.heap L ∧ FrameEnd U o U' L ({ frames := 5, cells := 1, slots := 2 * (own_g len (gy / 64 + 1) - len), locals := 75 } : Room).cells ({ frames := 5, cells := 1, slots := 2 * (own_g len (gy / 64 + 1) - len), locals := 75 } : Room).slots) := by
  refine MetFree.of_bodySF (plainFor_of_name pn_1) hisR ?_
  intro p e s m args below meth c s₁ Bd hml0 hP hK
  obtain ⟨rfl, hZ, hh⟩ := hP
  have hx := Bd.exec
  have hby := Bd.bytes
  have hml : c.maxLocals = 4 := hml0
  have hown : s.vm.findClass "com/example/tapeline/tapeline/OpenTypeLayout$GlyphRun" = some m.cls := findClass_of_methodNamed Bd.named
  have hnm := (name_of_methodNamed Bd.named Bd.method).1
  have X0 : Stand p l e ({ frames := 5, cells := 1, slots := 2 * (own_g len (gy / 64 + 1) - len), locals := 75 } : Room) s m #[(.ref o0), (.int (Int32.ofNat pos)), (.int (Int32.ofNat cnt)), (.int (Int32.ofNat gy))] below meth c s₁ [] 0 0 := Stand.of_body Bd
  have e0 : s₁.heap = h0 := by rw [← hh, Bd.state]; rfl
  have N0 := Fr.nil n0
  have c0 : ∀ τ, Steps p.tables e below (s₁.setTop (mkF m 0 #[.val (.ref o0), .val (.int (Int32.ofNat pos)), .val (.int (Int32.ofNat cnt)), .val (.int (Int32.ofNat gy))] [])) τ → Steps p.tables e below (s₁.setTop (entryFrame m #[(.ref o0), (.int (Int32.ofNat pos)), (.int (Int32.ofNat cnt)), (.int (Int32.ofNat gy))] 4)) τ := fun τ κ => castTop (ef_rm12 m o0 (Int32.ofNat pos) (Int32.ofNat cnt) (Int32.ofNat gy)) κ
  obtain ⟨E, Fg, F1, F2, Fh, ⟨vg, FV, hvl⟩, B, g0, gg⟩ := id R0
  obtain ⟨EB, FuB, ⟨sxB, FsB⟩, FwB, ⟨kaB, vsB, FVB, hvlB⟩, hulB, hl1B, hl2B, g0B, gtB⟩ := id B
  have ne_bs_t : bs ≠ t := own_ne_ea EB (hw _ (List.mem_of_getElem? (i := 15) rfl)) FVB
  have ne_o0_gl : o0 ≠ gl := own_ne_ea E (hw _ (List.mem_of_getElem? (i := 6) rfl)) FV
  have ne_o0_bs : o0 ≠ bs := ne_exa E EB (by decide)
  have ne_o0_t : o0 ≠ t := own_ne_ea E (hw _ (List.mem_of_getElem? (i := 6) rfl)) FVB
  have ne_bs_gl : bs ≠ gl := own_ne_ea EB (hw _ (List.mem_of_getElem? (i := 15) rfl)) FV
  have ne_gl_t : gl ≠ t := own_ne_il FV FVB
  have hix := own_ixlt h1 h2 (show pos + 1 + (ge - gs) ≤ n from by omega)
  have hg := own_gle len (gy / 64 + 1)
  have c1 : ∀ τ, Steps p.tables e below (s₁.setTop (mkF m 1 #[.val (.ref o0), .val (.int (Int32.ofNat pos)), .val (.int (Int32.ofNat cnt)), .val (.int (Int32.ofNat gy))] [(.ref o0)])) τ → Steps p.tables e below (s₁.setTop (entryFrame m #[(.ref o0), (.int (Int32.ofNat pos)), (.int (Int32.ofNat cnt)), (.int (Int32.ofNat gy))] 4)) τ := fun τ κ => c0 τ (by
      show Steps p.tables e below (s₁.setTop (mkF m 0 #[.val (.ref o0), .val (.int (Int32.ofNat pos)), .val (.int (Int32.ofNat cnt)), .val (.int (Int32.ofNat gy))] [])) _
      refine XS.aloadN X0.here hx rfl (hb hby d12_0) rfl rfl ?_
      exact κ)
  obtain ⟨T2, X2, e2, st2⟩ := getF X0 hx hZ hown (host := "") (Or.inl (hw _ (List.mem_of_getElem? (i := 47) rfl))) Via.refl e0 Fg (g := (mkF m 1 #[.val (.ref o0), .val (.int (Int32.ofNat pos)), .val (.int (Int32.ofNat cnt)), .val (.int (Int32.ofNat gy))] [(.ref o0)])) rfl rfl (hb hby d12_1)
  have c3 : ∀ τ, Steps p.tables e below (T2.setTop (mkF m 4 #[.val (.ref o0), .val (.int (Int32.ofNat pos)), .val (.int (Int32.ofNat cnt)), .val (.int (Int32.ofNat gy))] [(.ref gl)])) τ → Steps p.tables e below (s₁.setTop (entryFrame m #[(.ref o0), (.int (Int32.ofNat pos)), (.int (Int32.ofNat cnt)), (.int (Int32.ofNat gy))] 4)) τ := fun τ κ => c1 τ (st2 τ κ)
  have c4 : ∀ τ, Steps p.tables e below (T2.setTop (mkF m 6 #[.val (.ref o0), .val (.int (Int32.ofNat pos)), .val (.int (Int32.ofNat cnt)), .val (.int (Int32.ofNat gy))] [(.int (Int32.ofNat pos)), (.ref o0), (.ref gl)])) τ → Steps p.tables e below (s₁.setTop (entryFrame m #[(.ref o0), (.int (Int32.ofNat pos)), (.int (Int32.ofNat cnt)), (.int (Int32.ofNat gy))] 4)) τ := fun τ κ => c3 τ (by
      show Steps p.tables e below (T2.setTop (mkF m 4 #[.val (.ref o0), .val (.int (Int32.ofNat pos)), .val (.int (Int32.ofNat cnt)), .val (.int (Int32.ofNat gy))] [(.ref gl)])) _
      refine XS.aloadN X2.here hx rfl (hb hby d12_4) rfl rfl ?_
      show Steps p.tables e below (T2.setTop (mkF m 5 #[.val (.ref o0), .val (.int (Int32.ofNat pos)), .val (.int (Int32.ofNat cnt)), .val (.int (Int32.ofNat gy))] [(.ref o0), (.ref gl)])) _
      refine XS.iloadN X2.here hx rfl (hb hby d12_5) rfl ?_
      exact κ)
  obtain ⟨cq5, q5, q5'⟩ := E.cell
  obtain ⟨_, _, ⟨T5, L5, k5, n5⟩, -, X5, ⟨Lc5, hQ5, l5, y5, z5⟩, st5⟩ := X2.privateBack hx (y := (⟨"com/example/tapeline/tapeline/OpenTypeLayout$GlyphRun", "index", "(I)I"⟩ : MethodName)) hown (mvT hZ (hw _ (List.mem_of_getElem? (i := 87) rfl))) (mvT hZ (hw _ (List.mem_of_getElem? (i := 88) rfl))) (own_sel hZ (hw _ (List.mem_of_getElem? (i := 6) rfl)) (hw _ (List.mem_of_getElem? (i := 89) rfl)) (hw _ (List.mem_of_getElem? (i := 88) rfl)) (by decide)) (Cond.privateMethod_at (mvP hZ (hw _ (List.mem_of_getElem? (i := 89) rfl)) (args := #[]))) (mvT hZ (hw _ (List.mem_of_getElem? (i := 90) rfl))) (by decide) (backOf (W := 1) (rm13 l Z a0 hw [] o0 gs ge pos h0 n0 Z0 F1 F2 h1 (by omega) (by omega)) hZ (hw _ (List.mem_of_getElem? (i := 90) rfl)) (hw _ (List.mem_of_getElem? (i := 7) rfl)) (Nat.le_of_ble_eq_true rfl) (Nat.le_of_ble_eq_true rfl)) (g := (mkF m 6 #[.val (.ref o0), .val (.int (Int32.ofNat pos)), .val (.int (Int32.ofNat cnt)), .val (.int (Int32.ofNat gy))] [(.int (Int32.ofNat pos)), (.ref o0), (.ref gl)])) rfl (by rw [hml]; rfl) (Steps.refl _) (a := o0) (by rw [e2]; exact q5) q5' (argsL := [(.int (Int32.ofNat pos))]) (rest := [(.ref gl)]) (lenOf pd_3 rfl) rfl (by show 2 * 0 + _ ≤ _; exact Nat.le_of_eq rfl) (hb hby d12_6) (fun _ _ => ⟨rfl, e2, (Nat.le_of_ble_eq_true rfl), (Nat.zero_le _)⟩)
  dsimp only [Pt.U, Pt.locs, Pt.cells, Pt.slots] at X5 l5 y5 z5 st5 hQ5
  rw [y5, z5] at X5
  obtain ⟨rfl, N5q, e5⟩ := hQ5
  have N5 : Fr n0 L5 := by rw [l5]; exact Fr.app N0 N5q
  replace X5 := X5.more (cells' := 0) (slots' := 0) (Nat.le_refl _) (Nat.le_refl _)
  replace X5 : Stand p l e _ s m _ below meth c T5 L5 0 0 := X5
  clear l5 y5 z5
  have c6 : ∀ τ, Steps p.tables e below (T5.setTop (mkF m 9 #[.val (.ref o0), .val (.int (Int32.ofNat pos)), .val (.int (Int32.ofNat cnt)), .val (.int (Int32.ofNat gy))] [(.int (Int32.ofNat (own_ix pos gs ge))), (.ref gl)])) τ → Steps p.tables e below (s₁.setTop (entryFrame m #[(.ref o0), (.int (Int32.ofNat pos)), (.int (Int32.ofNat cnt)), (.int (Int32.ofNat gy))] 4)) τ := fun τ κ => c4 τ (st5.trans κ)
  have c7 : ∀ τ, Steps p.tables e below (T5.setTop (mkF m 10 #[.val (.ref o0), .val (.int (Int32.ofNat pos)), .val (.int (Int32.ofNat cnt)), .val (.int (Int32.ofNat gy))] [(.int (Int32.ofNat gy)), (.int (Int32.ofNat (own_ix pos gs ge))), (.ref gl)])) τ → Steps p.tables e below (s₁.setTop (entryFrame m #[(.ref o0), (.int (Int32.ofNat pos)), (.int (Int32.ofNat cnt)), (.int (Int32.ofNat gy))] 4)) τ := fun τ κ => c6 τ (by
      show Steps p.tables e below (T5.setTop (mkF m 9 #[.val (.ref o0), .val (.int (Int32.ofNat pos)), .val (.int (Int32.ofNat cnt)), .val (.int (Int32.ofNat gy))] [(.int (Int32.ofNat (own_ix pos gs ge))), (.ref gl)])) _
      refine XS.iloadN X5.here hx rfl (hb hby d12_9) rfl ?_
      exact κ)
  obtain ⟨T8, h8, L8, X8, e8, N8, W8, V8, st8⟩ := own_stI X5 hx hZ e5 FV (j := (Int32.ofNat (own_ix pos gs ge))) ⟨own_nn (by omega), own_lt hix (by omega)⟩ (own_ix pos gs ge) (own_n32 (by omega)) (by rw [hvl]; exact hix) N5 gg (g := (mkF m 10 #[.val (.ref o0), .val (.int (Int32.ofNat pos)), .val (.int (Int32.ofNat cnt)), .val (.int (Int32.ofNat gy))] [(.int (Int32.ofNat gy)), (.int (Int32.ofNat (own_ix pos gs ge))), (.ref gl)])) rfl rfl (hb hby d12_10)
  have Z8 : n0 ≤ h8.size := Nat.le_trans Z0 (Keep.of_wr W8).1
  have K8 : Keep h0 h8 [o0, gl, bs, t] := (Keep.refl h0 [o0, gl, bs, t]).wr W8 (Or.inl (List.mem_of_getElem? (i := 1) rfl))
  have c9 : ∀ τ, Steps p.tables e below (T8.setTop (mkF m 11 #[.val (.ref o0), .val (.int (Int32.ofNat pos)), .val (.int (Int32.ofNat cnt)), .val (.int (Int32.ofNat gy))] [])) τ → Steps p.tables e below (s₁.setTop (entryFrame m #[(.ref o0), (.int (Int32.ofNat pos)), (.int (Int32.ofNat cnt)), (.int (Int32.ofNat gy))] 4)) τ := fun τ κ => c7 τ (st8 τ κ)
  have c10 : ∀ τ, Steps p.tables e below (T8.setTop (mkF m 12 #[.val (.ref o0), .val (.int (Int32.ofNat pos)), .val (.int (Int32.ofNat cnt)), .val (.int (Int32.ofNat gy))] [(.ref o0)])) τ → Steps p.tables e below (s₁.setTop (entryFrame m #[(.ref o0), (.int (Int32.ofNat pos)), (.int (Int32.ofNat cnt)), (.int (Int32.ofNat gy))] 4)) τ := fun τ κ => c9 τ (by
      show Steps p.tables e below (T8.setTop (mkF m 11 #[.val (.ref o0), .val (.int (Int32.ofNat pos)), .val (.int (Int32.ofNat cnt)), .val (.int (Int32.ofNat gy))] [])) _
      refine XS.aloadN X8.here hx rfl (hb hby d12_11) rfl rfl ?_
      exact κ)
  have f11 := (Fh.other W8 (Or.inl ne_o0_gl))
  obtain ⟨T12, X12, e12, st12⟩ := getF X8 hx hZ hown (host := "") (Or.inl (hw _ (List.mem_of_getElem? (i := 36) rfl))) Via.refl e8 f11 (g := (mkF m 12 #[.val (.ref o0), .val (.int (Int32.ofNat pos)), .val (.int (Int32.ofNat cnt)), .val (.int (Int32.ofNat gy))] [(.ref o0)])) rfl rfl (hb hby d12_12)
  have c13 : ∀ τ, Steps p.tables e below (T12.setTop (mkF m 15 #[.val (.ref o0), .val (.int (Int32.ofNat pos)), .val (.int (Int32.ofNat cnt)), .val (.int (Int32.ofNat gy))] [(.ref bs)])) τ → Steps p.tables e below (s₁.setTop (entryFrame m #[(.ref o0), (.int (Int32.ofNat pos)), (.int (Int32.ofNat cnt)), (.int (Int32.ofNat gy))] 4)) τ := fun τ κ => c10 τ (st12 τ κ)
  have f14 := (EB.wr W8)
  have f15 := (FuB.other W8 (Or.inl ne_bs_gl))
  have f16 := (FsB.other W8 (Or.inl ne_bs_gl))
  have f17 := (FwB.other W8 (Or.inl ne_bs_gl))
  have f18 := (FVB.other W8 (Ne.symm ne_gl_t))
  have B1 : own_B Z h8 bs t u len n0 := ⟨f14, f15, ⟨_, f16⟩, f17, ⟨_, _, f18, hvlB⟩, by omega, by omega, by omega, g0B, gtB⟩
  have f19 := (Od.wr W8 gg)
  have c20 : ∀ τ, Steps p.tables e below (T12.setTop (mkF m 16 #[.val (.ref o0), .val (.int (Int32.ofNat pos)), .val (.int (Int32.ofNat cnt)), .val (.int (Int32.ofNat gy))] [(.int (Int32.ofNat gy)), (.ref bs)])) τ → Steps p.tables e below (s₁.setTop (entryFrame m #[(.ref o0), (.int (Int32.ofNat pos)), (.int (Int32.ofNat cnt)), (.int (Int32.ofNat gy))] 4)) τ := fun τ κ => c13 τ (by
      show Steps p.tables e below (T12.setTop (mkF m 15 #[.val (.ref o0), .val (.int (Int32.ofNat pos)), .val (.int (Int32.ofNat cnt)), .val (.int (Int32.ofNat gy))] [(.ref bs)])) _
      refine XS.iloadN X12.here hx rfl (hb hby d12_15) rfl ?_
      exact κ)
  obtain ⟨cq21, kq21, q21a, q21b, q21c⟩ := isOf hZ e12 f14
  obtain ⟨_, _, ⟨T21, L21, k21, n21⟩, -, X21, ⟨Lc21, hQ21, l21, y21, z21⟩, st21⟩ := X12.virtualBack hx (y := (⟨"java/util/BitSet", "set", "(I)V"⟩ : MethodName)) (z := (⟨"java/util/BitSet", "set", "(I)V"⟩ : MethodName)) hown (mvT hZ (hw _ (List.mem_of_getElem? (i := 59) rfl))) (mvT hZ (hw _ (List.mem_of_getElem? (i := 60) rfl))) (notFace_of_selects (args := #[]) (mvT hZ (hw _ (List.mem_of_getElem? (i := 62) rfl)))) (mvT hZ (hw _ (List.mem_of_getElem? (i := 62) rfl))) (mvT hZ (hw _ (List.mem_of_getElem? (i := 61) rfl))) (by decide) (backOf (W := 0) (rm8 l Z a0 hw [] bs t u len gy h8 n0 Z8 B1 h6 SA f19) hZ (hw _ (List.mem_of_getElem? (i := 63) rfl)) (hw _ (List.mem_of_getElem? (i := 16) rfl)) (Nat.le_of_ble_eq_true rfl) (Nat.le_of_ble_eq_true rfl)) q21a q21c (g := (mkF m 16 #[.val (.ref o0), .val (.int (Int32.ofNat pos)), .val (.int (Int32.ofNat cnt)), .val (.int (Int32.ofNat gy))] [(.int (Int32.ofNat gy)), (.ref bs)])) rfl (by rw [hml]; rfl) (Steps.refl _) (argsL := [(.int (Int32.ofNat gy))]) (rest := []) (lenOf pd_4 rfl) rfl (by show 2 * 0 + _ ≤ _; exact Nat.le_of_eq rfl) (hb hby d12_16) (fun _ _ => ⟨rfl, e12, (Nat.le_of_ble_eq_true rfl), (Nat.le_of_eq (Nat.zero_add _))⟩)
  dsimp only [Pt.U, Pt.locs, Pt.cells, Pt.slots] at X21 l21 y21 z21 st21 hQ21
  rw [y21, z21] at X21
  obtain ⟨rfl, N21q, t', u', K21q, B', ht'⟩ := hQ21
  have N21 : Fr n0 L21 := by rw [l21]; exact Fr.app N8 N21q
  replace X21 := X21.more (cells' := 1) (slots' := (0 + 2 * (own_g len (gy / 64 + 1) - len))) (Nat.le_refl _) (Nat.le_refl _)
  replace X21 : Stand p l e _ s m _ below meth c T21 L21 1 (0 + 2 * (own_g len (gy / 64 + 1) - len)) := X21
  clear l21 y21 z21
  have Z21 : n0 ≤ T21.heap.size := Nat.le_trans Z8 K21q.1
  have K21 : Keep h0 T21.heap [o0, gl, bs, t] := K8.trans K21q (allS (Or.inl (List.mem_of_getElem? (i := 2) rfl)) (allS (Or.inl (List.mem_of_getElem? (i := 3) rfl)) all0))
  have c22 : ∀ τ, Steps p.tables e below (T21.setTop (mkF m 19 #[.val (.ref o0), .val (.int (Int32.ofNat pos)), .val (.int (Int32.ofNat cnt)), .val (.int (Int32.ofNat gy))] [])) τ → Steps p.tables e below (s₁.setTop (entryFrame m #[(.ref o0), (.int (Int32.ofNat pos)), (.int (Int32.ofNat cnt)), (.int (Int32.ofNat gy))] 4)) τ := fun τ κ => c20 τ (st21.trans κ)
  obtain ⟨Eb, Fub, ⟨sxb, Fsb⟩, Fwb, ⟨kab, vsb, FVb, hvlb⟩, hulb, hl1b, hl2b, g0b, gtb⟩ := id B'
  have ne_bs_t' : bs ≠ t' := own_ne_ea Eb (hw _ (List.mem_of_getElem? (i := 15) rfl)) FVb
  have f23 := ((E.wr W8).keep K21q)
  have f24 := (V8.keep K21q (ninS (Ne.symm ne_bs_gl) (ninS ne_gl_t nin0)))
  have ne_o0_t' : o0 ≠ t' := own_ne_ea f23 (hw _ (List.mem_of_getElem? (i := 6) rfl)) FVb
  have ne_gl_t' : gl ≠ t' := own_ne_il f24 FVb
  have c25 : ∀ τ, Steps p.tables e below (T21.setTop (mkF m 21 #[.val (.ref o0), .val (.int (Int32.ofNat pos)), .val (.int (Int32.ofNat cnt)), .val (.int (Int32.ofNat gy))] [(.int (1 : Int32)), (.int (Int32.ofNat cnt))])) τ → Steps p.tables e below (s₁.setTop (entryFrame m #[(.ref o0), (.int (Int32.ofNat pos)), (.int (Int32.ofNat cnt)), (.int (Int32.ofNat gy))] 4)) τ := fun τ κ => c22 τ (by
      show Steps p.tables e below (T21.setTop (mkF m 19 #[.val (.ref o0), .val (.int (Int32.ofNat pos)), .val (.int (Int32.ofNat cnt)), .val (.int (Int32.ofNat gy))] [])) _
      refine XS.iloadN X21.here hx rfl (hb hby d12_19) rfl ?_
      show Steps p.tables e below (T21.setTop (mkF m 20 #[.val (.ref o0), .val (.int (Int32.ofNat pos)), .val (.int (Int32.ofNat cnt)), .val (.int (Int32.ofNat gy))] [(.int (Int32.ofNat cnt))])) _
      refine XS.iconst X21.here hx rfl (hb hby d12_20) ?_
      exact κ)
  by_cases hc : (1 : Int32) < (Int32.ofNat cnt)
  · have hlt : 1 < cnt := own_ltE (a := 1) (by omega) (by omega) hc
    have c26 : ∀ τ, Steps p.tables e below (T21.setTop (mkF m 28 #[.val (.ref o0), .val (.int (Int32.ofNat pos)), .val (.int (Int32.ofNat cnt)), .val (.int (Int32.ofNat gy))] [(.int ((Int32.ofNat pos) + (1 : Int32))), (.ref o0)])) τ → Steps p.tables e below (s₁.setTop (entryFrame m #[(.ref o0), (.int (Int32.ofNat pos)), (.int (Int32.ofNat cnt)), (.int (Int32.ofNat gy))] 4)) τ := fun τ κ => c25 τ (by
        show Steps p.tables e below (T21.setTop (mkF m 21 #[.val (.ref o0), .val (.int (Int32.ofNat pos)), .val (.int (Int32.ofNat cnt)), .val (.int (Int32.ofNat gy))] [(.int (1 : Int32)), (.int (Int32.ofNat cnt))])) _
        refine XS.icmpNo X21.here hx rfl (hb hby d12_21) rfl (tlt hc).2.2.2 ?_
        show Steps p.tables e below (T21.setTop (mkF m 24 #[.val (.ref o0), .val (.int (Int32.ofNat pos)), .val (.int (Int32.ofNat cnt)), .val (.int (Int32.ofNat gy))] [])) _
        refine XS.aloadN X21.here hx rfl (hb hby d12_24) rfl rfl ?_
        show Steps p.tables e below (T21.setTop (mkF m 25 #[.val (.ref o0), .val (.int (Int32.ofNat pos)), .val (.int (Int32.ofNat cnt)), .val (.int (Int32.ofNat gy))] [(.ref o0)])) _
        refine XS.iloadN X21.here hx rfl (hb hby d12_25) rfl ?_
        show Steps p.tables e below (T21.setTop (mkF m 26 #[.val (.ref o0), .val (.int (Int32.ofNat pos)), .val (.int (Int32.ofNat cnt)), .val (.int (Int32.ofNat gy))] [(.int (Int32.ofNat pos)), (.ref o0)])) _
        refine XS.iconst X21.here hx rfl (hb hby d12_26) ?_
        show Steps p.tables e below (T21.setTop (mkF m 27 #[.val (.ref o0), .val (.int (Int32.ofNat pos)), .val (.int (Int32.ofNat cnt)), .val (.int (Int32.ofNat gy))] [(.int (1 : Int32)), (.int (Int32.ofNat pos)), (.ref o0)])) _
        refine XS.iadd X21.here hx rfl (hb hby d12_27) rfl ?_
        exact κ)
    rw [show ((Int32.ofNat pos) + (1 : Int32)) = (Int32.ofNat (pos + 1)) from own_add pos 1] at c26
    have f27 := ((Fg.other W8 (Or.inl ne_o0_gl)).keep K21q (ninS ne_o0_bs (ninS ne_o0_t nin0)))
    have f28 := ((F1.other W8 (Or.inl ne_o0_gl)).keep K21q (ninS ne_o0_bs (ninS ne_o0_t nin0)))
    have f29 := ((F2.other W8 (Or.inl ne_o0_gl)).keep K21q (ninS ne_o0_bs (ninS ne_o0_t nin0)))
    have f30 := (f11.keep K21q (ninS ne_o0_bs (ninS ne_o0_t nin0)))
    obtain ⟨cq31, q31, q31'⟩ := f23.cell
    obtain ⟨_, _, ⟨T31, L31, k31, n31⟩, -, X31, ⟨Lc31, hQ31, l31, y31, z31⟩, st31⟩ := X21.privateBack hx (y := (⟨"com/example/tapeline/tapeline/OpenTypeLayout$GlyphRun", "moveGap", "(I)V"⟩ : MethodName)) hown (mvT hZ (hw _ (List.mem_of_getElem? (i := 106) rfl))) (mvT hZ (hw _ (List.mem_of_getElem? (i := 107) rfl))) (own_sel hZ (hw _ (List.mem_of_getElem? (i := 6) rfl)) (hw _ (List.mem_of_getElem? (i := 108) rfl)) (hw _ (List.mem_of_getElem? (i := 107) rfl)) (by decide)) (Cond.privateMethod_at (mvP hZ (hw _ (List.mem_of_getElem? (i := 108) rfl)) (args := #[]))) (mvT hZ (hw _ (List.mem_of_getElem? (i := 109) rfl))) (by decide) (backOf (W := 0) (rm17 l Z a0 hw [] o0 gl bs kg n gs ge (pos + 1) T21.heap n0 Z21 f23 f27 f28 f29 f30 ⟨_, f24, by rw [List.length_set]; exact hvl⟩ h1 h2 h3 (by omega) g0 gg) hZ (hw _ (List.mem_of_getElem? (i := 109) rfl)) (hw _ (List.mem_of_getElem? (i := 7) rfl)) (Nat.le_of_ble_eq_true rfl) (Nat.le_of_ble_eq_true rfl)) (g := (mkF m 28 #[.val (.ref o0), .val (.int (Int32.ofNat pos)), .val (.int (Int32.ofNat cnt)), .val (.int (Int32.ofNat gy))] [(.int (Int32.ofNat (pos + 1))), (.ref o0)])) rfl (by rw [hml]; rfl) (Steps.refl _) (a := o0) q31 q31' (argsL := [(.int (Int32.ofNat (pos + 1)))]) (rest := []) (lenOf pd_4 rfl) rfl (by show 2 * 0 + _ ≤ _; exact Nat.le_of_eq rfl) (hb hby d12_28) (fun _ _ => ⟨rfl, rfl, (by show 0 + 1 + 0 ≤ 1; omega), (by show 0 + 2 * (own_g len (gy / 64 + 1) - len) + 0 ≤ 2 * (own_g len (gy / 64 + 1) - len); omega)⟩)
    dsimp only [Pt.U, Pt.locs, Pt.cells, Pt.slots] at X31 l31 y31 z31 st31 hQ31
    rw [y31, z31] at X31
    obtain ⟨rfl, N31q, K31q, Em, Fgm, F1m, F2m, Fhm, ⟨vm, FVm, hvlm⟩⟩ := hQ31
    have N31 : Fr n0 L31 := by rw [l31]; exact Fr.app N21 N31q
    replace X31 := X31.more (cells' := 1) (slots' := (0 + 2 * (own_g len (gy / 64 + 1) - len))) (Nat.le_refl _) (Nat.le_refl _)
    replace X31 : Stand p l e _ s m _ below meth c T31 L31 1 (0 + 2 * (own_g len (gy / 64 + 1) - len)) := X31
    clear l31 y31 z31
    have Z31 : n0 ≤ T31.heap.size := Nat.le_trans Z21 K31q.1
    have K31 : Keep h0 T31.heap [o0, gl, bs, t] := K21.trans K31q (allS (Or.inl (List.mem_of_getElem? (i := 0) rfl)) (allS (Or.inl (List.mem_of_getElem? (i := 1) rfl)) all0))
    have c32 : ∀ τ, Steps p.tables e below (T31.setTop (mkF m 31 #[.val (.ref o0), .val (.int (Int32.ofNat pos)), .val (.int (Int32.ofNat cnt)), .val (.int (Int32.ofNat gy))] [])) τ → Steps p.tables e below (s₁.setTop (entryFrame m #[(.ref o0), (.int (Int32.ofNat pos)), (.int (Int32.ofNat cnt)), (.int (Int32.ofNat gy))] 4)) τ := fun τ κ => c26 τ (st31.trans κ)
    have c33 : ∀ τ, Steps p.tables e below (T31.setTop (mkF m 33 #[.val (.ref o0), .val (.int (Int32.ofNat pos)), .val (.int (Int32.ofNat cnt)), .val (.int (Int32.ofNat gy))] [(.ref o0), (.ref o0)])) τ → Steps p.tables e below (s₁.setTop (entryFrame m #[(.ref o0), (.int (Int32.ofNat pos)), (.int (Int32.ofNat cnt)), (.int (Int32.ofNat gy))] 4)) τ := fun τ κ => c32 τ (by
        show Steps p.tables e below (T31.setTop (mkF m 31 #[.val (.ref o0), .val (.int (Int32.ofNat pos)), .val (.int (Int32.ofNat cnt)), .val (.int (Int32.ofNat gy))] [])) _
        refine XS.aloadN X31.here hx rfl (hb hby d12_31) rfl rfl ?_
        show Steps p.tables e below (T31.setTop (mkF m 32 #[.val (.ref o0), .val (.int (Int32.ofNat pos)), .val (.int (Int32.ofNat cnt)), .val (.int (Int32.ofNat gy))] [(.ref o0)])) _
        refine XS.dup X31.here hx rfl (hb hby d12_32) rfl rfl ?_
        exact κ)
    obtain ⟨T34, X34, e34, st34⟩ := getF X31 hx hZ hown (host := "") (Or.inl (hw _ (List.mem_of_getElem? (i := 51) rfl))) Via.refl rfl F2m (g := (mkF m 33 #[.val (.ref o0), .val (.int (Int32.ofNat pos)), .val (.int (Int32.ofNat cnt)), .val (.int (Int32.ofNat gy))] [(.ref o0), (.ref o0)])) rfl rfl (hb hby d12_33)
    have c35 : ∀ τ, Steps p.tables e below (T34.setTop (mkF m 36 #[.val (.ref o0), .val (.int (Int32.ofNat pos)), .val (.int (Int32.ofNat cnt)), .val (.int (Int32.ofNat gy))] [(.int (Int32.ofNat (pos + 1 + (ge - gs)))), (.ref o0)])) τ → Steps p.tables e below (s₁.setTop (entryFrame m #[(.ref o0), (.int (Int32.ofNat pos)), (.int (Int32.ofNat cnt)), (.int (Int32.ofNat gy))] 4)) τ := fun τ κ => c33 τ (st34 τ κ)
    have c36 : ∀ τ, Steps p.tables e below (T34.setTop (mkF m 39 #[.val (.ref o0), .val (.int (Int32.ofNat pos)), .val (.int (Int32.ofNat cnt)), .val (.int (Int32.ofNat gy))] [(.int ((Int32.ofNat cnt) - (1 : Int32))), (.int (Int32.ofNat (pos + 1 + (ge - gs)))), (.ref o0)])) τ → Steps p.tables e below (s₁.setTop (entryFrame m #[(.ref o0), (.int (Int32.ofNat pos)), (.int (Int32.ofNat cnt)), (.int (Int32.ofNat gy))] 4)) τ := fun τ κ => c35 τ (by
        show Steps p.tables e below (T34.setTop (mkF m 36 #[.val (.ref o0), .val (.int (Int32.ofNat pos)), .val (.int (Int32.ofNat cnt)), .val (.int (Int32.ofNat gy))] [(.int (Int32.ofNat (pos + 1 + (ge - gs)))), (.ref o0)])) _
        refine XS.iloadN X34.here hx rfl (hb hby d12_36) rfl ?_
        show Steps p.tables e below (T34.setTop (mkF m 37 #[.val (.ref o0), .val (.int (Int32.ofNat pos)), .val (.int (Int32.ofNat cnt)), .val (.int (Int32.ofNat gy))] [(.int (Int32.ofNat cnt)), (.int (Int32.ofNat (pos + 1 + (ge - gs)))), (.ref o0)])) _
        refine XS.iconst X34.here hx rfl (hb hby d12_37) ?_
        show Steps p.tables e below (T34.setTop (mkF m 38 #[.val (.ref o0), .val (.int (Int32.ofNat pos)), .val (.int (Int32.ofNat cnt)), .val (.int (Int32.ofNat gy))] [(.int (1 : Int32)), (.int (Int32.ofNat cnt)), (.int (Int32.ofNat (pos + 1 + (ge - gs)))), (.ref o0)])) _
        refine XS.isub X34.here hx rfl (hb hby d12_38) rfl ?_
        exact κ)
    rw [show ((Int32.ofNat cnt) - (1 : Int32)) = (Int32.ofNat (cnt - 1)) from own_sub (b := 1) h4] at c36
    have c37 : ∀ τ, Steps p.tables e below (T34.setTop (mkF m 40 #[.val (.ref o0), .val (.int (Int32.ofNat pos)), .val (.int (Int32.ofNat cnt)), .val (.int (Int32.ofNat gy))] [(.int ((Int32.ofNat (pos + 1 + (ge - gs))) + (Int32.ofNat (cnt - 1)))), (.ref o0)])) τ → Steps p.tables e below (s₁.setTop (entryFrame m #[(.ref o0), (.int (Int32.ofNat pos)), (.int (Int32.ofNat cnt)), (.int (Int32.ofNat gy))] 4)) τ := fun τ κ => c36 τ (by
        show Steps p.tables e below (T34.setTop (mkF m 39 #[.val (.ref o0), .val (.int (Int32.ofNat pos)), .val (.int (Int32.ofNat cnt)), .val (.int (Int32.ofNat gy))] [(.int (Int32.ofNat (cnt - 1))), (.int (Int32.ofNat (pos + 1 + (ge - gs)))), (.ref o0)])) _
        refine XS.iadd X34.here hx rfl (hb hby d12_39) rfl ?_
        exact κ)
    rw [show ((Int32.ofNat (pos + 1 + (ge - gs))) + (Int32.ofNat (cnt - 1))) = (Int32.ofNat (pos + cnt + (ge - gs))) from (own_add _ _).trans (congrArg Int32.ofNat (by omega))] at c37
    obtain ⟨T38, h38, X38, e38, W38, st38⟩ := putF X34 hx hZ hown (host := "") (Or.inl (hw _ (List.mem_of_getElem? (i := 51) rfl))) Via.refl e34 F2m Em (Or.inl (hw _ (List.mem_of_getElem? (i := 52) rfl))) (hw _ (List.mem_of_getElem? (i := 6) rfl)) (ty := .int) (by decide) rfl rfl (g := (mkF m 40 #[.val (.ref o0), .val (.int (Int32.ofNat pos)), .val (.int (Int32.ofNat cnt)), .val (.int (Int32.ofNat gy))] [(.int (Int32.ofNat (pos + cnt + (ge - gs)))), (.ref o0)])) rfl rfl (hb hby d12_40)
    have F38 := F2m.same W38
    have N38 := Fr.snoc X38 N31 g0
    have Z38 : n0 ≤ h38.size := Nat.le_trans Z31 (Keep.of_wr W38).1
    have K38 : Keep h0 h38 [o0, gl, bs, t] := K31.wr W38 (Or.inl (List.mem_of_getElem? (i := 0) rfl))
    have c39 : ∀ τ, Steps p.tables e below (T38.setTop (mkF m 43 #[.val (.ref o0), .val (.int (Int32.ofNat pos)), .val (.int (Int32.ofNat cnt)), .val (.int (Int32.ofNat gy))] [])) τ → Steps p.tables e below (s₁.setTop (entryFrame m #[(.ref o0), (.int (Int32.ofNat pos)), (.int (Int32.ofNat cnt)), (.int (Int32.ofNat gy))] 4)) τ := fun τ κ => c37 τ (st38 τ κ)
    have f40 := (Em.wr W38)
    have f41 := (Fgm.other W38 (Or.inr (slot_ne (Or.inr (hw _ (List.mem_of_getElem? (i := 48) rfl))) (Or.inl (hw _ (List.mem_of_getElem? (i := 52) rfl))) (by decide) (t := (.array .int)) (t' := .int) (by decide) (by decide))))
    have f42 := (F1m.other W38 (Or.inr (slot_ne (Or.inl (hw _ (List.mem_of_getElem? (i := 50) rfl))) (Or.inl (hw _ (List.mem_of_getElem? (i := 52) rfl))) (by decide) (t := .int) (t' := .int) (by decide) (by decide))))
    have f43 := (Fhm.other W38 (Or.inr (slot_ne (Or.inr (hw _ (List.mem_of_getElem? (i := 37) rfl))) (Or.inl (hw _ (List.mem_of_getElem? (i := 52) rfl))) (by decide) (t := (.object "java/util/BitSet")) (t' := .int) (by decide) (by decide))))
    have f44 := (FVm.other W38 (Ne.symm ne_o0_gl))
    have f45 := ((Eb.keep K31q).wr W38)
    have f46 := ((Fub.keep K31q (ninS (Ne.symm ne_o0_bs) (ninS ne_bs_gl nin0))).other W38 (Or.inl (Ne.symm ne_o0_bs)))
    have f47 := ((Fsb.keep K31q (ninS (Ne.symm ne_o0_bs) (ninS ne_bs_gl nin0))).other W38 (Or.inl (Ne.symm ne_o0_bs)))
    have f48 := ((Fwb.keep K31q (ninS (Ne.symm ne_o0_bs) (ninS ne_bs_gl nin0))).other W38 (Or.inl (Ne.symm ne_o0_bs)))
    have f49 := ((FVb.keep K31q (ninS (Ne.symm ne_o0_t') (ninS (Ne.symm ne_gl_t') nin0))).other W38 (Ne.symm ne_o0_t'))
    obtain ⟨fs, hr, hrun, hended, hW, hsame⟩ := X38.leave (v := none) (fun _ => rfl)
    refine ⟨_, _, c39 _ (X38.returnOut hx Bd.returns (hb hby d12_43) hr), hrun, hended, _, _, rfl, ?_, ⟨_, rfl⟩, hW, hsame.mono (Nat.le_of_ble_eq_true rfl) (Nat.le_of_eq (Nat.zero_add _))⟩
    show Q_rm12 Z o0 gl bs t kg n gs ge u len pos cnt gy h0 n0 _ T38.heap _
    rw [e38]
    exact ⟨rfl, N38, t', u', K38, by rw [show own_e cnt (pos + 1) gs = pos + 1 from if_pos hlt, show own_e cnt (pos + cnt + (ge - gs)) ge = pos + cnt + (ge - gs) from if_pos hlt]; exact ⟨f40, f41, f42, F38, f43, ⟨_, f44, hvlm⟩, ⟨f45, f46, ⟨_, f47⟩, f48, ⟨_, _, f49, hvlb⟩, by omega, by omega, by omega, g0b, gtb⟩, g0, gg⟩⟩
  · have hle : cnt ≤ 1 := own_nltE (a := 1) (by omega) (by omega) hc
    have f26 := ((Fg.other W8 (Or.inl ne_o0_gl)).keep K21q (ninS ne_o0_bs (ninS ne_o0_t nin0)))
    have f27 := ((F1.other W8 (Or.inl ne_o0_gl)).keep K21q (ninS ne_o0_bs (ninS ne_o0_t nin0)))
    have f28 := ((F2.other W8 (Or.inl ne_o0_gl)).keep K21q (ninS ne_o0_bs (ninS ne_o0_t nin0)))
    have f29 := (f11.keep K21q (ninS ne_o0_bs (ninS ne_o0_t nin0)))
    have c30 : ∀ τ, Steps p.tables e below (T21.setTop (mkF m 43 #[.val (.ref o0), .val (.int (Int32.ofNat pos)), .val (.int (Int32.ofNat cnt)), .val (.int (Int32.ofNat gy))] [])) τ → Steps p.tables e below (s₁.setTop (entryFrame m #[(.ref o0), (.int (Int32.ofNat pos)), (.int (Int32.ofNat cnt)), (.int (Int32.ofNat gy))] 4)) τ := fun τ κ => c25 τ (by
        show Steps p.tables e below (T21.setTop (mkF m 21 #[.val (.ref o0), .val (.int (Int32.ofNat pos)), .val (.int (Int32.ofNat cnt)), .val (.int (Int32.ofNat gy))] [(.int (1 : Int32)), (.int (Int32.ofNat cnt))])) _
        refine XS.icmpYes X21.here hx rfl (pc0 := 21) (pc' := 43) rfl (hb hby d12_21) rfl (flt hc).2.2.2 (by decide) (by decide) ?_
        exact κ)
    obtain ⟨fs, hr, hrun, hended, hW, hsame⟩ := X21.leave (v := none) (fun _ => rfl)
    refine ⟨_, _, c30 _ (X21.returnOut hx Bd.returns (hb hby d12_43) hr), hrun, hended, _, _, rfl, ?_, ⟨_, rfl⟩, hW, hsame.mono (Nat.le_of_ble_eq_true rfl) (Nat.le_of_eq (Nat.zero_add _))⟩
    show Q_rm12 Z o0 gl bs t kg n gs ge u len pos cnt gy h0 n0 _ T21.heap _
    exact ⟨rfl, N21, t', u', K21, by rw [show own_e cnt (pos + 1) gs = gs from if_neg (by omega), show own_e cnt (pos + cnt + (ge - gs)) ge = ge from if_neg (by omega)]; exact ⟨f23, f26, f27, f28, f29, ⟨_, f24, by rw [List.length_set]; exact hvl⟩, ⟨Eb, Fub, ⟨_, Fsb⟩, Fwb, ⟨_, _, FVb, hvlb⟩, by omega, by omega, by omega, g0b, gtb⟩, g0, gg⟩⟩
theorem d2_0 : decode prog_50_method_1_code 0 = .ok (.aload_n 0, 1) := by decide +kernel
theorem d2_1 : decode prog_50_method_1_code 1 = .ok (.invokespecial 1, 3) := by decide +kernel
theorem d2_4 : decode prog_50_method_1_code 4 = .ok (.aload_n 0, 1) := by decide +kernel
theorem d2_5 : decode prog_50_method_1_code 5 = .ok (.new 7, 3) := by decide +kernel
theorem d2_8 : decode prog_50_method_1_code 8 = .ok (.dup, 1) := by decide +kernel
theorem d2_9 : decode prog_50_method_1_code 9 = .ok (.invokespecial 9, 3) := by decide +kernel
theorem d2_12 : decode prog_50_method_1_code 12 = .ok (.putfield 10, 3) := by decide +kernel
theorem d2_15 : decode prog_50_method_1_code 15 = .ok (.aload_n 0, 1) := by decide +kernel
theorem d2_16 : decode prog_50_method_1_code 16 = .ok (.aload_n 1, 1) := by decide +kernel
theorem d2_17 : decode prog_50_method_1_code 17 = .ok (.invokevirtual 16, 3) := by decide +kernel
theorem d2_20 : decode prog_50_method_1_code 20 = .ok (.checkcast 17, 3) := by decide +kernel
theorem d2_23 : decode prog_50_method_1_code 23 = .ok (.putfield 22, 3) := by decide +kernel
theorem d2_26 : decode prog_50_method_1_code 26 = .ok (.aload_n 0, 1) := by decide +kernel
theorem d2_27 : decode prog_50_method_1_code 27 = .ok (.aload_n 1, 1) := by decide +kernel
theorem d2_28 : decode prog_50_method_1_code 28 = .ok (.arraylength, 1) := by decide +kernel
theorem d2_29 : decode prog_50_method_1_code 29 = .ok (.putfield 25, 3) := by decide +kernel
theorem d2_32 : decode prog_50_method_1_code 32 = .ok (.aload_n 0, 1) := by decide +kernel
theorem d2_33 : decode prog_50_method_1_code 33 = .ok (.aload_n 1, 1) := by decide +kernel
theorem d2_34 : decode prog_50_method_1_code 34 = .ok (.arraylength, 1) := by decide +kernel
theorem d2_35 : decode prog_50_method_1_code 35 = .ok (.putfield 29, 3) := by decide +kernel
theorem d2_38 : decode prog_50_method_1_code 38 = .ok (.aload_n 1, 1) := by decide +kernel
theorem d2_39 : decode prog_50_method_1_code 39 = .ok (.astore_n 2, 1) := by decide +kernel
theorem d2_40 : decode prog_50_method_1_code 40 = .ok (.aload_n 2, 1) := by decide +kernel
theorem d2_41 : decode prog_50_method_1_code 41 = .ok (.arraylength, 1) := by decide +kernel
theorem d2_42 : decode prog_50_method_1_code 42 = .ok (.istore_n 3, 1) := by decide +kernel
theorem d2_43 : decode prog_50_method_1_code 43 = .ok (.iconst 0, 1) := by decide +kernel
theorem d2_44 : decode prog_50_method_1_code 44 = .ok (.istore 4, 2) := by decide +kernel
theorem d2_46 : decode prog_50_method_1_code 46 = .ok (.iload 4, 2) := by decide +kernel
theorem d2_48 : decode prog_50_method_1_code 48 = .ok (.iload_n 3, 1) := by decide +kernel
theorem d2_49 : decode prog_50_method_1_code 49 = .ok (.if_icmp .ge 24, 3) := by decide +kernel
theorem d2_52 : decode prog_50_method_1_code 52 = .ok (.aload_n 2, 1) := by decide +kernel
theorem d2_53 : decode prog_50_method_1_code 53 = .ok (.iload 4, 2) := by decide +kernel
theorem d2_55 : decode prog_50_method_1_code 55 = .ok (.iaload, 1) := by decide +kernel
theorem d2_56 : decode prog_50_method_1_code 56 = .ok (.istore 5, 2) := by decide +kernel
theorem d2_58 : decode prog_50_method_1_code 58 = .ok (.aload_n 0, 1) := by decide +kernel
theorem d2_59 : decode prog_50_method_1_code 59 = .ok (.getfield 10, 3) := by decide +kernel
theorem d2_62 : decode prog_50_method_1_code 62 = .ok (.iload 5, 2) := by decide +kernel
theorem d2_64 : decode prog_50_method_1_code 64 = .ok (.invokevirtual 32, 3) := by decide +kernel
theorem d2_67 : decode prog_50_method_1_code 67 = .ok (.iinc 4 1, 3) := by decide +kernel
theorem d2_70 : decode prog_50_method_1_code 70 = .ok (.goto (-24), 3) := by decide +kernel
theorem d2_73 : decode prog_50_method_1_code 73 = .ok (.return_, 1) := by decide +kernel
set_option maxRecDepth 65536 in
set_option maxHeartbeats 40000000 in
theorem turn2 {p : Program} {l : Launch} {e : Env} {s : State} {m : MethodId} {args : Array Value} {below : List Frame} {meth : Method} {c : Code} {Z : State} {a0 : Array Value} {T0 : State} {locs : List Loc} {h hs : Heap} (o0 o1 gl bs t : Addr) (ka kg : ClassId) (vs : List Value) (n i u len y n0 : Nat) (s5 : Slot) (X0 : Stand p l e ({ frames := 5, cells := 3 + n, slots := 11 + 2 * (own_fold vs 1 - 1), locals := 75 } : Room) s m args below meth c T0 locs (3 + i) (11 + 2 * (len - 1))) (hx : p.tables.exec = Jvm.exec) (hZ : Z.Warmed39 s.vm) (hw : ∀ d ∈ tables_1, d.before a0 Z = true) (hby : c.code = prog_50_method_1_code) (hml : c.maxLocals = 6) (hown : s.vm.findClass "com/example/tapeline/tapeline/OpenTypeLayout$GlyphRun" = some m.cls) (e0 : T0.heap = h) (N0 : Fr n0 locs) (Z0 : n0 ≤ h.size) (R0 : own_R Z h o0 gl bs t kg n n n u len n0) (FO : Arv Z h o1 ka .int (Int32.ofNat n) vs (.int (0 : Int32))) (SA : Sta Z Z.heap "java/util/BitSet" "$assertionsDisabled" "Z" (.int (1 : Int32))) (Od : Old Z n0 h) (K0 : Keep hs h [o0]) (zb : hs.size ≤ bs) (zt : hs.size ≤ t) (hs5 : One s5) (hn : n ≤ 7) (hi : i < n) (hat : vs.getD i (.int (0 : Int32)) = .int (Int32.ofNat y)) (hy : y ≤ 65535) (hf : own_g len (y / 64 + 1) ≤ own_fold vs 1) :
    ∃ (T' : State) (h' : Heap) (locs' : List Loc) (t' : Addr) (u' : Nat), Stand p l e ({ frames := 5, cells := 3 + n, slots := 11 + 2 * (own_fold vs 1 - 1), locals := 75 } : Room) s m args below meth c T' locs' (3 + (i + 1)) (11 + 2 * (own_g len (y / 64 + 1) - 1)) ∧ T'.heap = h' ∧ Fr n0 locs' ∧ n0 ≤ h'.size ∧ own_R Z h' o0 gl bs t' kg n n n u' (own_g len (y / 64 + 1)) n0 ∧ Arv Z h' o1 ka .int (Int32.ofNat n) vs (.int (0 : Int32)) ∧ Old Z n0 h' ∧ Keep hs h' [o0] ∧ hs.size ≤ t' ∧
      ∀ target, Steps p.tables e below (T'.setTop (mkF m 46 #[.val (.ref o0), .val (.ref o1), .val (.ref o1), .val (.int (Int32.ofNat n)), .val (.int (Int32.ofNat (i + 1))), .val (.int (Int32.ofNat y))] [])) target → Steps p.tables e below (T0.setTop (mkF m 46 #[.val (.ref o0), .val (.ref o1), .val (.ref o1), .val (.int (Int32.ofNat n)), .val (.int (Int32.ofNat i)), s5] [])) target := by
  have c0 : ∀ τ, Steps p.tables e below (T0.setTop (mkF m 46 #[.val (.ref o0), .val (.ref o1), .val (.ref o1), .val (.int (Int32.ofNat n)), .val (.int (Int32.ofNat i)), s5] [])) τ → Steps p.tables e below (T0.setTop (mkF m 46 #[.val (.ref o0), .val (.ref o1), .val (.ref o1), .val (.int (Int32.ofNat n)), .val (.int (Int32.ofNat i)), s5] [])) τ := fun τ κ => κ
  obtain ⟨E, Fg, F1, F2, Fh, ⟨vg, FV, hvl⟩, B, g0, gg⟩ := id R0
  obtain ⟨EB, FuB, ⟨sxB, FsB⟩, FwB, ⟨kaB, vsB, FVB, hvlB⟩, hulB, hl1B, hl2B, g0B, gtB⟩ := id B
  have ne_bs_t : bs ≠ t := own_ne_ea EB (hw _ (List.mem_of_getElem? (i := 15) rfl)) FVB
  have ne_o0_gl : o0 ≠ gl := own_ne_ea E (hw _ (List.mem_of_getElem? (i := 6) rfl)) FV
  have ne_o0_bs : o0 ≠ bs := ne_exa E EB (by decide)
  have ne_o0_t : o0 ≠ t := own_ne_ea E (hw _ (List.mem_of_getElem? (i := 6) rfl)) FVB
  have ne_bs_gl : bs ≠ gl := own_ne_ea EB (hw _ (List.mem_of_getElem? (i := 15) rfl)) FV
  have ne_gl_t : gl ≠ t := own_ne_il FV FVB
  have ne_o1_bs : o1 ≠ bs := (own_ne_ea EB (hw _ (List.mem_of_getElem? (i := 15) rfl)) FO).symm
  have ne_o1_t : o1 ≠ t := own_ne_il FO FVB
  have hg := own_gle len (y / 64 + 1)
  have c1 : ∀ τ, Steps p.tables e below (T0.setTop (mkF m 55 #[.val (.ref o0), .val (.ref o1), .val (.ref o1), .val (.int (Int32.ofNat n)), .val (.int (Int32.ofNat i)), s5] [(.int (Int32.ofNat i)), (.ref o1)])) τ → Steps p.tables e below (T0.setTop (mkF m 46 #[.val (.ref o0), .val (.ref o1), .val (.ref o1), .val (.int (Int32.ofNat n)), .val (.int (Int32.ofNat i)), s5] [])) τ := fun τ κ => c0 τ (by
      show Steps p.tables e below (T0.setTop (mkF m 46 #[.val (.ref o0), .val (.ref o1), .val (.ref o1), .val (.int (Int32.ofNat n)), .val (.int (Int32.ofNat i)), s5] [])) _
      refine XS.iload X0.here hx rfl (hb hby d2_46) rfl ?_
      show Steps p.tables e below (T0.setTop (mkF m 48 #[.val (.ref o0), .val (.ref o1), .val (.ref o1), .val (.int (Int32.ofNat n)), .val (.int (Int32.ofNat i)), s5] [(.int (Int32.ofNat i))])) _
      refine XS.iloadN X0.here hx rfl (hb hby d2_48) rfl ?_
      show Steps p.tables e below (T0.setTop (mkF m 49 #[.val (.ref o0), .val (.ref o1), .val (.ref o1), .val (.int (Int32.ofNat n)), .val (.int (Int32.ofNat i)), s5] [(.int (Int32.ofNat n)), (.int (Int32.ofNat i))])) _
      refine XS.icmpNo X0.here hx rfl (hb hby d2_49) rfl (tlt (own_lt hi (by omega))).2.1 ?_
      show Steps p.tables e below (T0.setTop (mkF m 52 #[.val (.ref o0), .val (.ref o1), .val (.ref o1), .val (.int (Int32.ofNat n)), .val (.int (Int32.ofNat i)), s5] [])) _
      refine XS.aloadN X0.here hx rfl (hb hby d2_52) rfl rfl ?_
      show Steps p.tables e below (T0.setTop (mkF m 53 #[.val (.ref o0), .val (.ref o1), .val (.ref o1), .val (.int (Int32.ofNat n)), .val (.int (Int32.ofNat i)), s5] [(.ref o1)])) _
      refine XS.iload X0.here hx rfl (hb hby d2_53) rfl ?_
      exact κ)
  have c2 : ∀ τ, Steps p.tables e below (T0.setTop (mkF m 56 #[.val (.ref o0), .val (.ref o1), .val (.ref o1), .val (.int (Int32.ofNat n)), .val (.int (Int32.ofNat i)), s5] [(.int (Int32.ofNat y))])) τ → Steps p.tables e below (T0.setTop (mkF m 46 #[.val (.ref o0), .val (.ref o1), .val (.ref o1), .val (.int (Int32.ofNat n)), .val (.int (Int32.ofNat i)), s5] [])) τ := fun τ κ => c1 τ (own_iaload X0 hx hZ e0 FO (j := (Int32.ofNat i)) ⟨own_nn (by omega), own_lt hi (by omega)⟩ (v := (.int (Int32.ofNat y))) (by rw [own_n32 (by omega)]; exact hat) (g := (mkF m 55 #[.val (.ref o0), .val (.ref o1), .val (.ref o1), .val (.int (Int32.ofNat n)), .val (.int (Int32.ofNat i)), s5] [(.int (Int32.ofNat i)), (.ref o1)])) rfl rfl (hb hby d2_55) _ κ)
  have c3 : ∀ τ, Steps p.tables e below (T0.setTop (mkF m 59 #[.val (.ref o0), .val (.ref o1), .val (.ref o1), .val (.int (Int32.ofNat n)), .val (.int (Int32.ofNat i)), .val (.int (Int32.ofNat y))] [(.ref o0)])) τ → Steps p.tables e below (T0.setTop (mkF m 46 #[.val (.ref o0), .val (.ref o1), .val (.ref o1), .val (.int (Int32.ofNat n)), .val (.int (Int32.ofNat i)), s5] [])) τ := fun τ κ => c2 τ (by
      show Steps p.tables e below (T0.setTop (mkF m 56 #[.val (.ref o0), .val (.ref o1), .val (.ref o1), .val (.int (Int32.ofNat n)), .val (.int (Int32.ofNat i)), s5] [(.int (Int32.ofNat y))])) _
      refine XS.istore X0.here hx rfl (hb hby d2_56) rfl (l' := #[.val (.ref o0), .val (.ref o1), .val (.ref o1), .val (.int (Int32.ofNat n)), .val (.int (Int32.ofNat i)), .val (.int (Int32.ofNat y))]) (own_st5 hs5) ?_
      show Steps p.tables e below (T0.setTop (mkF m 58 #[.val (.ref o0), .val (.ref o1), .val (.ref o1), .val (.int (Int32.ofNat n)), .val (.int (Int32.ofNat i)), .val (.int (Int32.ofNat y))] [])) _
      refine XS.aloadN X0.here hx rfl (hb hby d2_58) rfl rfl ?_
      exact κ)
  obtain ⟨T4, X4, e4, st4⟩ := getF X0 hx hZ hown (host := "") (Or.inl (hw _ (List.mem_of_getElem? (i := 36) rfl))) Via.refl e0 Fh (g := (mkF m 59 #[.val (.ref o0), .val (.ref o1), .val (.ref o1), .val (.int (Int32.ofNat n)), .val (.int (Int32.ofNat i)), .val (.int (Int32.ofNat y))] [(.ref o0)])) rfl rfl (hb hby d2_59)
  have c5 : ∀ τ, Steps p.tables e below (T4.setTop (mkF m 62 #[.val (.ref o0), .val (.ref o1), .val (.ref o1), .val (.int (Int32.ofNat n)), .val (.int (Int32.ofNat i)), .val (.int (Int32.ofNat y))] [(.ref bs)])) τ → Steps p.tables e below (T0.setTop (mkF m 46 #[.val (.ref o0), .val (.ref o1), .val (.ref o1), .val (.int (Int32.ofNat n)), .val (.int (Int32.ofNat i)), s5] [])) τ := fun τ κ => c3 τ (st4 τ κ)
  have B1 : own_B Z h bs t u len n0 := ⟨EB, FuB, ⟨_, FsB⟩, FwB, ⟨_, _, FVB, hvlB⟩, by omega, by omega, by omega, g0B, gtB⟩
  have c6 : ∀ τ, Steps p.tables e below (T4.setTop (mkF m 64 #[.val (.ref o0), .val (.ref o1), .val (.ref o1), .val (.int (Int32.ofNat n)), .val (.int (Int32.ofNat i)), .val (.int (Int32.ofNat y))] [(.int (Int32.ofNat y)), (.ref bs)])) τ → Steps p.tables e below (T0.setTop (mkF m 46 #[.val (.ref o0), .val (.ref o1), .val (.ref o1), .val (.int (Int32.ofNat n)), .val (.int (Int32.ofNat i)), s5] [])) τ := fun τ κ => c5 τ (by
      show Steps p.tables e below (T4.setTop (mkF m 62 #[.val (.ref o0), .val (.ref o1), .val (.ref o1), .val (.int (Int32.ofNat n)), .val (.int (Int32.ofNat i)), .val (.int (Int32.ofNat y))] [(.ref bs)])) _
      refine XS.iload X4.here hx rfl (hb hby d2_62) rfl ?_
      exact κ)
  obtain ⟨cq7, kq7, q7a, q7b, q7c⟩ := isOf hZ e4 EB
  obtain ⟨_, _, ⟨T7, L7, k7, n7⟩, -, X7, ⟨Lc7, hQ7, l7, y7, z7⟩, st7⟩ := X4.virtualBack hx (y := (⟨"java/util/BitSet", "set", "(I)V"⟩ : MethodName)) (z := (⟨"java/util/BitSet", "set", "(I)V"⟩ : MethodName)) hown (mvT hZ (hw _ (List.mem_of_getElem? (i := 59) rfl))) (mvT hZ (hw _ (List.mem_of_getElem? (i := 60) rfl))) (notFace_of_selects (args := #[]) (mvT hZ (hw _ (List.mem_of_getElem? (i := 62) rfl)))) (mvT hZ (hw _ (List.mem_of_getElem? (i := 62) rfl))) (mvT hZ (hw _ (List.mem_of_getElem? (i := 61) rfl))) (by decide) (backOf (W := 0) (rm8 l Z a0 hw [] bs t u len y h n0 Z0 B1 hy SA Od) hZ (hw _ (List.mem_of_getElem? (i := 63) rfl)) (hw _ (List.mem_of_getElem? (i := 16) rfl)) (Nat.le_of_ble_eq_true rfl) (Nat.le_of_ble_eq_true rfl)) q7a q7c (g := (mkF m 64 #[.val (.ref o0), .val (.ref o1), .val (.ref o1), .val (.int (Int32.ofNat n)), .val (.int (Int32.ofNat i)), .val (.int (Int32.ofNat y))] [(.int (Int32.ofNat y)), (.ref bs)])) rfl (by rw [hml]; rfl) (Steps.refl _) (argsL := [(.int (Int32.ofNat y))]) (rest := []) (lenOf pd_4 rfl) rfl (by show 2 * 0 + _ ≤ _; exact Nat.le_of_eq rfl) (hb hby d2_64) (fun _ _ => ⟨rfl, e4, (by show 3 + i + 1 ≤ 3 + n; omega), (by show 11 + 2 * (len - 1) + 2 * (own_g len (y / 64 + 1) - len) ≤ 11 + 2 * (own_fold vs 1 - 1); omega)⟩)
  dsimp only [Pt.U, Pt.locs, Pt.cells, Pt.slots] at X7 l7 y7 z7 st7 hQ7
  rw [y7, z7] at X7
  obtain ⟨rfl, N7q, t', u', K7q, B', ht'⟩ := hQ7
  have N7 : Fr n0 L7 := by rw [l7]; exact Fr.app N0 N7q
  replace X7 := X7.more (cells' := (3 + (i + 1))) (slots' := (11 + 2 * (own_g len (y / 64 + 1) - 1))) (by show 3 + i + 1 ≤ 3 + (i + 1); omega) (by show 11 + 2 * (len - 1) + 2 * (own_g len (y / 64 + 1) - len) ≤ 11 + 2 * (own_g len (y / 64 + 1) - 1); omega)
  replace X7 : Stand p l e _ s m _ below meth c T7 L7 (3 + (i + 1)) (11 + 2 * (own_g len (y / 64 + 1) - 1)) := X7
  clear l7 y7 z7
  have Z7 : n0 ≤ T7.heap.size := Nat.le_trans Z0 K7q.1
  have c8 : ∀ τ, Steps p.tables e below (T7.setTop (mkF m 67 #[.val (.ref o0), .val (.ref o1), .val (.ref o1), .val (.int (Int32.ofNat n)), .val (.int (Int32.ofNat i)), .val (.int (Int32.ofNat y))] [])) τ → Steps p.tables e below (T0.setTop (mkF m 46 #[.val (.ref o0), .val (.ref o1), .val (.ref o1), .val (.int (Int32.ofNat n)), .val (.int (Int32.ofNat i)), s5] [])) τ := fun τ κ => c6 τ (st7.trans κ)
  have c9 : ∀ τ, Steps p.tables e below (T7.setTop (mkF m 70 #[.val (.ref o0), .val (.ref o1), .val (.ref o1), .val (.int (Int32.ofNat n)), .val (.int ((Int32.ofNat i) + (1 : Int32))), .val (.int (Int32.ofNat y))] [])) τ → Steps p.tables e below (T0.setTop (mkF m 46 #[.val (.ref o0), .val (.ref o1), .val (.ref o1), .val (.int (Int32.ofNat n)), .val (.int (Int32.ofNat i)), s5] [])) τ := fun τ κ => c8 τ (by
      show Steps p.tables e below (T7.setTop (mkF m 67 #[.val (.ref o0), .val (.ref o1), .val (.ref o1), .val (.int (Int32.ofNat n)), .val (.int (Int32.ofNat i)), .val (.int (Int32.ofNat y))] [])) _
      refine XS.iinc X7.here hx rfl (hb hby d2_67) rfl (l' := #[.val (.ref o0), .val (.ref o1), .val (.ref o1), .val (.int (Int32.ofNat n)), .val (.int ((Int32.ofNat i) + (1 : Int32))), .val (.int (Int32.ofNat y))]) rfl ?_
      exact κ)
  rw [show ((Int32.ofNat i) + (1 : Int32)) = (Int32.ofNat (i + 1)) from own_add i 1] at c9
  have c10 : ∀ τ, Steps p.tables e below (T7.setTop (mkF m 46 #[.val (.ref o0), .val (.ref o1), .val (.ref o1), .val (.int (Int32.ofNat n)), .val (.int (Int32.ofNat (i + 1))), .val (.int (Int32.ofNat y))] [])) τ → Steps p.tables e below (T0.setTop (mkF m 46 #[.val (.ref o0), .val (.ref o1), .val (.ref o1), .val (.int (Int32.ofNat n)), .val (.int (Int32.ofNat i)), s5] [])) τ := fun τ κ => c9 τ (by
      show Steps p.tables e below (T7.setTop (mkF m 70 #[.val (.ref o0), .val (.ref o1), .val (.ref o1), .val (.int (Int32.ofNat n)), .val (.int (Int32.ofNat (i + 1))), .val (.int (Int32.ofNat y))] [])) _
      refine XS.goto X7.here hx rfl (pc0 := 70) (pc' := 46) rfl (hb hby d2_70) (by decide) (by decide) ?_
      exact κ)
  have f11 := (E.keep K7q)
  have f12 := (Fg.keep K7q (ninS ne_o0_bs (ninS ne_o0_t nin0)))
  have f13 := (F1.keep K7q (ninS ne_o0_bs (ninS ne_o0_t nin0)))
  have f14 := (F2.keep K7q (ninS ne_o0_bs (ninS ne_o0_t nin0)))
  have f15 := (Fh.keep K7q (ninS ne_o0_bs (ninS ne_o0_t nin0)))
  have f16 := (FV.keep K7q (ninS (Ne.symm ne_bs_gl) (ninS ne_gl_t nin0)))
  have f17 := (FO.keep K7q (ninS ne_o1_bs (ninS ne_o1_t nin0)))
  have f18 := (Od.keep K7q (allS g0B (allS gtB all0)))
  refine ⟨T7, T7.heap, _, t', u', X7, rfl, N7, Z7, ⟨f11, f12, f13, f14, f15, ⟨_, f16, hvl⟩, B', g0, gg⟩, f17, f18, K0.trans K7q (allS (Or.inr zb) (allS (Or.inr zt) all0)), ht'.elim (fun q => by rw [q]; exact zt) (fun q => Nat.le_trans K0.1 q), c10⟩
/-- the constructor's loop, whole: from its head with i glyphs set and k left -/
theorem loop2 {p : Program} {l : Launch} {e : Env} {s : State} {m : MethodId} {args : Array Value} {below : List Frame} {meth : Method} {c : Code} {Z : State} {a0 : Array Value} {hs : Heap} (o0 o1 gl bs : Addr) (ka kg : ClassId) (vs : List Value) (n n0 : Nat) (hx : p.tables.exec = Jvm.exec) (hZ : Z.Warmed39 s.vm) (hw : ∀ d ∈ tables_1, d.before a0 Z = true) (hby : c.code = prog_50_method_1_code) (hml : c.maxLocals = 6) (hown : s.vm.findClass "com/example/tapeline/tapeline/OpenTypeLayout$GlyphRun" = some m.cls) (SA : Sta Z Z.heap "java/util/BitSet" "$assertionsDisabled" "Z" (.int (1 : Int32))) (zb : hs.size ≤ bs) (hn : n ≤ 7) (hvl : vs.length = n) (hvr : ∀ v ∈ vs, own_gy v) :
    ∀ (k i : Nat) (s5 : Slot) (T0 : State) (h : Heap) (locs : List Loc) (t : Addr) (u len : Nat), i + k = n → One s5 → Stand p l e ({ frames := 5, cells := 3 + n, slots := 11 + 2 * (own_fold vs 1 - 1), locals := 75 } : Room) s m args below meth c T0 locs (3 + i) (11 + 2 * (len - 1)) → T0.heap = h → Fr n0 locs → n0 ≤ h.size → own_R Z h o0 gl bs t kg n n n u len n0 → Arv Z h o1 ka .int (Int32.ofNat n) vs (.int (0 : Int32)) → Old Z n0 h → Keep hs h [o0] → hs.size ≤ t → own_fold (vs.drop i) len = own_fold vs 1 →
      ∃ (T' : State) (h' : Heap) (locs' : List Loc) (t' : Addr) (u' : Nat) (s5' : Slot), Stand p l e ({ frames := 5, cells := 3 + n, slots := 11 + 2 * (own_fold vs 1 - 1), locals := 75 } : Room) s m args below meth c T' locs' (3 + n) (11 + 2 * (own_fold vs 1 - 1)) ∧ T'.heap = h' ∧ Fr n0 locs' ∧ n0 ≤ h'.size ∧ own_R Z h' o0 gl bs t' kg n n n u' (own_fold vs 1) n0 ∧ Keep hs h' [o0] ∧
        ∀ target, Steps p.tables e below (T'.setTop (mkF m 73 #[.val (.ref o0), .val (.ref o1), .val (.ref o1), .val (.int (Int32.ofNat n)), .val (.int (Int32.ofNat n)), s5'] [])) target → Steps p.tables e below (T0.setTop (mkF m 46 #[.val (.ref o0), .val (.ref o1), .val (.ref o1), .val (.int (Int32.ofNat n)), .val (.int (Int32.ofNat i)), s5] [])) target := by
  intro k
  induction k with
  | zero =>
    intro i s5 T0 h locs t u len hi h5 X0 e0 N Z1 R0 FO Od K0 zt hf
    have hin : i = n := by omega
    subst hin
    have hl : len = own_fold vs 1 := by rw [← hf, List.drop_eq_nil_of_le (by omega)]; rfl
    refine ⟨T0, h, locs, t, u, s5, X0.more (Nat.le_refl _) (Nat.le_of_eq (by rw [hl])), e0, N, Z1, by rw [← hl]; exact R0, K0, fun target kt => ?_⟩
    show Steps p.tables e below (T0.setTop (mkF m 46 #[.val (.ref o0), .val (.ref o1), .val (.ref o1), .val (.int (Int32.ofNat i)), .val (.int (Int32.ofNat i)), s5] [])) _
    refine XS.iload X0.here hx rfl (hb hby d2_46) rfl ?_
    show Steps p.tables e below (T0.setTop (mkF m 48 #[.val (.ref o0), .val (.ref o1), .val (.ref o1), .val (.int (Int32.ofNat i)), .val (.int (Int32.ofNat i)), s5] [(.int (Int32.ofNat i))])) _
    refine XS.iloadN X0.here hx rfl (hb hby d2_48) rfl ?_
    show Steps p.tables e below (T0.setTop (mkF m 49 #[.val (.ref o0), .val (.ref o1), .val (.ref o1), .val (.int (Int32.ofNat i)), .val (.int (Int32.ofNat i)), s5] [(.int (Int32.ofNat i)), (.int (Int32.ofNat i))])) _
    refine XS.icmpYes X0.here hx rfl (pc0 := 49) (pc' := 73) rfl (hb hby d2_49) rfl (flt Int32.lt_irrefl).2.1 (by decide) (by decide) ?_
    exact kt
  | succ k ih =>
    intro i s5 T0 h locs t u len hi h5 X0 e0 N Z1 R0 FO Od K0 zt hf
    obtain ⟨y, hat, hy⟩ := own_gymem (i := i) (by omega) (.int (0 : Int32)) hvr
    have hd := own_getD (vs := vs) (i := i) (by omega) (.int (0 : Int32))
    have hf' : own_fold (vs.drop (i + 1)) (own_g len (y / 64 + 1)) = own_fold vs 1 := by
      rw [← hf, hd, hat]; show _ = own_fold (vs.drop (i + 1)) (own_g len (own_wd (.int (Int32.ofNat y)))); rw [own_wdE hy]
    have hle : own_g len (y / 64 + 1) ≤ own_fold vs 1 := by rw [← hf']; exact own_foldle _ _
    obtain ⟨T1, h1, L1, t1, u1, X1, e1, N1, Zz, R1, FO1, Od1, K1, zt1, st1⟩ := turn2 o0 o1 gl bs t ka kg vs n i u len y n0 s5 X0 hx hZ hw hby hml hown e0 N Z1 R0 FO SA Od K0 zb zt h5 hn (by omega) hat hy hle
    obtain ⟨T', h', L', t', u', s5', X', e', N', Z', R', K', st⟩ := ih (i + 1) (.val (.int (Int32.ofNat y))) T1 h1 L1 t1 u1 _ (by omega) (One.val rfl) X1 e1 N1 Zz R1 FO1 Od1 K1 zt1 hf'
    exact ⟨T', h', L', t', u', s5', X', e', N', Z', R', K', fun target kt => st1 target (st target kt)⟩
theorem ef_rm2 (m : MethodId) (x0 : Addr) (x1 : Addr) : entryFrame m #[(.ref x0), (.ref x1)] 6 = mkF m 0 #[.val (.ref x0), .val (.ref x1), .unset, .unset, .unset, .unset] [] := by first | (simp [entryFrame, mkF, argsToLocals, Value.category]; done) | rfl
def Q_rm2 (Z : State) (o0 : Addr) (o1 : Addr) (ka : ClassId) (vs : List Value) (n : Nat) (h0 : Heap) (n0 : Nat) (v : Option Value) (h : Heap) (L : List Loc) : Prop := v = none ∧ Fr n0 L ∧ ∃ (gl bs t : Addr) (u : Nat), Keep h0 h [o0] ∧ own_R Z h o0 gl bs t ka n n n u (own_fold vs 1) n0
set_option maxRecDepth 65536 in
set_option maxHeartbeats 40000000 in
theorem rm2 (l : Launch) (Z : State) (a0 : Array Value) (hw : ∀ d ∈ tables_1, d.before a0 Z = true) (ws : List Jvm.Cond) (o0 : Addr) (o1 : Addr) (ka : ClassId) (vs : List Value) (n : Nat) (h0 : Heap) (n0 : Nat) (Z0 : n0 ≤ h0.size) (E : Exa Z h0 o0 "com/example/tapeline/tapeline/OpenTypeLayout$GlyphRun") (Fg : Fld Z h0 o0 "com/example/tapeline/tapeline/OpenTypeLayout$GlyphRun" "glyphs" "[I" .null) (F1 : Fld Z h0 o0 "com/example/tapeline/tapeline/OpenTypeLayout$GlyphRun" "gapStart" "I" (.int (0 : Int32))) (F2 : Fld Z h0 o0 "com/example/tapeline/tapeline/OpenTypeLayout$GlyphRun" "gapEnd" "I" (.int (0 : Int32))) (Fh : Fld Z h0 o0 "com/example/tapeline/tapeline/OpenTypeLayout$GlyphRun" "held" "Ljava/util/BitSet;" .null) (FO : Arv Z h0 o1 ka .int (Int32.ofNat n) vs (.int (0 : Int32))) (EA : Exa Z h0 o1 "[I") (hvl : vs.length = n) (hvr : ∀ v ∈ vs, own_gy v) (hn : n ≤ 7) (g0 : n0 ≤ o0) (SA : Sta Z Z.heap "java/util/BitSet" "$assertionsDisabled" "Z" (.int (1 : Int32))) (Od : Old Z n0 h0) :
    MetFree l (⟨"com/example/tapeline/tapeline/OpenTypeLayout$GlyphRun", "<init>", "([I)V"⟩ : MethodName) (head1 (Jvm.Cond.code (⟨"com/example/tapeline/tapeline/OpenTypeLayout$GlyphRun", "<init>", "([I)V"⟩ : MethodName) prog_50_method_1_code 6 none :: ws) ({ frames := 5, cells := 3 + n, slots := 11 + 2 * (own_fold vs 1 - 1), locals := 75 } : Room)) (fun a U => a = #[(.ref o0), (.ref o1)] ∧ Z.Warmed39 U.vm ∧ U.heap = h0) (fun _ _ _ _ _ => True) (fun _ U o U' => ∃ v L, o = .returned v ∧ Q_rm2 Z o0 o1 ka vs n h0 n0 v U'.heap L ∧ FrameEnd U o U' L ({ frames := 5, cells := 3 + n, slots := 11 + 2 * (own_fold vs 1 - 1), locals := 75 } : Room).cells ({ frames := 5, cells := 3 + n, slots := 11 + 2 * (own_fold vs 1 - 1), locals := 75 } : Room).slots) := by
  refine MetFree.of_bodySF (plainFor_of_name pn_1) hisR ?_
  intro p e s m args below meth c s₁ Bd hml0 hP hK
  obtain ⟨rfl, hZ, hh⟩ := hP
  have hx := Bd.exec
  have hby := Bd.bytes
  have hml : c.maxLocals = 6 := hml0
  have hown : s.vm.findClass "com/example/tapeline/tapeline/OpenTypeLayout$GlyphRun" = some m.cls := findClass_of_methodNamed Bd.named
  have hnm := (name_of_methodNamed Bd.named Bd.method).1
  have X0 : Stand p l e ({ frames := 5, cells := 3 + n, slots := 11 + 2 * (own_fold vs 1 - 1), locals := 75 } : Room) s m #[(.ref o0), (.ref o1)] below meth c s₁ [] 0 0 := Stand.of_body Bd
  have e0 : s₁.heap = h0 := by rw [← hh, Bd.state]; rfl
  have N0 := Fr.nil n0
  have c0 : ∀ τ, Steps p.tables e below (s₁.setTop (mkF m 0 #[.val (.ref o0), .val (.ref o1), .unset, .unset, .unset, .unset] [])) τ → Steps p.tables e below (s₁.setTop (entryFrame m #[(.ref o0), (.ref o1)] 6)) τ := fun τ κ => castTop (ef_rm2 m o0 o1) κ
  have ne_o0_o1 : o0 ≠ o1 := own_ne_ea E (hw _ (List.mem_of_getElem? (i := 6) rfl)) FO
  have c1 : ∀ τ, Steps p.tables e below (s₁.setTop (mkF m 1 #[.val (.ref o0), .val (.ref o1), .unset, .unset, .unset, .unset] [(.ref o0)])) τ → Steps p.tables e below (s₁.setTop (entryFrame m #[(.ref o0), (.ref o1)] 6)) τ := fun τ κ => c0 τ (by
      show Steps p.tables e below (s₁.setTop (mkF m 0 #[.val (.ref o0), .val (.ref o1), .unset, .unset, .unset, .unset] [])) _
      refine XS.aloadN X0.here hx rfl (hb hby d2_0) rfl rfl ?_
      exact κ)
  obtain ⟨T2, X2, e2, st2⟩ := initO X0 hx hZ hown (hw _ (List.mem_of_getElem? (i := 11) rfl)) (hw _ (List.mem_of_getElem? (i := 12) rfl)) (hw _ (List.mem_of_getElem? (i := 13) rfl)) e0 (g := (mkF m 1 #[.val (.ref o0), .val (.ref o1), .unset, .unset, .unset, .unset] [(.ref o0)])) rfl (by rw [hml]; rfl) rfl (hb hby d2_1) (Nat.le_of_ble_eq_true rfl) (W := 0) (by show 2 * 0 + _ ≤ _; exact Nat.le_of_eq rfl) (Nat.le_of_ble_eq_true rfl)
  have c3 : ∀ τ, Steps p.tables e below (T2.setTop (mkF m 4 #[.val (.ref o0), .val (.ref o1), .unset, .unset, .unset, .unset] [])) τ → Steps p.tables e below (s₁.setTop (entryFrame m #[(.ref o0), (.ref o1)] 6)) τ := fun τ κ => c1 τ (st2 τ κ)
  have c4 : ∀ τ, Steps p.tables e below (T2.setTop (mkF m 5 #[.val (.ref o0), .val (.ref o1), .unset, .unset, .unset, .unset] [(.ref o0)])) τ → Steps p.tables e below (s₁.setTop (entryFrame m #[(.ref o0), (.ref o1)] 6)) τ := fun τ κ => c3 τ (by
      show Steps p.tables e below (T2.setTop (mkF m 4 #[.val (.ref o0), .val (.ref o1), .unset, .unset, .unset, .unset] [])) _
      refine XS.aloadN X2.here hx rfl (hb hby d2_4) rfl rfl ?_
      exact κ)
  obtain ⟨T5, h5, X5, e5, E5, A5, D5, -, st5⟩ := newO X2 hx hZ hown (hw _ (List.mem_of_getElem? (i := 14) rfl)) (hw _ (List.mem_of_getElem? (i := 15) rfl)) (hw _ (List.mem_of_getElem? (i := 16) rfl)) e2 (g := (mkF m 5 #[.val (.ref o0), .val (.ref o1), .unset, .unset, .unset, .unset] [(.ref o0)])) rfl (hb hby d2_5) (by show 0 + 1 ≤ 3 + n; omega) (by show 0 + 3 ≤ 11 + 2 * (own_fold vs 1 - 1); omega)
  obtain ⟨b5, g5⟩ : ∃ z, z = h0.size := ⟨_, rfl⟩
  rw [← g5] at A5 D5 st5
  have gb5 : n0 ≤ b5 := Nat.le_trans Z0 (Nat.le_of_eq g5.symm)
  have ne_o0_b5 : o0 ≠ b5 := Nat.ne_of_lt (Nat.lt_of_lt_of_le E.lt (Nat.le_of_eq g5.symm))
  have ne_o1_b5 : o1 ≠ b5 := Nat.ne_of_lt (Nat.lt_of_lt_of_le FO.lt (Nat.le_of_eq g5.symm))
  have Z5 : n0 ≤ h5.size := Nat.le_trans Z0 E5.1
  have sz5 : h0.size ≤ b5 := Nat.le_trans (Keep.refl h0 [o0]).1 (Nat.le_of_eq g5.symm)
  have K5 : Keep h0 h5 [o0] := (Keep.refl h0 [o0]).ext E5
  have F5_wordsInUse : Fld Z h5 b5 "java/util/BitSet" "wordsInUse" "I" (.int (0 : Int32)) := D5 (Or.inl (hw _ (List.mem_of_getElem? (i := 22) rfl))) (ty := .int) (by decide)
  have F5_sizeIsSticky : Fld Z h5 b5 "java/util/BitSet" "sizeIsSticky" "Z" (.int (0 : Int32)) := D5 (Or.inl (hw _ (List.mem_of_getElem? (i := 24) rfl))) (ty := .boolean) (by decide)
  have F5_words : Fld Z h5 b5 "java/util/BitSet" "words" "[J" .null := D5 (Or.inl (hw _ (List.mem_of_getElem? (i := 35) rfl))) (ty := (.array .long)) (by decide)
  have c6 : ∀ τ, Steps p.tables e below (T5.setTop (mkF m 8 #[.val (.ref o0), .val (.ref o1), .unset, .unset, .unset, .unset] [(.ref b5), (.ref o0)])) τ → Steps p.tables e below (s₁.setTop (entryFrame m #[(.ref o0), (.ref o1)] 6)) τ := fun τ κ => c4 τ (st5 τ κ)
  have c7 : ∀ τ, Steps p.tables e below (T5.setTop (mkF m 9 #[.val (.ref o0), .val (.ref o1), .unset, .unset, .unset, .unset] [(.ref b5), (.ref b5), (.ref o0)])) τ → Steps p.tables e below (s₁.setTop (entryFrame m #[(.ref o0), (.ref o1)] 6)) τ := fun τ κ => c6 τ (by
      show Steps p.tables e below (T5.setTop (mkF m 8 #[.val (.ref o0), .val (.ref o1), .unset, .unset, .unset, .unset] [(.ref b5), (.ref o0)])) _
      refine XS.dup X5.here hx rfl (hb hby d2_8) rfl rfl ?_
      exact κ)
  obtain ⟨_, _, ⟨T8, L8, k8, n8⟩, -, X8, ⟨Lc8, hQ8, l8, y8, z8⟩, st8⟩ := X5.specialBack hx (y := (⟨"java/util/BitSet", "<init>", "()V"⟩ : MethodName)) rfl hown (mvT hZ (hw _ (List.mem_of_getElem? (i := 17) rfl))) (mvT hZ (hw _ (List.mem_of_getElem? (i := 18) rfl))) (mvT hZ (hw _ (List.mem_of_getElem? (i := 19) rfl))) (by decide) (backOf (W := 2) (rm4 l Z a0 hw [] b5 h5 n0 Z5 A5 F5_wordsInUse F5_sizeIsSticky F5_words gb5) hZ (hw _ (List.mem_of_getElem? (i := 19) rfl)) (hw _ (List.mem_of_getElem? (i := 16) rfl)) (Nat.le_of_ble_eq_true rfl) (Nat.le_of_ble_eq_true rfl)) (g := (mkF m 9 #[.val (.ref o0), .val (.ref o1), .unset, .unset, .unset, .unset] [(.ref b5), (.ref b5), (.ref o0)])) rfl (by rw [hml]; rfl) (Steps.refl _) (a := b5) (argsL := []) (rest := [(.ref b5), (.ref o0)]) (lenOf pd_2 rfl) rfl (by show 2 * 0 + _ ≤ _; exact Nat.le_of_eq rfl) (hb hby d2_9) (fun _ _ => ⟨rfl, e5, (by show 1 + 1 ≤ 3 + n; omega), (by show 3 + 1 ≤ 11 + 2 * (own_fold vs 1 - 1); omega)⟩)
  dsimp only [Pt.U, Pt.locs, Pt.cells, Pt.slots] at X8 l8 y8 z8 st8 hQ8
  rw [y8, z8] at X8
  obtain ⟨rfl, N8q, t1, K8q, B1, ht1⟩ := hQ8
  have N8 : Fr n0 L8 := by rw [l8]; exact Fr.app N0 N8q
  replace X8 := X8.more (cells' := 2) (slots' := 4) (Nat.le_refl _) (Nat.le_refl _)
  replace X8 : Stand p l e _ s m _ below meth c T8 L8 2 4 := X8
  clear l8 y8 z8
  have Z8 : n0 ≤ T8.heap.size := Nat.le_trans Z5 K8q.1
  have K8 : Keep h0 T8.heap [o0] := K5.trans K8q (allS (Or.inr sz5) all0)
  have c9 : ∀ τ, Steps p.tables e below (T8.setTop (mkF m 12 #[.val (.ref o0), .val (.ref o1), .unset, .unset, .unset, .unset] [(.ref b5), (.ref o0)])) τ → Steps p.tables e below (s₁.setTop (entryFrame m #[(.ref o0), (.ref o1)] 6)) τ := fun τ κ => c7 τ (st8.trans κ)
  have hsz : h0.size ≤ t1 := Nat.le_trans K5.1 ht1
  obtain ⟨Eb, Fub, ⟨sxb, Fsb⟩, Fwb, ⟨kab, vsb, FVb, hvlb⟩, hulb, hl1b, hl2b, g0b, gtb⟩ := id B1
  have ne_b5_t1 : b5 ≠ t1 := own_ne_ea Eb (hw _ (List.mem_of_getElem? (i := 15) rfl)) FVb
  have ne_o0_t1 : o0 ≠ t1 := Nat.ne_of_lt (Nat.lt_of_lt_of_le E.lt hsz)
  have f11 := ((Fh.ext E5).keep K8q (ninS ne_o0_b5 nin0))
  have f12 := ((E.ext E5).keep K8q)
  obtain ⟨T10, h10, X10, e10, W10, st10⟩ := putF X8 hx hZ hown (host := "") (Or.inl (hw _ (List.mem_of_getElem? (i := 36) rfl))) Via.refl rfl f11 f12 (Or.inr ⟨(hw _ (List.mem_of_getElem? (i := 37) rfl)), rfl, hnm⟩) (hw _ (List.mem_of_getElem? (i := 6) rfl)) (ty := (.object "java/util/BitSet")) (by decide) rfl rfl (g := (mkF m 12 #[.val (.ref o0), .val (.ref o1), .unset, .unset, .unset, .unset] [(.ref b5), (.ref o0)])) rfl rfl (hb hby d2_12)
  have F10 := f11.same W10
  have N10 := Fr.snoc X10 N8 g0
  have Z10 : n0 ≤ h10.size := Nat.le_trans Z8 (Keep.of_wr W10).1
  have K10 : Keep h0 h10 [o0] := K8.wr W10 (Or.inl (List.mem_of_getElem? (i := 0) rfl))
  have c13 : ∀ τ, Steps p.tables e below (T10.setTop (mkF m 15 #[.val (.ref o0), .val (.ref o1), .unset, .unset, .unset, .unset] [])) τ → Steps p.tables e below (s₁.setTop (entryFrame m #[(.ref o0), (.ref o1)] 6)) τ := fun τ κ => c9 τ (st10 τ κ)
  have c14 : ∀ τ, Steps p.tables e below (T10.setTop (mkF m 17 #[.val (.ref o0), .val (.ref o1), .unset, .unset, .unset, .unset] [(.ref o1), (.ref o0)])) τ → Steps p.tables e below (s₁.setTop (entryFrame m #[(.ref o0), (.ref o1)] 6)) τ := fun τ κ => c13 τ (by
      show Steps p.tables e below (T10.setTop (mkF m 15 #[.val (.ref o0), .val (.ref o1), .unset, .unset, .unset, .unset] [])) _
      refine XS.aloadN X10.here hx rfl (hb hby d2_15) rfl rfl ?_
      show Steps p.tables e below (T10.setTop (mkF m 16 #[.val (.ref o0), .val (.ref o1), .unset, .unset, .unset, .unset] [(.ref o0)])) _
      refine XS.aloadN X10.here hx rfl (hb hby d2_16) rfl rfl ?_
      exact κ)
  have f16 := (((FO.ext E5).keep K8q (ninS ne_o1_b5 nin0)).other W10 (Ne.symm ne_o0_o1))
  have f17 := (((EA.ext E5).keep K8q).wr W10)
  obtain ⟨T15, h15, X15, e15, E15, A15, Ex15, st15⟩ := cloneH X10 hx hZ hown (hw _ (List.mem_of_getElem? (i := 38) rfl)) (hw _ (List.mem_of_getElem? (i := 39) rfl)) (hw _ (List.mem_of_getElem? (i := 43) rfl)) (hw _ (List.mem_of_getElem? (i := 41) rfl)) (hw _ (List.mem_of_getElem? (i := 42) rfl)) (hw _ (List.mem_of_getElem? (i := 44) rfl)) e10 (Arv.arh f16) f17 (g := (mkF m 17 #[.val (.ref o0), .val (.ref o1), .unset, .unset, .unset, .unset] [(.ref o1), (.ref o0)])) rfl (by rw [hml]; rfl) rfl (hb hby d2_17) (Nat.le_of_ble_eq_true rfl) (W := 1) (cap := 7) (by show 2 * 0 + _ ≤ _; exact Nat.le_of_eq rfl) (Nat.le_of_ble_eq_true rfl) (by rw [own_n32 (by omega)]; exact hn) (by show 2 + 1 ≤ 3 + n; omega) (by show 4 + 7 ≤ 11 + 2 * (own_fold vs 1 - 1); omega)
  obtain ⟨b15, g15⟩ : ∃ z, z = h10.size := ⟨_, rfl⟩
  rw [← g15] at A15 Ex15 st15
  have gb15 : n0 ≤ b15 := Nat.le_trans Z10 (Nat.le_of_eq g15.symm)
  have f18 := (FVb.other W10 (Ne.symm ne_o0_t1))
  have ne_t1_b15 : t1 ≠ b15 := Nat.ne_of_lt (Nat.lt_of_lt_of_le f18.lt (Nat.le_of_eq g15.symm))
  have f19 := (f12.wr W10)
  have ne_o0_b15 : o0 ≠ b15 := Nat.ne_of_lt (Nat.lt_of_lt_of_le f19.lt (Nat.le_of_eq g15.symm))
  have ne_o1_b15 : o1 ≠ b15 := Nat.ne_of_lt (Nat.lt_of_lt_of_le f16.lt (Nat.le_of_eq g15.symm))
  have f20 := (Eb.wr W10)
  have ne_b5_b15 : b5 ≠ b15 := Nat.ne_of_lt (Nat.lt_of_lt_of_le f20.lt (Nat.le_of_eq g15.symm))
  have Z15 : n0 ≤ h15.size := Nat.le_trans Z10 E15.1
  have sz15 : h0.size ≤ b15 := Nat.le_trans K10.1 (Nat.le_of_eq g15.symm)
  have K15 : Keep h0 h15 [o0] := K10.ext E15
  have c21 : ∀ τ, Steps p.tables e below (T15.setTop (mkF m 20 #[.val (.ref o0), .val (.ref o1), .unset, .unset, .unset, .unset] [(.ref b15), (.ref o0)])) τ → Steps p.tables e below (s₁.setTop (entryFrame m #[(.ref o0), (.ref o1)] 6)) τ := fun τ κ => c14 τ (st15 τ κ)
  obtain ⟨T22, X22, e22, st22⟩ := castY X15 hx hZ hown (hw _ (List.mem_of_getElem? (i := 45) rfl)) e15 (Ins.self Ex15) (g := (mkF m 20 #[.val (.ref o0), .val (.ref o1), .unset, .unset, .unset, .unset] [(.ref b15), (.ref o0)])) rfl rfl (hb hby d2_20)
  have c23 : ∀ τ, Steps p.tables e below (T22.setTop (mkF m 23 #[.val (.ref o0), .val (.ref o1), .unset, .unset, .unset, .unset] [(.ref b15), (.ref o0)])) τ → Steps p.tables e below (s₁.setTop (entryFrame m #[(.ref o0), (.ref o1)] 6)) τ := fun τ κ => c21 τ (st22 τ κ)
  have f25 := ((((Fg.ext E5).keep K8q (ninS ne_o0_b5 nin0)).other W10 (Or.inr (slot_ne (Or.inr (hw _ (List.mem_of_getElem? (i := 48) rfl))) (Or.inr (hw _ (List.mem_of_getElem? (i := 37) rfl))) (by decide) (t := (.array .int)) (t' := (.object "java/util/BitSet")) (by decide) (by decide)))).ext E15)
  have f26 := (f19.ext E15)
  obtain ⟨T24, h24, X24, e24, W24, st24⟩ := putF X22 hx hZ hown (host := "") (Or.inl (hw _ (List.mem_of_getElem? (i := 47) rfl))) Via.refl e22 f25 f26 (Or.inr ⟨(hw _ (List.mem_of_getElem? (i := 48) rfl)), rfl, hnm⟩) (hw _ (List.mem_of_getElem? (i := 6) rfl)) (ty := (.array .int)) (by decide) rfl rfl (g := (mkF m 23 #[.val (.ref o0), .val (.ref o1), .unset, .unset, .unset, .unset] [(.ref b15), (.ref o0)])) rfl rfl (hb hby d2_23)
  have F24 := f25.same W24
  have N24 := Fr.snoc X24 N10 g0
  have Z24 : n0 ≤ h24.size := Nat.le_trans Z15 (Keep.of_wr W24).1
  have K24 : Keep h0 h24 [o0] := K15.wr W24 (Or.inl (List.mem_of_getElem? (i := 0) rfl))
  have c27 : ∀ τ, Steps p.tables e below (T24.setTop (mkF m 26 #[.val (.ref o0), .val (.ref o1), .unset, .unset, .unset, .unset] [])) τ → Steps p.tables e below (s₁.setTop (entryFrame m #[(.ref o0), (.ref o1)] 6)) τ := fun τ κ => c23 τ (st24 τ κ)
  have c28 : ∀ τ, Steps p.tables e below (T24.setTop (mkF m 28 #[.val (.ref o0), .val (.ref o1), .unset, .unset, .unset, .unset] [(.ref o1), (.ref o0)])) τ → Steps p.tables e below (s₁.setTop (entryFrame m #[(.ref o0), (.ref o1)] 6)) τ := fun τ κ => c27 τ (by
      show Steps p.tables e below (T24.setTop (mkF m 26 #[.val (.ref o0), .val (.ref o1), .unset, .unset, .unset, .unset] [])) _
      refine XS.aloadN X24.here hx rfl (hb hby d2_26) rfl rfl ?_
      show Steps p.tables e below (T24.setTop (mkF m 27 #[.val (.ref o0), .val (.ref o1), .unset, .unset, .unset, .unset] [(.ref o0)])) _
      refine XS.aloadN X24.here hx rfl (hb hby d2_27) rfl rfl ?_
      exact κ)
  have f29 := ((f16.ext E15).other W24 (Ne.symm ne_o0_o1))
  have c30 : ∀ τ, Steps p.tables e below (T24.setTop (mkF m 29 #[.val (.ref o0), .val (.ref o1), .unset, .unset, .unset, .unset] [(.int (Int32.ofNat n)), (.ref o0)])) τ → Steps p.tables e below (s₁.setTop (entryFrame m #[(.ref o0), (.ref o1)] 6)) τ := fun τ κ => c28 τ (own_alen X24 hx hZ e24 f29 (g := (mkF m 28 #[.val (.ref o0), .val (.ref o1), .unset, .unset, .unset, .unset] [(.ref o1), (.ref o0)])) rfl rfl (hb hby d2_28) _ κ)
  have f32 := (((((F1.ext E5).keep K8q (ninS ne_o0_b5 nin0)).other W10 (Or.inr (slot_ne (Or.inl (hw _ (List.mem_of_getElem? (i := 50) rfl))) (Or.inr (hw _ (List.mem_of_getElem? (i := 37) rfl))) (by decide) (t := .int) (t' := (.object "java/util/BitSet")) (by decide) (by decide)))).ext E15).other W24 (Or.inr (slot_ne (Or.inl (hw _ (List.mem_of_getElem? (i := 50) rfl))) (Or.inr (hw _ (List.mem_of_getElem? (i := 48) rfl))) (by decide) (t := .int) (t' := (.array .int)) (by decide) (by decide))))
  have f33 := (f26.wr W24)
  obtain ⟨T31, h31, X31, e31, W31, st31⟩ := putF X24 hx hZ hown (host := "") (Or.inl (hw _ (List.mem_of_getElem? (i := 49) rfl))) Via.refl e24 f32 f33 (Or.inl (hw _ (List.mem_of_getElem? (i := 50) rfl))) (hw _ (List.mem_of_getElem? (i := 6) rfl)) (ty := .int) (by decide) rfl rfl (g := (mkF m 29 #[.val (.ref o0), .val (.ref o1), .unset, .unset, .unset, .unset] [(.int (Int32.ofNat n)), (.ref o0)])) rfl rfl (hb hby d2_29)
  have F31 := f32.same W31
  have N31 := Fr.snoc X31 N24 g0
  have Z31 : n0 ≤ h31.size := Nat.le_trans Z24 (Keep.of_wr W31).1
  have K31 : Keep h0 h31 [o0] := K24.wr W31 (Or.inl (List.mem_of_getElem? (i := 0) rfl))
  have c34 : ∀ τ, Steps p.tables e below (T31.setTop (mkF m 32 #[.val (.ref o0), .val (.ref o1), .unset, .unset, .unset, .unset] [])) τ → Steps p.tables e below (s₁.setTop (entryFrame m #[(.ref o0), (.ref o1)] 6)) τ := fun τ κ => c30 τ (st31 τ κ)
  have c35 : ∀ τ, Steps p.tables e below (T31.setTop (mkF m 34 #[.val (.ref o0), .val (.ref o1), .unset, .unset, .unset, .unset] [(.ref o1), (.ref o0)])) τ → Steps p.tables e below (s₁.setTop (entryFrame m #[(.ref o0), (.ref o1)] 6)) τ := fun τ κ => c34 τ (by
      show Steps p.tables e below (T31.setTop (mkF m 32 #[.val (.ref o0), .val (.ref o1), .unset, .unset, .unset, .unset] [])) _
      refine XS.aloadN X31.here hx rfl (hb hby d2_32) rfl rfl ?_
      show Steps p.tables e below (T31.setTop (mkF m 33 #[.val (.ref o0), .val (.ref o1), .unset, .unset, .unset, .unset] [(.ref o0)])) _
      refine XS.aloadN X31.here hx rfl (hb hby d2_33) rfl rfl ?_
      exact κ)
  have f36 := (f29.other W31 (Ne.symm ne_o0_o1))
  have c37 : ∀ τ, Steps p.tables e below (T31.setTop (mkF m 35 #[.val (.ref o0), .val (.ref o1), .unset, .unset, .unset, .unset] [(.int (Int32.ofNat n)), (.ref o0)])) τ → Steps p.tables e below (s₁.setTop (entryFrame m #[(.ref o0), (.ref o1)] 6)) τ := fun τ κ => c35 τ (own_alen X31 hx hZ e31 f36 (g := (mkF m 34 #[.val (.ref o0), .val (.ref o1), .unset, .unset, .unset, .unset] [(.ref o1), (.ref o0)])) rfl rfl (hb hby d2_34) _ κ)
  have f39 := ((((((F2.ext E5).keep K8q (ninS ne_o0_b5 nin0)).other W10 (Or.inr (slot_ne (Or.inl (hw _ (List.mem_of_getElem? (i := 52) rfl))) (Or.inr (hw _ (List.mem_of_getElem? (i := 37) rfl))) (by decide) (t := .int) (t' := (.object "java/util/BitSet")) (by decide) (by decide)))).ext E15).other W24 (Or.inr (slot_ne (Or.inl (hw _ (List.mem_of_getElem? (i := 52) rfl))) (Or.inr (hw _ (List.mem_of_getElem? (i := 48) rfl))) (by decide) (t := .int) (t' := (.array .int)) (by decide) (by decide)))).other W31 (Or.inr (slot_ne (Or.inl (hw _ (List.mem_of_getElem? (i := 52) rfl))) (Or.inl (hw _ (List.mem_of_getElem? (i := 50) rfl))) (by decide) (t := .int) (t' := .int) (by decide) (by decide))))
  have f40 := (f33.wr W31)
  obtain ⟨T38, h38, X38, e38, W38, st38⟩ := putF X31 hx hZ hown (host := "") (Or.inl (hw _ (List.mem_of_getElem? (i := 51) rfl))) Via.refl e31 f39 f40 (Or.inl (hw _ (List.mem_of_getElem? (i := 52) rfl))) (hw _ (List.mem_of_getElem? (i := 6) rfl)) (ty := .int) (by decide) rfl rfl (g := (mkF m 35 #[.val (.ref o0), .val (.ref o1), .unset, .unset, .unset, .unset] [(.int (Int32.ofNat n)), (.ref o0)])) rfl rfl (hb hby d2_35)
  have F38 := f39.same W38
  have N38 := Fr.snoc X38 N31 g0
  have Z38 : n0 ≤ h38.size := Nat.le_trans Z31 (Keep.of_wr W38).1
  have K38 : Keep h0 h38 [o0] := K31.wr W38 (Or.inl (List.mem_of_getElem? (i := 0) rfl))
  have c41 : ∀ τ, Steps p.tables e below (T38.setTop (mkF m 38 #[.val (.ref o0), .val (.ref o1), .unset, .unset, .unset, .unset] [])) τ → Steps p.tables e below (s₁.setTop (entryFrame m #[(.ref o0), (.ref o1)] 6)) τ := fun τ κ => c37 τ (st38 τ κ)
  have c42 : ∀ τ, Steps p.tables e below (T38.setTop (mkF m 41 #[.val (.ref o0), .val (.ref o1), .val (.ref o1), .unset, .unset, .unset] [(.ref o1)])) τ → Steps p.tables e below (s₁.setTop (entryFrame m #[(.ref o0), (.ref o1)] 6)) τ := fun τ κ => c41 τ (by
      show Steps p.tables e below (T38.setTop (mkF m 38 #[.val (.ref o0), .val (.ref o1), .unset, .unset, .unset, .unset] [])) _
      refine XS.aloadN X38.here hx rfl (hb hby d2_38) rfl rfl ?_
      show Steps p.tables e below (T38.setTop (mkF m 39 #[.val (.ref o0), .val (.ref o1), .unset, .unset, .unset, .unset] [(.ref o1)])) _
      refine XS.astoreN X38.here hx rfl (hb hby d2_39) rfl rfl (l' := #[.val (.ref o0), .val (.ref o1), .val (.ref o1), .unset, .unset, .unset]) rfl ?_
      show Steps p.tables e below (T38.setTop (mkF m 40 #[.val (.ref o0), .val (.ref o1), .val (.ref o1), .unset, .unset, .unset] [])) _
      refine XS.aloadN X38.here hx rfl (hb hby d2_40) rfl rfl ?_
      exact κ)
  have f43 := (f36.other W38 (Ne.symm ne_o0_o1))
  have c44 : ∀ τ, Steps p.tables e below (T38.setTop (mkF m 42 #[.val (.ref o0), .val (.ref o1), .val (.ref o1), .unset, .unset, .unset] [(.int (Int32.ofNat n))])) τ → Steps p.tables e below (s₁.setTop (entryFrame m #[(.ref o0), (.ref o1)] 6)) τ := fun τ κ => c42 τ (own_alen X38 hx hZ e38 f43 (g := (mkF m 41 #[.val (.ref o0), .val (.ref o1), .val (.ref o1), .unset, .unset, .unset] [(.ref o1)])) rfl rfl (hb hby d2_41) _ κ)
  have c45 : ∀ τ, Steps p.tables e below (T38.setTop (mkF m 46 #[.val (.ref o0), .val (.ref o1), .val (.ref o1), .val (.int (Int32.ofNat n)), .val (.int (0 : Int32)), .unset] [])) τ → Steps p.tables e below (s₁.setTop (entryFrame m #[(.ref o0), (.ref o1)] 6)) τ := fun τ κ => c44 τ (by
      show Steps p.tables e below (T38.setTop (mkF m 42 #[.val (.ref o0), .val (.ref o1), .val (.ref o1), .unset, .unset, .unset] [(.int (Int32.ofNat n))])) _
      refine XS.istoreN X38.here hx rfl (hb hby d2_42) rfl (l' := #[.val (.ref o0), .val (.ref o1), .val (.ref o1), .val (.int (Int32.ofNat n)), .unset, .unset]) rfl ?_
      show Steps p.tables e below (T38.setTop (mkF m 43 #[.val (.ref o0), .val (.ref o1), .val (.ref o1), .val (.int (Int32.ofNat n)), .unset, .unset] [])) _
      refine XS.iconst X38.here hx rfl (hb hby d2_43) ?_
      show Steps p.tables e below (T38.setTop (mkF m 44 #[.val (.ref o0), .val (.ref o1), .val (.ref o1), .val (.int (Int32.ofNat n)), .unset, .unset] [(.int (0 : Int32))])) _
      refine XS.istore X38.here hx rfl (hb hby d2_44) rfl (l' := #[.val (.ref o0), .val (.ref o1), .val (.ref o1), .val (.int (Int32.ofNat n)), .val (.int (0 : Int32)), .unset]) rfl ?_
      exact κ)
  have f46 := (f40.wr W38)
  have f47 := ((F24.other W31 (Or.inr (slot_ne (Or.inr (hw _ (List.mem_of_getElem? (i := 48) rfl))) (Or.inl (hw _ (List.mem_of_getElem? (i := 50) rfl))) (by decide) (t := (.array .int)) (t' := .int) (by decide) (by decide)))).other W38 (Or.inr (slot_ne (Or.inr (hw _ (List.mem_of_getElem? (i := 48) rfl))) (Or.inl (hw _ (List.mem_of_getElem? (i := 52) rfl))) (by decide) (t := (.array .int)) (t' := .int) (by decide) (by decide))))
  have f48 := (F31.other W38 (Or.inr (slot_ne (Or.inl (hw _ (List.mem_of_getElem? (i := 50) rfl))) (Or.inl (hw _ (List.mem_of_getElem? (i := 52) rfl))) (by decide) (t := .int) (t' := .int) (by decide) (by decide))))
  have f49 := ((((F10.ext E15).other W24 (Or.inr (slot_ne (Or.inr (hw _ (List.mem_of_getElem? (i := 37) rfl))) (Or.inr (hw _ (List.mem_of_getElem? (i := 48) rfl))) (by decide) (t := (.object "java/util/BitSet")) (t' := (.array .int)) (by decide) (by decide)))).other W31 (Or.inr (slot_ne (Or.inr (hw _ (List.mem_of_getElem? (i := 37) rfl))) (Or.inl (hw _ (List.mem_of_getElem? (i := 50) rfl))) (by decide) (t := (.object "java/util/BitSet")) (t' := .int) (by decide) (by decide)))).other W38 (Or.inr (slot_ne (Or.inr (hw _ (List.mem_of_getElem? (i := 37) rfl))) (Or.inl (hw _ (List.mem_of_getElem? (i := 52) rfl))) (by decide) (t := (.object "java/util/BitSet")) (t' := .int) (by decide) (by decide))))
  have f50 := (((A15.other W24 (Ne.symm ne_o0_b15)).other W31 (Ne.symm ne_o0_b15)).other W38 (Ne.symm ne_o0_b15))
  have f51 := ((((f20.ext E15).wr W24).wr W31).wr W38)
  have f52 := (((((Fub.other W10 (Or.inl (Ne.symm ne_o0_b5))).ext E15).other W24 (Or.inl (Ne.symm ne_o0_b5))).other W31 (Or.inl (Ne.symm ne_o0_b5))).other W38 (Or.inl (Ne.symm ne_o0_b5)))
  have f53 := (((((Fsb.other W10 (Or.inl (Ne.symm ne_o0_b5))).ext E15).other W24 (Or.inl (Ne.symm ne_o0_b5))).other W31 (Or.inl (Ne.symm ne_o0_b5))).other W38 (Or.inl (Ne.symm ne_o0_b5)))
  have f54 := (((((Fwb.other W10 (Or.inl (Ne.symm ne_o0_b5))).ext E15).other W24 (Or.inl (Ne.symm ne_o0_b5))).other W31 (Or.inl (Ne.symm ne_o0_b5))).other W38 (Or.inl (Ne.symm ne_o0_b5)))
  have f55 := ((((f18.ext E15).other W24 (Ne.symm ne_o0_t1)).other W31 (Ne.symm ne_o0_t1)).other W38 (Ne.symm ne_o0_t1))
  have f56 := (((((((Od.ext E5).keep K8q (allS g0b all0)).wr W10 g0).ext E15).wr W24 g0).wr W31 g0).wr W38 g0)
  obtain ⟨T9, h9, L9, t9, u9, s9, X9, e9, N9, Z9, R9, K9, st9⟩ := loop2 o0 o1 b15 b5 ka ka vs n n0 hx hZ hw hby hml hown SA sz5 hn hvl hvr n 0 .unset T38 h38 _ t1 0 1 (Nat.zero_add n) One.u X38 e38 N38 Z38 ⟨f46, f47, f48, F38, f49, ⟨_, f50, hvl⟩, ⟨f51, f52, ⟨_, f53⟩, f54, ⟨_, _, f55, hvlb⟩, by omega, by omega, by omega, g0b, gtb⟩, g0, gb15⟩ f43 f56 K38 hsz rfl
  have c57 : ∀ τ, Steps p.tables e below (T9.setTop (mkF m 73 #[.val (.ref o0), .val (.ref o1), .val (.ref o1), .val (.int (Int32.ofNat n)), .val (.int (Int32.ofNat n)), s9] [])) τ → Steps p.tables e below (s₁.setTop (entryFrame m #[(.ref o0), (.ref o1)] 6)) τ := fun τ κ => c45 τ (st9 τ κ)
  obtain ⟨fs, hr, hrun, hended, hW, hsame⟩ := X9.leave (v := none) (fun _ => rfl)
  refine ⟨_, _, c57 _ (X9.returnOut hx Bd.returns (hb hby d2_73) hr), hrun, hended, _, _, rfl, ?_, ⟨_, rfl⟩, hW, hsame.mono (Nat.le_refl _) (Nat.le_refl _)⟩
  show Q_rm2 Z o0 o1 ka vs n h0 n0 _ T9.heap _
  rw [e9]
  exact ⟨rfl, N9, b15, b5, t9, u9, K9, R9⟩
theorem own_andN (x m : Int32) (k : Nat) (hm : m.toBitVec.toNat = k) (hk : k < 2147483648) : ∃ i : Nat, i ≤ k ∧ x &&& m = Int32.ofNat i := by
  have q0 : (x &&& m).toBitVec.toNat ≤ k := by
    rw [← hm]
    simp only [Int32.toBitVec_and, BitVec.toNat_and]
    exact Nat.and_le_right
  have q : (x &&& m).toInt = ((x &&& m).toBitVec.toNat : Int) := BitVec.toInt_eq_toNat_of_lt (by omega)
  refine ⟨(x &&& m).toBitVec.toNat, q0, Int32.toInt_inj.mp ?_⟩
  rw [Int32.toInt_ofNat_of_lt (by omega)]
  exact q
theorem own_rem (x : Int32) {k : Nat} (h1 : 1 ≤ k) (h7 : k ≤ 7) : ∃ r : Nat, r < k ∧ (x &&& (2147483647 : Int32)) % Int32.ofNat k = Int32.ofNat r := by
  obtain ⟨i, hi, e⟩ := own_andN x 2147483647 2147483647 rfl (by decide)
  have ti : (Int32.ofNat i).toInt = i := Int32.toInt_ofNat_of_lt (by omega)
  have hr : i % k < k := Nat.mod_lt _ (by omega)
  refine ⟨i % k, hr, Int32.toInt_inj.mp ?_⟩
  rw [e, (c_irem (Int32.ofNat i) (Int32.ofNat k) k (own_ti (by omega))).1 (by omega), ti, own_ti (n := i % k) (by omega)]
  rfl
theorem own_nz {k : Nat} (h1 : 1 ≤ k) (h7 : k ≤ 7) : Int32.ofNat k ≠ 0 := own_neq (b := 0) (by omega) (by omega) (by omega)
theorem own_gap {cnt pos gs ge n : Nat} (h4 : 1 ≤ cnt) (h1 : gs ≤ ge) (h2 : ge ≤ n) (h5 : pos + cnt + (ge - gs) ≤ n) : own_e cnt (pos + 1) gs ≤ own_e cnt (pos + cnt + (ge - gs)) ge ∧ own_e cnt (pos + cnt + (ge - gs)) ge ≤ n ∧ own_e cnt (pos + cnt + (ge - gs)) ge - own_e cnt (pos + 1) gs = (ge - gs) + (cnt - 1) := by
  unfold own_e; split <;> omega
theorem own_len {n gs ge k : Nat} (h1 : gs ≤ ge) (h2 : ge ≤ n) (h : n - (ge - gs) = k) : Int32.ofNat n - (Int32.ofNat ge - Int32.ofNat gs) = Int32.ofNat k := by rw [own_sub h1, own_sub (by omega), h]
theorem pd_9 : parseMethodDescriptor "([IIJ)V" = some ⟨[(.array .int), .int, .long], none⟩ := by decide +kernel
theorem pd_8 : parseMethodDescriptor "([I)V" = some ⟨[(.array .int)], none⟩ := by decide +kernel
theorem pd_0 : parseMethodDescriptor "()I" = some ⟨[], some .int⟩ := by decide +kernel
theorem pd_6 : parseMethodDescriptor "(III)V" = some ⟨[.int, .int, .int], none⟩ := by decide +kernel
theorem ef_rm0 (m : MethodId) (x0 : Int32) (x1 : Int64) (x2 : Int32) (x3 : Int32) (x4 : Int32) (x5 : Int32) : entryFrame m #[(.int x0), (.long x1), (.int x2), (.int x3), (.int x4), (.int x5)] maxLocals = mkF m 0 #[.val (.int x0), .val (.long x1), .second, .val (.int x2), .val (.int x3), .val (.int x4), .val (.int x5), .unset, .unset, .unset, .unset, .unset, .unset, .unset, .unset, .unset] [] := by first | (simp [entryFrame, mkF, argsToLocals, Value.category, maxLocals]; done) | rfl
def Q_rm0 (Z : State) (p0 : Int32) (q1 : Int64) (p2 : Int32) (p3 : Int32) (p4 : Int32) (p5 : Int32) (h0 : Heap) (n0 : Nat) (v : Option Value) (h : Heap) (L : List Loc) : Prop := v = some (.int (1 : Int32)) ∧ Fr n0 L
set_option maxRecDepth 65536 in
set_option maxHeartbeats 40000000 in
theorem rm0 (l : Launch) (Z : State) (a0 : Array Value) (hw : ∀ d ∈ tables_1, d.before a0 Z = true) (ws : List Jvm.Cond) (p0 : Int32) (q1 : Int64) (p2 : Int32) (p3 : Int32) (p4 : Int32) (p5 : Int32) (h0 : Heap) (n0 : Nat) (Z0 : n0 ≤ h0.size) (SA : Sta Z Z.heap "java/util/BitSet" "$assertionsDisabled" "Z" (.int (1 : Int32))) (Od : Old Z n0 h0) :
    MetFree l x (head1 (Jvm.Cond.code x code maxLocals ret :: ws) room_1) (fun a U => a = #[(.int p0), (.long q1), (.int p2), (.int p3), (.int p4), (.int p5)] ∧ Z.Warmed39 U.vm ∧ U.heap = h0) (fun _ _ _ _ _ => True) (fun _ U o U' => ∃ v L, o = .returned v ∧ Q_rm0 Z p0 q1 p2 p3 p4 p5 h0 n0 v U'.heap L ∧ FrameEnd U o U' L room_1.cells room_1.slots) := by
  refine MetFree.of_bodySF (plainFor_of_name pn_0) hisR ?_
  intro p e s m args below meth c s₁ Bd hml0 hP hK
  obtain ⟨rfl, hZ, hh⟩ := hP
  have hx := Bd.exec
  have hby := Bd.bytes
  have hml : c.maxLocals = 16 := hml0
  have hown : s.vm.findClass "com/example/tapeline/tapeline/GlyphRunLengthPinLaw" = some m.cls := findClass_of_methodNamed Bd.named
  have hnm := (name_of_methodNamed Bd.named Bd.method).1
  have X0 : Stand p l e room_1 s m #[(.int p0), (.long q1), (.int p2), (.int p3), (.int p4), (.int p5)] below meth c s₁ [] 0 0 := Stand.of_body Bd
  have e0 : s₁.heap = h0 := by rw [← hh, Bd.state]; rfl
  have N0 := Fr.nil n0
  have c0 : ∀ τ, Steps p.tables e below (s₁.setTop (mkF m 0 #[.val (.int p0), .val (.long q1), .second, .val (.int p2), .val (.int p3), .val (.int p4), .val (.int p5), .unset, .unset, .unset, .unset, .unset, .unset, .unset, .unset, .unset] [])) τ → Steps p.tables e below (s₁.setTop (entryFrame m #[(.int p0), (.long q1), (.int p2), (.int p3), (.int p4), (.int p5)] maxLocals)) τ := fun τ κ => castTop (ef_rm0 m p0 q1 p2 p3 p4 p5) κ
  obtain ⟨n, hn, en⟩ := own_andN p0 7 7 rfl (by decide)
  have c1 : ∀ τ, Steps p.tables e below (s₁.setTop (mkF m 4 #[.val (.int p0), .val (.long q1), .second, .val (.int p2), .val (.int p3), .val (.int p4), .val (.int p5), .unset, .unset, .unset, .unset, .unset, .unset, .unset, .unset, .unset] [(.int (p0 &&& (7 : Int32)))])) τ → Steps p.tables e below (s₁.setTop (entryFrame m #[(.int p0), (.long q1), (.int p2), (.int p3), (.int p4), (.int p5)] maxLocals)) τ := fun τ κ => c0 τ (by
      show Steps p.tables e below (s₁.setTop (mkF m 0 #[.val (.int p0), .val (.long q1), .second, .val (.int p2), .val (.int p3), .val (.int p4), .val (.int p5), .unset, .unset, .unset, .unset, .unset, .unset, .unset, .unset, .unset] [])) _
      refine XS.iloadN X0.here hx rfl (hb hby at_0) rfl ?_
      show Steps p.tables e below (s₁.setTop (mkF m 1 #[.val (.int p0), .val (.long q1), .second, .val (.int p2), .val (.int p3), .val (.int p4), .val (.int p5), .unset, .unset, .unset, .unset, .unset, .unset, .unset, .unset, .unset] [(.int p0)])) _
      refine XS.bipush X0.here hx rfl (hb hby at_1) ?_
      show Steps p.tables e below (s₁.setTop (mkF m 3 #[.val (.int p0), .val (.long q1), .second, .val (.int p2), .val (.int p3), .val (.int p4), .val (.int p5), .unset, .unset, .unset, .unset, .unset, .unset, .unset, .unset, .unset] [(.int (7 : Int32)), (.int p0)])) _
      refine XS.iand X0.here hx rfl (hb hby at_3) rfl ?_
      exact κ)
  rw [show (p0 &&& (7 : Int32)) = (Int32.ofNat n) from en] at c1
  have c2 : ∀ τ, Steps p.tables e below (s₁.setTop (mkF m 8 #[.val (.int p0), .val (.long q1), .second, .val (.int p2), .val (.int p3), .val (.int p4), .val (.int p5), .val (.int (Int32.ofNat n)), .unset, .unset, .unset, .unset, .unset, .unset, .unset, .unset] [(.int (Int32.ofNat n))])) τ → Steps p.tables e below (s₁.setTop (entryFrame m #[(.int p0), (.long q1), (.int p2), (.int p3), (.int p4), (.int p5)] maxLocals)) τ := fun τ κ => c1 τ (by
      show Steps p.tables e below (s₁.setTop (mkF m 4 #[.val (.int p0), .val (.long q1), .second, .val (.int p2), .val (.int p3), .val (.int p4), .val (.int p5), .unset, .unset, .unset, .unset, .unset, .unset, .unset, .unset, .unset] [(.int (Int32.ofNat n))])) _
      refine XS.istore X0.here hx rfl (hb hby at_4) rfl (l' := #[.val (.int p0), .val (.long q1), .second, .val (.int p2), .val (.int p3), .val (.int p4), .val (.int p5), .val (.int (Int32.ofNat n)), .unset, .unset, .unset, .unset, .unset, .unset, .unset, .unset]) rfl ?_
      show Steps p.tables e below (s₁.setTop (mkF m 6 #[.val (.int p0), .val (.long q1), .second, .val (.int p2), .val (.int p3), .val (.int p4), .val (.int p5), .val (.int (Int32.ofNat n)), .unset, .unset, .unset, .unset, .unset, .unset, .unset, .unset] [])) _
      refine XS.iload X0.here hx rfl (hb hby at_6) rfl ?_
      exact κ)
  obtain ⟨T3, h3, k3, X3, e3, E3, A3, Ex3, st3⟩ := newPE X0 hx hZ (hw _ (List.mem_of_getElem? (i := 0) rfl)) e0 (g := (mkF m 8 #[.val (.int p0), .val (.long q1), .second, .val (.int p2), .val (.int p3), .val (.int p4), .val (.int p5), .val (.int (Int32.ofNat n)), .unset, .unset, .unset, .unset, .unset, .unset, .unset, .unset] [(.int (Int32.ofNat n))])) rfl (hb hby at_8) rfl (own_nn (by omega)) (cap := 7) (by rw [own_n32 (by omega)]; exact hn) (by decide) (by decide) (by decide) (ad := "[I") rfl
  obtain ⟨b3, g3⟩ : ∃ z, z = h0.size := ⟨_, rfl⟩
  rw [← g3] at A3 Ex3 st3
  have gb3 : n0 ≤ b3 := Nat.le_trans Z0 (Nat.le_of_eq g3.symm)
  have V3 : Arv Z h3 b3 k3 .int (Int32.ofNat n) [] (.int (0 : Int32)) := Arv.new A3 (own_nn (by omega))
  have Z3 : n0 ≤ h3.size := Nat.le_trans Z0 E3.1
  have c4 : ∀ τ, Steps p.tables e below (T3.setTop (mkF m 10 #[.val (.int p0), .val (.long q1), .second, .val (.int p2), .val (.int p3), .val (.int p4), .val (.int p5), .val (.int (Int32.ofNat n)), .unset, .unset, .unset, .unset, .unset, .unset, .unset, .unset] [(.ref b3)])) τ → Steps p.tables e below (s₁.setTop (entryFrame m #[(.int p0), (.long q1), (.int p2), (.int p3), (.int p4), (.int p5)] maxLocals)) τ := fun τ κ => c2 τ (st3 τ κ)
  have G0 : own_GL Z h3 b3 k3 n := ⟨_, V3.pad (pad_rep [] (.int (0 : Int32)) n), by simp, fun v hv => ⟨0, by simp at hv; exact hv.2, by decide⟩⟩
  have c5 : ∀ τ, Steps p.tables e below (T3.setTop (mkF m 16 #[.val (.int p0), .val (.long q1), .second, .val (.int p2), .val (.int p3), .val (.int p4), .val (.int p5), .val (.int (Int32.ofNat n)), .val (.ref b3), .unset, .unset, .unset, .unset, .unset, .unset, .unset] [(.long q1), (.int (0 : Int32)), (.ref b3)])) τ → Steps p.tables e below (s₁.setTop (entryFrame m #[(.int p0), (.long q1), (.int p2), (.int p3), (.int p4), (.int p5)] maxLocals)) τ := fun τ κ => c4 τ (by
      show Steps p.tables e below (T3.setTop (mkF m 10 #[.val (.int p0), .val (.long q1), .second, .val (.int p2), .val (.int p3), .val (.int p4), .val (.int p5), .val (.int (Int32.ofNat n)), .unset, .unset, .unset, .unset, .unset, .unset, .unset, .unset] [(.ref b3)])) _
      refine XS.astore X3.here hx rfl (hb hby at_10) rfl rfl (l' := #[.val (.int p0), .val (.long q1), .second, .val (.int p2), .val (.int p3), .val (.int p4), .val (.int p5), .val (.int (Int32.ofNat n)), .val (.ref b3), .unset, .unset, .unset, .unset, .unset, .unset, .unset]) rfl ?_
      show Steps p.tables e below (T3.setTop (mkF m 12 #[.val (.int p0), .val (.long q1), .second, .val (.int p2), .val (.int p3), .val (.int p4), .val (.int p5), .val (.int (Int32.ofNat n)), .val (.ref b3), .unset, .unset, .unset, .unset, .unset, .unset, .unset] [])) _
      refine XS.aload X3.here hx rfl (hb hby at_12) rfl rfl ?_
      show Steps p.tables e below (T3.setTop (mkF m 14 #[.val (.int p0), .val (.long q1), .second, .val (.int p2), .val (.int p3), .val (.int p4), .val (.int p5), .val (.int (Int32.ofNat n)), .val (.ref b3), .unset, .unset, .unset, .unset, .unset, .unset, .unset] [(.ref b3)])) _
      refine XS.iconst X3.here hx rfl (hb hby at_14) ?_
      show Steps p.tables e below (T3.setTop (mkF m 15 #[.val (.int p0), .val (.long q1), .second, .val (.int p2), .val (.int p3), .val (.int p4), .val (.int p5), .val (.int (Int32.ofNat n)), .val (.ref b3), .unset, .unset, .unset, .unset, .unset, .unset, .unset] [(.int (0 : Int32)), (.ref b3)])) _
      refine XS.lloadN X3.here hx rfl (hb hby at_15) rfl ?_
      exact κ)
  obtain ⟨_, _, ⟨T6, L6, k6, n6⟩, -, X6, ⟨Lc6, hQ6, l6, y6, z6⟩, st6⟩ := Jvm.LawKit.callS X3 hx (y := (⟨"com/example/tapeline/tapeline/GlyphRunLengthPinLaw", "fill", "([IIJ)V"⟩ : MethodName)) hown (mvT hZ (hw _ (List.mem_of_getElem? (i := 1) rfl))) (mvT hZ (hw _ (List.mem_of_getElem? (i := 2) rfl))) (mvT hZ (hw _ (List.mem_of_getElem? (i := 3) rfl))) (mvT hZ (hw _ (List.mem_of_getElem? (i := 4) rfl))) (by decide) (backOf (W := 0) (rm1 l Z a0 hw [] b3 (0 : Int32) q1 k3 n h3 n0 Z3 G0 hn (by decide) gb3) hZ (hw _ (List.mem_of_getElem? (i := 4) rfl)) (hw _ (List.mem_of_getElem? (i := 3) rfl)) (by decide) (by decide)) (g := (mkF m 16 #[.val (.int p0), .val (.long q1), .second, .val (.int p2), .val (.int p3), .val (.int p4), .val (.int p5), .val (.int (Int32.ofNat n)), .val (.ref b3), .unset, .unset, .unset, .unset, .unset, .unset, .unset] [(.long q1), (.int (0 : Int32)), (.ref b3)])) rfl (by rw [hml]; rfl) (argsL := [(.ref b3), (.int (0 : Int32)), (.long q1)]) (rest := []) (lenOf pd_9 rfl) rfl (by show 2 * 0 + _ ≤ _; exact Nat.le_of_eq rfl) (hb hby at_16) (fun _ _ => ⟨rfl, e3, (by decide : 1 + 0 ≤ _), (by decide : 7 + 0 ≤ _)⟩)
  dsimp only [Pt.U, Pt.locs, Pt.cells, Pt.slots] at X6 l6 y6 z6 st6 hQ6
  rw [y6, z6] at X6
  obtain ⟨rfl, N6q, K6q, G6⟩ := hQ6
  have N6 : Fr n0 L6 := by rw [l6]; exact Fr.app N0 N6q
  replace X6 : Stand p l e _ s m _ below meth c T6 L6 1 7 := X6
  clear l6 y6 z6
  have Z6 : n0 ≤ T6.heap.size := Nat.le_trans Z3 K6q.1
  have c7 : ∀ τ, Steps p.tables e below (T6.setTop (mkF m 19 #[.val (.int p0), .val (.long q1), .second, .val (.int p2), .val (.int p3), .val (.int p4), .val (.int p5), .val (.int (Int32.ofNat n)), .val (.ref b3), .unset, .unset, .unset, .unset, .unset, .unset, .unset] [])) τ → Steps p.tables e below (s₁.setTop (entryFrame m #[(.int p0), (.long q1), (.int p2), (.int p3), (.int p4), (.int p5)] maxLocals)) τ := fun τ κ => c5 τ (st6 τ κ)
  have c8 : ∀ τ, Steps p.tables e below (T6.setTop (mkF m 23 #[.val (.int p0), .val (.long q1), .second, .val (.int p2), .val (.int p3), .val (.int p4), .val (.int p5), .val (.int (Int32.ofNat n)), .val (.ref b3), .unset, .unset, .unset, .unset, .unset, .unset, .unset] [(.long q1), (.int (1 : Int32)), (.ref b3)])) τ → Steps p.tables e below (s₁.setTop (entryFrame m #[(.int p0), (.long q1), (.int p2), (.int p3), (.int p4), (.int p5)] maxLocals)) τ := fun τ κ => c7 τ (by
      show Steps p.tables e below (T6.setTop (mkF m 19 #[.val (.int p0), .val (.long q1), .second, .val (.int p2), .val (.int p3), .val (.int p4), .val (.int p5), .val (.int (Int32.ofNat n)), .val (.ref b3), .unset, .unset, .unset, .unset, .unset, .unset, .unset] [])) _
      refine XS.aload X6.here hx rfl (hb hby at_19) rfl rfl ?_
      show Steps p.tables e below (T6.setTop (mkF m 21 #[.val (.int p0), .val (.long q1), .second, .val (.int p2), .val (.int p3), .val (.int p4), .val (.int p5), .val (.int (Int32.ofNat n)), .val (.ref b3), .unset, .unset, .unset, .unset, .unset, .unset, .unset] [(.ref b3)])) _
      refine XS.iconst X6.here hx rfl (hb hby at_21) ?_
      show Steps p.tables e below (T6.setTop (mkF m 22 #[.val (.int p0), .val (.long q1), .second, .val (.int p2), .val (.int p3), .val (.int p4), .val (.int p5), .val (.int (Int32.ofNat n)), .val (.ref b3), .unset, .unset, .unset, .unset, .unset, .unset, .unset] [(.int (1 : Int32)), (.ref b3)])) _
      refine XS.lloadN X6.here hx rfl (hb hby at_22) rfl ?_
      exact κ)
  obtain ⟨_, _, ⟨T9, L9, k9, n9⟩, -, X9, ⟨Lc9, hQ9, l9, y9, z9⟩, st9⟩ := Jvm.LawKit.callS X6 hx (y := (⟨"com/example/tapeline/tapeline/GlyphRunLengthPinLaw", "fill", "([IIJ)V"⟩ : MethodName)) hown (mvT hZ (hw _ (List.mem_of_getElem? (i := 1) rfl))) (mvT hZ (hw _ (List.mem_of_getElem? (i := 2) rfl))) (mvT hZ (hw _ (List.mem_of_getElem? (i := 3) rfl))) (mvT hZ (hw _ (List.mem_of_getElem? (i := 4) rfl))) (by decide) (backOf (W := 0) (rm1 l Z a0 hw [] b3 (1 : Int32) q1 k3 n T6.heap n0 Z6 G6 hn (by decide) gb3) hZ (hw _ (List.mem_of_getElem? (i := 4) rfl)) (hw _ (List.mem_of_getElem? (i := 3) rfl)) (by decide) (by decide)) (g := (mkF m 23 #[.val (.int p0), .val (.long q1), .second, .val (.int p2), .val (.int p3), .val (.int p4), .val (.int p5), .val (.int (Int32.ofNat n)), .val (.ref b3), .unset, .unset, .unset, .unset, .unset, .unset, .unset] [(.long q1), (.int (1 : Int32)), (.ref b3)])) rfl (by rw [hml]; rfl) (argsL := [(.ref b3), (.int (1 : Int32)), (.long q1)]) (rest := []) (lenOf pd_9 rfl) rfl (by show 2 * 0 + _ ≤ _; exact Nat.le_of_eq rfl) (hb hby at_23) (fun _ _ => ⟨rfl, rfl, (by decide : 1 + 0 ≤ _), (by decide : 7 + 0 ≤ _)⟩)
  dsimp only [Pt.U, Pt.locs, Pt.cells, Pt.slots] at X9 l9 y9 z9 st9 hQ9
  rw [y9, z9] at X9
  obtain ⟨rfl, N9q, K9q, G9⟩ := hQ9
  have N9 : Fr n0 L9 := by rw [l9]; exact Fr.app N6 N9q
  replace X9 : Stand p l e _ s m _ below meth c T9 L9 1 7 := X9
  clear l9 y9 z9
  have Z9 : n0 ≤ T9.heap.size := Nat.le_trans Z6 K9q.1
  have c10 : ∀ τ, Steps p.tables e below (T9.setTop (mkF m 26 #[.val (.int p0), .val (.long q1), .second, .val (.int p2), .val (.int p3), .val (.int p4), .val (.int p5), .val (.int (Int32.ofNat n)), .val (.ref b3), .unset, .unset, .unset, .unset, .unset, .unset, .unset] [])) τ → Steps p.tables e below (s₁.setTop (entryFrame m #[(.int p0), (.long q1), (.int p2), (.int p3), (.int p4), (.int p5)] maxLocals)) τ := fun τ κ => c8 τ (st9 τ κ)
  have c11 : ∀ τ, Steps p.tables e below (T9.setTop (mkF m 30 #[.val (.int p0), .val (.long q1), .second, .val (.int p2), .val (.int p3), .val (.int p4), .val (.int p5), .val (.int (Int32.ofNat n)), .val (.ref b3), .unset, .unset, .unset, .unset, .unset, .unset, .unset] [(.long q1), (.int (2 : Int32)), (.ref b3)])) τ → Steps p.tables e below (s₁.setTop (entryFrame m #[(.int p0), (.long q1), (.int p2), (.int p3), (.int p4), (.int p5)] maxLocals)) τ := fun τ κ => c10 τ (by
      show Steps p.tables e below (T9.setTop (mkF m 26 #[.val (.int p0), .val (.long q1), .second, .val (.int p2), .val (.int p3), .val (.int p4), .val (.int p5), .val (.int (Int32.ofNat n)), .val (.ref b3), .unset, .unset, .unset, .unset, .unset, .unset, .unset] [])) _
      refine XS.aload X9.here hx rfl (hb hby at_26) rfl rfl ?_
      show Steps p.tables e below (T9.setTop (mkF m 28 #[.val (.int p0), .val (.long q1), .second, .val (.int p2), .val (.int p3), .val (.int p4), .val (.int p5), .val (.int (Int32.ofNat n)), .val (.ref b3), .unset, .unset, .unset, .unset, .unset, .unset, .unset] [(.ref b3)])) _
      refine XS.iconst X9.here hx rfl (hb hby at_28) ?_
      show Steps p.tables e below (T9.setTop (mkF m 29 #[.val (.int p0), .val (.long q1), .second, .val (.int p2), .val (.int p3), .val (.int p4), .val (.int p5), .val (.int (Int32.ofNat n)), .val (.ref b3), .unset, .unset, .unset, .unset, .unset, .unset, .unset] [(.int (2 : Int32)), (.ref b3)])) _
      refine XS.lloadN X9.here hx rfl (hb hby at_29) rfl ?_
      exact κ)
  obtain ⟨_, _, ⟨T12, L12, k12, n12⟩, -, X12, ⟨Lc12, hQ12, l12, y12, z12⟩, st12⟩ := Jvm.LawKit.callS X9 hx (y := (⟨"com/example/tapeline/tapeline/GlyphRunLengthPinLaw", "fill", "([IIJ)V"⟩ : MethodName)) hown (mvT hZ (hw _ (List.mem_of_getElem? (i := 1) rfl))) (mvT hZ (hw _ (List.mem_of_getElem? (i := 2) rfl))) (mvT hZ (hw _ (List.mem_of_getElem? (i := 3) rfl))) (mvT hZ (hw _ (List.mem_of_getElem? (i := 4) rfl))) (by decide) (backOf (W := 0) (rm1 l Z a0 hw [] b3 (2 : Int32) q1 k3 n T9.heap n0 Z9 G9 hn (by decide) gb3) hZ (hw _ (List.mem_of_getElem? (i := 4) rfl)) (hw _ (List.mem_of_getElem? (i := 3) rfl)) (by decide) (by decide)) (g := (mkF m 30 #[.val (.int p0), .val (.long q1), .second, .val (.int p2), .val (.int p3), .val (.int p4), .val (.int p5), .val (.int (Int32.ofNat n)), .val (.ref b3), .unset, .unset, .unset, .unset, .unset, .unset, .unset] [(.long q1), (.int (2 : Int32)), (.ref b3)])) rfl (by rw [hml]; rfl) (argsL := [(.ref b3), (.int (2 : Int32)), (.long q1)]) (rest := []) (lenOf pd_9 rfl) rfl (by show 2 * 0 + _ ≤ _; exact Nat.le_of_eq rfl) (hb hby at_30) (fun _ _ => ⟨rfl, rfl, (by decide : 1 + 0 ≤ _), (by decide : 7 + 0 ≤ _)⟩)
  dsimp only [Pt.U, Pt.locs, Pt.cells, Pt.slots] at X12 l12 y12 z12 st12 hQ12
  rw [y12, z12] at X12
  obtain ⟨rfl, N12q, K12q, G12⟩ := hQ12
  have N12 : Fr n0 L12 := by rw [l12]; exact Fr.app N9 N12q
  replace X12 : Stand p l e _ s m _ below meth c T12 L12 1 7 := X12
  clear l12 y12 z12
  have Z12 : n0 ≤ T12.heap.size := Nat.le_trans Z9 K12q.1
  have c13 : ∀ τ, Steps p.tables e below (T12.setTop (mkF m 33 #[.val (.int p0), .val (.long q1), .second, .val (.int p2), .val (.int p3), .val (.int p4), .val (.int p5), .val (.int (Int32.ofNat n)), .val (.ref b3), .unset, .unset, .unset, .unset, .unset, .unset, .unset] [])) τ → Steps p.tables e below (s₁.setTop (entryFrame m #[(.int p0), (.long q1), (.int p2), (.int p3), (.int p4), (.int p5)] maxLocals)) τ := fun τ κ => c11 τ (st12 τ κ)
  have c14 : ∀ τ, Steps p.tables e below (T12.setTop (mkF m 37 #[.val (.int p0), .val (.long q1), .second, .val (.int p2), .val (.int p3), .val (.int p4), .val (.int p5), .val (.int (Int32.ofNat n)), .val (.ref b3), .unset, .unset, .unset, .unset, .unset, .unset, .unset] [(.long q1), (.int (3 : Int32)), (.ref b3)])) τ → Steps p.tables e below (s₁.setTop (entryFrame m #[(.int p0), (.long q1), (.int p2), (.int p3), (.int p4), (.int p5)] maxLocals)) τ := fun τ κ => c13 τ (by
      show Steps p.tables e below (T12.setTop (mkF m 33 #[.val (.int p0), .val (.long q1), .second, .val (.int p2), .val (.int p3), .val (.int p4), .val (.int p5), .val (.int (Int32.ofNat n)), .val (.ref b3), .unset, .unset, .unset, .unset, .unset, .unset, .unset] [])) _
      refine XS.aload X12.here hx rfl (hb hby at_33) rfl rfl ?_
      show Steps p.tables e below (T12.setTop (mkF m 35 #[.val (.int p0), .val (.long q1), .second, .val (.int p2), .val (.int p3), .val (.int p4), .val (.int p5), .val (.int (Int32.ofNat n)), .val (.ref b3), .unset, .unset, .unset, .unset, .unset, .unset, .unset] [(.ref b3)])) _
      refine XS.iconst X12.here hx rfl (hb hby at_35) ?_
      show Steps p.tables e below (T12.setTop (mkF m 36 #[.val (.int p0), .val (.long q1), .second, .val (.int p2), .val (.int p3), .val (.int p4), .val (.int p5), .val (.int (Int32.ofNat n)), .val (.ref b3), .unset, .unset, .unset, .unset, .unset, .unset, .unset] [(.int (3 : Int32)), (.ref b3)])) _
      refine XS.lloadN X12.here hx rfl (hb hby at_36) rfl ?_
      exact κ)
  obtain ⟨_, _, ⟨T15, L15, k15, n15⟩, -, X15, ⟨Lc15, hQ15, l15, y15, z15⟩, st15⟩ := Jvm.LawKit.callS X12 hx (y := (⟨"com/example/tapeline/tapeline/GlyphRunLengthPinLaw", "fill", "([IIJ)V"⟩ : MethodName)) hown (mvT hZ (hw _ (List.mem_of_getElem? (i := 1) rfl))) (mvT hZ (hw _ (List.mem_of_getElem? (i := 2) rfl))) (mvT hZ (hw _ (List.mem_of_getElem? (i := 3) rfl))) (mvT hZ (hw _ (List.mem_of_getElem? (i := 4) rfl))) (by decide) (backOf (W := 0) (rm1 l Z a0 hw [] b3 (3 : Int32) q1 k3 n T12.heap n0 Z12 G12 hn (by decide) gb3) hZ (hw _ (List.mem_of_getElem? (i := 4) rfl)) (hw _ (List.mem_of_getElem? (i := 3) rfl)) (by decide) (by decide)) (g := (mkF m 37 #[.val (.int p0), .val (.long q1), .second, .val (.int p2), .val (.int p3), .val (.int p4), .val (.int p5), .val (.int (Int32.ofNat n)), .val (.ref b3), .unset, .unset, .unset, .unset, .unset, .unset, .unset] [(.long q1), (.int (3 : Int32)), (.ref b3)])) rfl (by rw [hml]; rfl) (argsL := [(.ref b3), (.int (3 : Int32)), (.long q1)]) (rest := []) (lenOf pd_9 rfl) rfl (by show 2 * 0 + _ ≤ _; exact Nat.le_of_eq rfl) (hb hby at_37) (fun _ _ => ⟨rfl, rfl, (by decide : 1 + 0 ≤ _), (by decide : 7 + 0 ≤ _)⟩)
  dsimp only [Pt.U, Pt.locs, Pt.cells, Pt.slots] at X15 l15 y15 z15 st15 hQ15
  rw [y15, z15] at X15
  obtain ⟨rfl, N15q, K15q, G15⟩ := hQ15
  have N15 : Fr n0 L15 := by rw [l15]; exact Fr.app N12 N15q
  replace X15 : Stand p l e _ s m _ below meth c T15 L15 1 7 := X15
  clear l15 y15 z15
  have Z15 : n0 ≤ T15.heap.size := Nat.le_trans Z12 K15q.1
  have c16 : ∀ τ, Steps p.tables e below (T15.setTop (mkF m 40 #[.val (.int p0), .val (.long q1), .second, .val (.int p2), .val (.int p3), .val (.int p4), .val (.int p5), .val (.int (Int32.ofNat n)), .val (.ref b3), .unset, .unset, .unset, .unset, .unset, .unset, .unset] [])) τ → Steps p.tables e below (s₁.setTop (entryFrame m #[(.int p0), (.long q1), (.int p2), (.int p3), (.int p4), (.int p5)] maxLocals)) τ := fun τ κ => c14 τ (st15 τ κ)
  have c17 : ∀ τ, Steps p.tables e below (T15.setTop (mkF m 44 #[.val (.int p0), .val (.long q1), .second, .val (.int p2), .val (.int p3), .val (.int p4), .val (.int p5), .val (.int (Int32.ofNat n)), .val (.ref b3), .unset, .unset, .unset, .unset, .unset, .unset, .unset] [(.long q1), (.int (4 : Int32)), (.ref b3)])) τ → Steps p.tables e below (s₁.setTop (entryFrame m #[(.int p0), (.long q1), (.int p2), (.int p3), (.int p4), (.int p5)] maxLocals)) τ := fun τ κ => c16 τ (by
      show Steps p.tables e below (T15.setTop (mkF m 40 #[.val (.int p0), .val (.long q1), .second, .val (.int p2), .val (.int p3), .val (.int p4), .val (.int p5), .val (.int (Int32.ofNat n)), .val (.ref b3), .unset, .unset, .unset, .unset, .unset, .unset, .unset] [])) _
      refine XS.aload X15.here hx rfl (hb hby at_40) rfl rfl ?_
      show Steps p.tables e below (T15.setTop (mkF m 42 #[.val (.int p0), .val (.long q1), .second, .val (.int p2), .val (.int p3), .val (.int p4), .val (.int p5), .val (.int (Int32.ofNat n)), .val (.ref b3), .unset, .unset, .unset, .unset, .unset, .unset, .unset] [(.ref b3)])) _
      refine XS.iconst X15.here hx rfl (hb hby at_42) ?_
      show Steps p.tables e below (T15.setTop (mkF m 43 #[.val (.int p0), .val (.long q1), .second, .val (.int p2), .val (.int p3), .val (.int p4), .val (.int p5), .val (.int (Int32.ofNat n)), .val (.ref b3), .unset, .unset, .unset, .unset, .unset, .unset, .unset] [(.int (4 : Int32)), (.ref b3)])) _
      refine XS.lloadN X15.here hx rfl (hb hby at_43) rfl ?_
      exact κ)
  obtain ⟨_, _, ⟨T18, L18, k18, n18⟩, -, X18, ⟨Lc18, hQ18, l18, y18, z18⟩, st18⟩ := Jvm.LawKit.callS X15 hx (y := (⟨"com/example/tapeline/tapeline/GlyphRunLengthPinLaw", "fill", "([IIJ)V"⟩ : MethodName)) hown (mvT hZ (hw _ (List.mem_of_getElem? (i := 1) rfl))) (mvT hZ (hw _ (List.mem_of_getElem? (i := 2) rfl))) (mvT hZ (hw _ (List.mem_of_getElem? (i := 3) rfl))) (mvT hZ (hw _ (List.mem_of_getElem? (i := 4) rfl))) (by decide) (backOf (W := 0) (rm1 l Z a0 hw [] b3 (4 : Int32) q1 k3 n T15.heap n0 Z15 G15 hn (by decide) gb3) hZ (hw _ (List.mem_of_getElem? (i := 4) rfl)) (hw _ (List.mem_of_getElem? (i := 3) rfl)) (by decide) (by decide)) (g := (mkF m 44 #[.val (.int p0), .val (.long q1), .second, .val (.int p2), .val (.int p3), .val (.int p4), .val (.int p5), .val (.int (Int32.ofNat n)), .val (.ref b3), .unset, .unset, .unset, .unset, .unset, .unset, .unset] [(.long q1), (.int (4 : Int32)), (.ref b3)])) rfl (by rw [hml]; rfl) (argsL := [(.ref b3), (.int (4 : Int32)), (.long q1)]) (rest := []) (lenOf pd_9 rfl) rfl (by show 2 * 0 + _ ≤ _; exact Nat.le_of_eq rfl) (hb hby at_44) (fun _ _ => ⟨rfl, rfl, (by decide : 1 + 0 ≤ _), (by decide : 7 + 0 ≤ _)⟩)
  dsimp only [Pt.U, Pt.locs, Pt.cells, Pt.slots] at X18 l18 y18 z18 st18 hQ18
  rw [y18, z18] at X18
  obtain ⟨rfl, N18q, K18q, G18⟩ := hQ18
  have N18 : Fr n0 L18 := by rw [l18]; exact Fr.app N15 N18q
  replace X18 : Stand p l e _ s m _ below meth c T18 L18 1 7 := X18
  clear l18 y18 z18
  have Z18 : n0 ≤ T18.heap.size := Nat.le_trans Z15 K18q.1
  have c19 : ∀ τ, Steps p.tables e below (T18.setTop (mkF m 47 #[.val (.int p0), .val (.long q1), .second, .val (.int p2), .val (.int p3), .val (.int p4), .val (.int p5), .val (.int (Int32.ofNat n)), .val (.ref b3), .unset, .unset, .unset, .unset, .unset, .unset, .unset] [])) τ → Steps p.tables e below (s₁.setTop (entryFrame m #[(.int p0), (.long q1), (.int p2), (.int p3), (.int p4), (.int p5)] maxLocals)) τ := fun τ κ => c17 τ (st18 τ κ)
  have c20 : ∀ τ, Steps p.tables e below (T18.setTop (mkF m 51 #[.val (.int p0), .val (.long q1), .second, .val (.int p2), .val (.int p3), .val (.int p4), .val (.int p5), .val (.int (Int32.ofNat n)), .val (.ref b3), .unset, .unset, .unset, .unset, .unset, .unset, .unset] [(.long q1), (.int (5 : Int32)), (.ref b3)])) τ → Steps p.tables e below (s₁.setTop (entryFrame m #[(.int p0), (.long q1), (.int p2), (.int p3), (.int p4), (.int p5)] maxLocals)) τ := fun τ κ => c19 τ (by
      show Steps p.tables e below (T18.setTop (mkF m 47 #[.val (.int p0), .val (.long q1), .second, .val (.int p2), .val (.int p3), .val (.int p4), .val (.int p5), .val (.int (Int32.ofNat n)), .val (.ref b3), .unset, .unset, .unset, .unset, .unset, .unset, .unset] [])) _
      refine XS.aload X18.here hx rfl (hb hby at_47) rfl rfl ?_
      show Steps p.tables e below (T18.setTop (mkF m 49 #[.val (.int p0), .val (.long q1), .second, .val (.int p2), .val (.int p3), .val (.int p4), .val (.int p5), .val (.int (Int32.ofNat n)), .val (.ref b3), .unset, .unset, .unset, .unset, .unset, .unset, .unset] [(.ref b3)])) _
      refine XS.iconst X18.here hx rfl (hb hby at_49) ?_
      show Steps p.tables e below (T18.setTop (mkF m 50 #[.val (.int p0), .val (.long q1), .second, .val (.int p2), .val (.int p3), .val (.int p4), .val (.int p5), .val (.int (Int32.ofNat n)), .val (.ref b3), .unset, .unset, .unset, .unset, .unset, .unset, .unset] [(.int (5 : Int32)), (.ref b3)])) _
      refine XS.lloadN X18.here hx rfl (hb hby at_50) rfl ?_
      exact κ)
  obtain ⟨_, _, ⟨T21, L21, k21, n21⟩, -, X21, ⟨Lc21, hQ21, l21, y21, z21⟩, st21⟩ := Jvm.LawKit.callS X18 hx (y := (⟨"com/example/tapeline/tapeline/GlyphRunLengthPinLaw", "fill", "([IIJ)V"⟩ : MethodName)) hown (mvT hZ (hw _ (List.mem_of_getElem? (i := 1) rfl))) (mvT hZ (hw _ (List.mem_of_getElem? (i := 2) rfl))) (mvT hZ (hw _ (List.mem_of_getElem? (i := 3) rfl))) (mvT hZ (hw _ (List.mem_of_getElem? (i := 4) rfl))) (by decide) (backOf (W := 0) (rm1 l Z a0 hw [] b3 (5 : Int32) q1 k3 n T18.heap n0 Z18 G18 hn (by decide) gb3) hZ (hw _ (List.mem_of_getElem? (i := 4) rfl)) (hw _ (List.mem_of_getElem? (i := 3) rfl)) (by decide) (by decide)) (g := (mkF m 51 #[.val (.int p0), .val (.long q1), .second, .val (.int p2), .val (.int p3), .val (.int p4), .val (.int p5), .val (.int (Int32.ofNat n)), .val (.ref b3), .unset, .unset, .unset, .unset, .unset, .unset, .unset] [(.long q1), (.int (5 : Int32)), (.ref b3)])) rfl (by rw [hml]; rfl) (argsL := [(.ref b3), (.int (5 : Int32)), (.long q1)]) (rest := []) (lenOf pd_9 rfl) rfl (by show 2 * 0 + _ ≤ _; exact Nat.le_of_eq rfl) (hb hby at_51) (fun _ _ => ⟨rfl, rfl, (by decide : 1 + 0 ≤ _), (by decide : 7 + 0 ≤ _)⟩)
  dsimp only [Pt.U, Pt.locs, Pt.cells, Pt.slots] at X21 l21 y21 z21 st21 hQ21
  rw [y21, z21] at X21
  obtain ⟨rfl, N21q, K21q, G21⟩ := hQ21
  have N21 : Fr n0 L21 := by rw [l21]; exact Fr.app N18 N21q
  replace X21 : Stand p l e _ s m _ below meth c T21 L21 1 7 := X21
  clear l21 y21 z21
  have Z21 : n0 ≤ T21.heap.size := Nat.le_trans Z18 K21q.1
  have c22 : ∀ τ, Steps p.tables e below (T21.setTop (mkF m 54 #[.val (.int p0), .val (.long q1), .second, .val (.int p2), .val (.int p3), .val (.int p4), .val (.int p5), .val (.int (Int32.ofNat n)), .val (.ref b3), .unset, .unset, .unset, .unset, .unset, .unset, .unset] [])) τ → Steps p.tables e below (s₁.setTop (entryFrame m #[(.int p0), (.long q1), (.int p2), (.int p3), (.int p4), (.int p5)] maxLocals)) τ := fun τ κ => c20 τ (st21 τ κ)
  have c23 : ∀ τ, Steps p.tables e below (T21.setTop (mkF m 59 #[.val (.int p0), .val (.long q1), .second, .val (.int p2), .val (.int p3), .val (.int p4), .val (.int p5), .val (.int (Int32.ofNat n)), .val (.ref b3), .unset, .unset, .unset, .unset, .unset, .unset, .unset] [(.long q1), (.int (6 : Int32)), (.ref b3)])) τ → Steps p.tables e below (s₁.setTop (entryFrame m #[(.int p0), (.long q1), (.int p2), (.int p3), (.int p4), (.int p5)] maxLocals)) τ := fun τ κ => c22 τ (by
      show Steps p.tables e below (T21.setTop (mkF m 54 #[.val (.int p0), .val (.long q1), .second, .val (.int p2), .val (.int p3), .val (.int p4), .val (.int p5), .val (.int (Int32.ofNat n)), .val (.ref b3), .unset, .unset, .unset, .unset, .unset, .unset, .unset] [])) _
      refine XS.aload X21.here hx rfl (hb hby at_54) rfl rfl ?_
      show Steps p.tables e below (T21.setTop (mkF m 56 #[.val (.int p0), .val (.long q1), .second, .val (.int p2), .val (.int p3), .val (.int p4), .val (.int p5), .val (.int (Int32.ofNat n)), .val (.ref b3), .unset, .unset, .unset, .unset, .unset, .unset, .unset] [(.ref b3)])) _
      refine XS.bipush X21.here hx rfl (hb hby at_56) ?_
      show Steps p.tables e below (T21.setTop (mkF m 58 #[.val (.int p0), .val (.long q1), .second, .val (.int p2), .val (.int p3), .val (.int p4), .val (.int p5), .val (.int (Int32.ofNat n)), .val (.ref b3), .unset, .unset, .unset, .unset, .unset, .unset, .unset] [(.int (6 : Int32)), (.ref b3)])) _
      refine XS.lloadN X21.here hx rfl (hb hby at_58) rfl ?_
      exact κ)
  obtain ⟨_, _, ⟨T24, L24, k24, n24⟩, -, X24, ⟨Lc24, hQ24, l24, y24, z24⟩, st24⟩ := Jvm.LawKit.callS X21 hx (y := (⟨"com/example/tapeline/tapeline/GlyphRunLengthPinLaw", "fill", "([IIJ)V"⟩ : MethodName)) hown (mvT hZ (hw _ (List.mem_of_getElem? (i := 1) rfl))) (mvT hZ (hw _ (List.mem_of_getElem? (i := 2) rfl))) (mvT hZ (hw _ (List.mem_of_getElem? (i := 3) rfl))) (mvT hZ (hw _ (List.mem_of_getElem? (i := 4) rfl))) (by decide) (backOf (W := 0) (rm1 l Z a0 hw [] b3 (6 : Int32) q1 k3 n T21.heap n0 Z21 G21 hn (by decide) gb3) hZ (hw _ (List.mem_of_getElem? (i := 4) rfl)) (hw _ (List.mem_of_getElem? (i := 3) rfl)) (by decide) (by decide)) (g := (mkF m 59 #[.val (.int p0), .val (.long q1), .second, .val (.int p2), .val (.int p3), .val (.int p4), .val (.int p5), .val (.int (Int32.ofNat n)), .val (.ref b3), .unset, .unset, .unset, .unset, .unset, .unset, .unset] [(.long q1), (.int (6 : Int32)), (.ref b3)])) rfl (by rw [hml]; rfl) (argsL := [(.ref b3), (.int (6 : Int32)), (.long q1)]) (rest := []) (lenOf pd_9 rfl) rfl (by show 2 * 0 + _ ≤ _; exact Nat.le_of_eq rfl) (hb hby at_59) (fun _ _ => ⟨rfl, rfl, (by decide : 1 + 0 ≤ _), (by decide : 7 + 0 ≤ _)⟩)
  dsimp only [Pt.U, Pt.locs, Pt.cells, Pt.slots] at X24 l24 y24 z24 st24 hQ24
  rw [y24, z24] at X24
  obtain ⟨rfl, N24q, K24q, G24⟩ := hQ24
  have N24 : Fr n0 L24 := by rw [l24]; exact Fr.app N21 N24q
  replace X24 : Stand p l e _ s m _ below meth c T24 L24 1 7 := X24
  clear l24 y24 z24
  have Z24 : n0 ≤ T24.heap.size := Nat.le_trans Z21 K24q.1
  have c25 : ∀ τ, Steps p.tables e below (T24.setTop (mkF m 62 #[.val (.int p0), .val (.long q1), .second, .val (.int p2), .val (.int p3), .val (.int p4), .val (.int p5), .val (.int (Int32.ofNat n)), .val (.ref b3), .unset, .unset, .unset, .unset, .unset, .unset, .unset] [])) τ → Steps p.tables e below (s₁.setTop (entryFrame m #[(.int p0), (.long q1), (.int p2), (.int p3), (.int p4), (.int p5)] maxLocals)) τ := fun τ κ => c23 τ (st24 τ κ)
  have c26 : ∀ τ, Steps p.tables e below (T24.setTop (mkF m 67 #[.val (.int p0), .val (.long q1), .second, .val (.int p2), .val (.int p3), .val (.int p4), .val (.int p5), .val (.int (Int32.ofNat n)), .val (.ref b3), .unset, .unset, .unset, .unset, .unset, .unset, .unset] [(.long q1), (.int (7 : Int32)), (.ref b3)])) τ → Steps p.tables e below (s₁.setTop (entryFrame m #[(.int p0), (.long q1), (.int p2), (.int p3), (.int p4), (.int p5)] maxLocals)) τ := fun τ κ => c25 τ (by
      show Steps p.tables e below (T24.setTop (mkF m 62 #[.val (.int p0), .val (.long q1), .second, .val (.int p2), .val (.int p3), .val (.int p4), .val (.int p5), .val (.int (Int32.ofNat n)), .val (.ref b3), .unset, .unset, .unset, .unset, .unset, .unset, .unset] [])) _
      refine XS.aload X24.here hx rfl (hb hby at_62) rfl rfl ?_
      show Steps p.tables e below (T24.setTop (mkF m 64 #[.val (.int p0), .val (.long q1), .second, .val (.int p2), .val (.int p3), .val (.int p4), .val (.int p5), .val (.int (Int32.ofNat n)), .val (.ref b3), .unset, .unset, .unset, .unset, .unset, .unset, .unset] [(.ref b3)])) _
      refine XS.bipush X24.here hx rfl (hb hby at_64) ?_
      show Steps p.tables e below (T24.setTop (mkF m 66 #[.val (.int p0), .val (.long q1), .second, .val (.int p2), .val (.int p3), .val (.int p4), .val (.int p5), .val (.int (Int32.ofNat n)), .val (.ref b3), .unset, .unset, .unset, .unset, .unset, .unset, .unset] [(.int (7 : Int32)), (.ref b3)])) _
      refine XS.lloadN X24.here hx rfl (hb hby at_66) rfl ?_
      exact κ)
  obtain ⟨_, _, ⟨T27, L27, k27, n27⟩, -, X27, ⟨Lc27, hQ27, l27, y27, z27⟩, st27⟩ := Jvm.LawKit.callS X24 hx (y := (⟨"com/example/tapeline/tapeline/GlyphRunLengthPinLaw", "fill", "([IIJ)V"⟩ : MethodName)) hown (mvT hZ (hw _ (List.mem_of_getElem? (i := 1) rfl))) (mvT hZ (hw _ (List.mem_of_getElem? (i := 2) rfl))) (mvT hZ (hw _ (List.mem_of_getElem? (i := 3) rfl))) (mvT hZ (hw _ (List.mem_of_getElem? (i := 4) rfl))) (by decide) (backOf (W := 0) (rm1 l Z a0 hw [] b3 (7 : Int32) q1 k3 n T24.heap n0 Z24 G24 hn (by decide) gb3) hZ (hw _ (List.mem_of_getElem? (i := 4) rfl)) (hw _ (List.mem_of_getElem? (i := 3) rfl)) (by decide) (by decide)) (g := (mkF m 67 #[.val (.int p0), .val (.long q1), .second, .val (.int p2), .val (.int p3), .val (.int p4), .val (.int p5), .val (.int (Int32.ofNat n)), .val (.ref b3), .unset, .unset, .unset, .unset, .unset, .unset, .unset] [(.long q1), (.int (7 : Int32)), (.ref b3)])) rfl (by rw [hml]; rfl) (argsL := [(.ref b3), (.int (7 : Int32)), (.long q1)]) (rest := []) (lenOf pd_9 rfl) rfl (by show 2 * 0 + _ ≤ _; exact Nat.le_of_eq rfl) (hb hby at_67) (fun _ _ => ⟨rfl, rfl, (by decide : 1 + 0 ≤ _), (by decide : 7 + 0 ≤ _)⟩)
  dsimp only [Pt.U, Pt.locs, Pt.cells, Pt.slots] at X27 l27 y27 z27 st27 hQ27
  rw [y27, z27] at X27
  obtain ⟨rfl, N27q, K27q, G27⟩ := hQ27
  have N27 : Fr n0 L27 := by rw [l27]; exact Fr.app N24 N27q
  replace X27 : Stand p l e _ s m _ below meth c T27 L27 1 7 := X27
  clear l27 y27 z27
  have Z27 : n0 ≤ T27.heap.size := Nat.le_trans Z24 K27q.1
  have c28 : ∀ τ, Steps p.tables e below (T27.setTop (mkF m 70 #[.val (.int p0), .val (.long q1), .second, .val (.int p2), .val (.int p3), .val (.int p4), .val (.int p5), .val (.int (Int32.ofNat n)), .val (.ref b3), .unset, .unset, .unset, .unset, .unset, .unset, .unset] [])) τ → Steps p.tables e below (s₁.setTop (entryFrame m #[(.int p0), (.long q1), (.int p2), (.int p3), (.int p4), (.int p5)] maxLocals)) τ := fun τ κ => c26 τ (st27 τ κ)
  obtain ⟨vs, FV, hvl, hvr⟩ := G27
  have hfm := own_foldmax vs hvr 1 (by decide)
  have hf1 := own_foldle vs 1
  obtain ⟨T29, h29, X29, e29, E29, A29, D29, -, st29⟩ := newO X27 hx hZ hown (hw _ (List.mem_of_getElem? (i := 5) rfl)) (hw _ (List.mem_of_getElem? (i := 6) rfl)) (hw _ (List.mem_of_getElem? (i := 7) rfl)) rfl (g := (mkF m 70 #[.val (.int p0), .val (.long q1), .second, .val (.int p2), .val (.int p3), .val (.int p4), .val (.int p5), .val (.int (Int32.ofNat n)), .val (.ref b3), .unset, .unset, .unset, .unset, .unset, .unset, .unset] [])) rfl (hb hby at_70) (by decide) (by decide)
  obtain ⟨b29, g29⟩ : ∃ z, z = T27.heap.size := ⟨_, rfl⟩
  rw [← g29] at A29 D29 st29
  have gb29 : n0 ≤ b29 := Nat.le_trans Z27 (Nat.le_of_eq g29.symm)
  have f30 := ((((((((Ex3.keep K6q).keep K9q).keep K12q).keep K15q).keep K18q).keep K21q).keep K24q).keep K27q)
  have ne_b3_b29 : b3 ≠ b29 := Nat.ne_of_lt (Nat.lt_of_lt_of_le f30.lt (Nat.le_of_eq g29.symm))
  have Z29 : n0 ≤ h29.size := Nat.le_trans Z27 E29.1
  have F29_held : Fld Z h29 b29 "com/example/tapeline/tapeline/OpenTypeLayout$GlyphRun" "held" "Ljava/util/BitSet;" .null := D29 (Or.inr (hw _ (List.mem_of_getElem? (i := 37) rfl))) (ty := (.object "java/util/BitSet")) (by decide)
  have F29_glyphs : Fld Z h29 b29 "com/example/tapeline/tapeline/OpenTypeLayout$GlyphRun" "glyphs" "[I" .null := D29 (Or.inr (hw _ (List.mem_of_getElem? (i := 48) rfl))) (ty := (.array .int)) (by decide)
  have F29_gapStart : Fld Z h29 b29 "com/example/tapeline/tapeline/OpenTypeLayout$GlyphRun" "gapStart" "I" (.int (0 : Int32)) := D29 (Or.inl (hw _ (List.mem_of_getElem? (i := 50) rfl))) (ty := .int) (by decide)
  have F29_gapEnd : Fld Z h29 b29 "com/example/tapeline/tapeline/OpenTypeLayout$GlyphRun" "gapEnd" "I" (.int (0 : Int32)) := D29 (Or.inl (hw _ (List.mem_of_getElem? (i := 52) rfl))) (ty := .int) (by decide)
  have c31 : ∀ τ, Steps p.tables e below (T29.setTop (mkF m 73 #[.val (.int p0), .val (.long q1), .second, .val (.int p2), .val (.int p3), .val (.int p4), .val (.int p5), .val (.int (Int32.ofNat n)), .val (.ref b3), .unset, .unset, .unset, .unset, .unset, .unset, .unset] [(.ref b29)])) τ → Steps p.tables e below (s₁.setTop (entryFrame m #[(.int p0), (.long q1), (.int p2), (.int p3), (.int p4), (.int p5)] maxLocals)) τ := fun τ κ => c28 τ (st29 τ κ)
  have f32 := (FV.ext E29)
  have f33 := (f30.ext E29)
  have f34 := ((((((((((Od.ext E3).keep K6q (allS gb3 all0)).keep K9q (allS gb3 all0)).keep K12q (allS gb3 all0)).keep K15q (allS gb3 all0)).keep K18q (allS gb3 all0)).keep K21q (allS gb3 all0)).keep K24q (allS gb3 all0)).keep K27q (allS gb3 all0)).ext E29)
  have c35 : ∀ τ, Steps p.tables e below (T29.setTop (mkF m 76 #[.val (.int p0), .val (.long q1), .second, .val (.int p2), .val (.int p3), .val (.int p4), .val (.int p5), .val (.int (Int32.ofNat n)), .val (.ref b3), .unset, .unset, .unset, .unset, .unset, .unset, .unset] [(.ref b3), (.ref b29), (.ref b29)])) τ → Steps p.tables e below (s₁.setTop (entryFrame m #[(.int p0), (.long q1), (.int p2), (.int p3), (.int p4), (.int p5)] maxLocals)) τ := fun τ κ => c31 τ (by
      show Steps p.tables e below (T29.setTop (mkF m 73 #[.val (.int p0), .val (.long q1), .second, .val (.int p2), .val (.int p3), .val (.int p4), .val (.int p5), .val (.int (Int32.ofNat n)), .val (.ref b3), .unset, .unset, .unset, .unset, .unset, .unset, .unset] [(.ref b29)])) _
      refine XS.dup X29.here hx rfl (hb hby at_73) rfl rfl ?_
      show Steps p.tables e below (T29.setTop (mkF m 74 #[.val (.int p0), .val (.long q1), .second, .val (.int p2), .val (.int p3), .val (.int p4), .val (.int p5), .val (.int (Int32.ofNat n)), .val (.ref b3), .unset, .unset, .unset, .unset, .unset, .unset, .unset] [(.ref b29), (.ref b29)])) _
      refine XS.aload X29.here hx rfl (hb hby at_74) rfl rfl ?_
      exact κ)
  obtain ⟨_, _, ⟨T36, L36, k36, n36⟩, -, X36, ⟨Lc36, hQ36, l36, y36, z36⟩, st36⟩ := X29.specialBack hx (y := (⟨"com/example/tapeline/tapeline/OpenTypeLayout$GlyphRun", "<init>", "([I)V"⟩ : MethodName)) rfl hown (mvT hZ (hw _ (List.mem_of_getElem? (i := 8) rfl))) (mvT hZ (hw _ (List.mem_of_getElem? (i := 9) rfl))) (mvT hZ (hw _ (List.mem_of_getElem? (i := 10) rfl))) (by decide) (backOf (W := 1) (rm2 l Z a0 hw [] b29 b3 k3 vs n h29 n0 Z29 A29 F29_glyphs F29_gapStart F29_gapEnd F29_held f32 f33 hvl hvr hn gb29 SA f34) hZ (hw _ (List.mem_of_getElem? (i := 10) rfl)) (hw _ (List.mem_of_getElem? (i := 7) rfl)) (Nat.le_of_ble_eq_true rfl) (Nat.le_of_ble_eq_true rfl)) (g := (mkF m 76 #[.val (.int p0), .val (.long q1), .second, .val (.int p2), .val (.int p3), .val (.int p4), .val (.int p5), .val (.int (Int32.ofNat n)), .val (.ref b3), .unset, .unset, .unset, .unset, .unset, .unset, .unset] [(.ref b3), (.ref b29), (.ref b29)])) rfl (by rw [hml]; rfl) (Steps.refl _) (a := b29) (argsL := [(.ref b3)]) (rest := [(.ref b29)]) (lenOf pd_8 rfl) rfl (by show 2 * 0 + _ ≤ _; exact Nat.le_of_eq rfl) (hb hby at_76) (fun _ _ => ⟨rfl, e29, (by show 2 + (3 + n) ≤ 32; omega), (by show 12 + (11 + 2 * (own_fold vs 1 - 1)) ≤ 7168; omega)⟩)
  dsimp only [Pt.U, Pt.locs, Pt.cells, Pt.slots] at X36 l36 y36 z36 st36 hQ36
  rw [y36, z36] at X36
  obtain ⟨rfl, N36q, gl, bs, t0, u0, K36q, R0⟩ := hQ36
  have N36 : Fr n0 L36 := by rw [l36]; exact Fr.app N27 N36q
  replace X36 := X36.more (cells' := (5 + n)) (slots' := (23 + 2 * (own_fold vs 1 - 1))) (by show 2 + (3 + n) ≤ 5 + n; omega) (by show 12 + (11 + 2 * (own_fold vs 1 - 1)) ≤ 23 + 2 * (own_fold vs 1 - 1); omega)
  replace X36 : Stand p l e _ s m _ below meth c T36 L36 (5 + n) (23 + 2 * (own_fold vs 1 - 1)) := X36
  clear l36 y36 z36
  have Z36 : n0 ≤ T36.heap.size := Nat.le_trans Z29 K36q.1
  have c37 : ∀ τ, Steps p.tables e below (T36.setTop (mkF m 79 #[.val (.int p0), .val (.long q1), .second, .val (.int p2), .val (.int p3), .val (.int p4), .val (.int p5), .val (.int (Int32.ofNat n)), .val (.ref b3), .unset, .unset, .unset, .unset, .unset, .unset, .unset] [(.ref b29)])) τ → Steps p.tables e below (s₁.setTop (entryFrame m #[(.int p0), (.long q1), (.int p2), (.int p3), (.int p4), (.int p5)] maxLocals)) τ := fun τ κ => c35 τ (st36.trans κ)
  obtain ⟨Er0, Fg0, Fa0, Fb0, Fh0, ⟨vg0, FV0, hvg0⟩, B0, gr0, gg0⟩ := id R0
  obtain ⟨-, -, -, -, -, -, -, -, gbs0, gt0⟩ := B0
  have c38 : ∀ τ, Steps p.tables e below (T36.setTop (mkF m 83 #[.val (.int p0), .val (.long q1), .second, .val (.int p2), .val (.int p3), .val (.int p4), .val (.int p5), .val (.int (Int32.ofNat n)), .val (.ref b3), .val (.ref b29), .unset, .unset, .unset, .unset, .unset, .unset] [(.ref b29)])) τ → Steps p.tables e below (s₁.setTop (entryFrame m #[(.int p0), (.long q1), (.int p2), (.int p3), (.int p4), (.int p5)] maxLocals)) τ := fun τ κ => c37 τ (by
      show Steps p.tables e below (T36.setTop (mkF m 79 #[.val (.int p0), .val (.long q1), .second, .val (.int p2), .val (.int p3), .val (.int p4), .val (.int p5), .val (.int (Int32.ofNat n)), .val (.ref b3), .unset, .unset, .unset, .unset, .unset, .unset, .unset] [(.ref b29)])) _
      refine XS.astore X36.here hx rfl (hb hby at_79) rfl rfl (l' := #[.val (.int p0), .val (.long q1), .second, .val (.int p2), .val (.int p3), .val (.int p4), .val (.int p5), .val (.int (Int32.ofNat n)), .val (.ref b3), .val (.ref b29), .unset, .unset, .unset, .unset, .unset, .unset]) rfl ?_
      show Steps p.tables e below (T36.setTop (mkF m 81 #[.val (.int p0), .val (.long q1), .second, .val (.int p2), .val (.int p3), .val (.int p4), .val (.int p5), .val (.int (Int32.ofNat n)), .val (.ref b3), .val (.ref b29), .unset, .unset, .unset, .unset, .unset, .unset] [])) _
      refine XS.aload X36.here hx rfl (hb hby at_81) rfl rfl ?_
      exact κ)
  have f40 := (A29.keep K36q)
  obtain ⟨cq39, kq39, q39a, q39b, q39c⟩ := isOf hZ rfl f40
  obtain ⟨_, _, ⟨T39, L39, k39, n39⟩, -, X39, ⟨Lc39, hQ39, l39, y39, z39⟩, st39⟩ := X36.virtualBack hx (y := (⟨"com/example/tapeline/tapeline/OpenTypeLayout$GlyphRun", "length", "()I"⟩ : MethodName)) (z := (⟨"com/example/tapeline/tapeline/OpenTypeLayout$GlyphRun", "length", "()I"⟩ : MethodName)) hown (mvT hZ (hw _ (List.mem_of_getElem? (i := 53) rfl))) (mvT hZ (hw _ (List.mem_of_getElem? (i := 54) rfl))) (notFace_of_selects (args := #[]) (mvT hZ (hw _ (List.mem_of_getElem? (i := 56) rfl)))) (mvT hZ (hw _ (List.mem_of_getElem? (i := 56) rfl))) (mvT hZ (hw _ (List.mem_of_getElem? (i := 55) rfl))) (by decide) (backOf (W := 0) (rm7 l Z a0 hw [] b29 gl k3 vg0 n n n T36.heap n0 Z36 Fg0 Fa0 Fb0 FV0) hZ (hw _ (List.mem_of_getElem? (i := 57) rfl)) (hw _ (List.mem_of_getElem? (i := 7) rfl)) (Nat.le_of_ble_eq_true rfl) (Nat.le_of_ble_eq_true rfl)) q39a q39c (g := (mkF m 83 #[.val (.int p0), .val (.long q1), .second, .val (.int p2), .val (.int p3), .val (.int p4), .val (.int p5), .val (.int (Int32.ofNat n)), .val (.ref b3), .val (.ref b29), .unset, .unset, .unset, .unset, .unset, .unset] [(.ref b29)])) rfl (by rw [hml]; rfl) (Steps.refl _) (argsL := []) (rest := []) (lenOf pd_0 rfl) rfl (by show 2 * 0 + _ ≤ _; exact Nat.le_of_eq rfl) (hb hby at_83) (fun _ _ => ⟨rfl, rfl, (by show (5 + n) + 0 ≤ 32; omega), (by show (23 + 2 * (own_fold vs 1 - 1)) + 0 ≤ 7168; omega)⟩)
  dsimp only [Pt.U, Pt.locs, Pt.cells, Pt.slots] at X39 l39 y39 z39 st39 hQ39
  rw [y39, z39] at X39
  obtain ⟨rfl, N39q, e39⟩ := hQ39
  have N39 : Fr n0 L39 := by rw [l39]; exact Fr.app N36 N39q
  replace X39 := X39.more (cells' := (5 + n)) (slots' := (23 + 2 * (own_fold vs 1 - 1))) (Nat.le_refl _) (Nat.le_refl _)
  replace X39 : Stand p l e _ s m _ below meth c T39 L39 (5 + n) (23 + 2 * (own_fold vs 1 - 1)) := X39
  clear l39 y39 z39
  have c41 : ∀ τ, Steps p.tables e below (T39.setTop (mkF m 86 #[.val (.int p0), .val (.long q1), .second, .val (.int p2), .val (.int p3), .val (.int p4), .val (.int p5), .val (.int (Int32.ofNat n)), .val (.ref b3), .val (.ref b29), .unset, .unset, .unset, .unset, .unset, .unset] [(.int ((Int32.ofNat n) - ((Int32.ofNat n) - (Int32.ofNat n))))])) τ → Steps p.tables e below (s₁.setTop (entryFrame m #[(.int p0), (.long q1), (.int p2), (.int p3), (.int p4), (.int p5)] maxLocals)) τ := fun τ κ => c38 τ (st39.trans κ)
  rw [show ((Int32.ofNat n) - ((Int32.ofNat n) - (Int32.ofNat n))) = (Int32.ofNat n) from own_len (Nat.le_refl _) (Nat.le_refl _) (by omega)] at c41
  have c42 : ∀ τ, Steps p.tables e below (T39.setTop (mkF m 100 #[.val (.int p0), .val (.long q1), .second, .val (.int p2), .val (.int p3), .val (.int p4), .val (.int p5), .val (.int (Int32.ofNat n)), .val (.ref b3), .val (.ref b29), .val (.int (1 : Int32)), .unset, .unset, .unset, .unset, .unset] [(.int (Int32.ofNat n))])) τ → Steps p.tables e below (s₁.setTop (entryFrame m #[(.int p0), (.long q1), (.int p2), (.int p3), (.int p4), (.int p5)] maxLocals)) τ := fun τ κ => c41 τ (by
      show Steps p.tables e below (T39.setTop (mkF m 86 #[.val (.int p0), .val (.long q1), .second, .val (.int p2), .val (.int p3), .val (.int p4), .val (.int p5), .val (.int (Int32.ofNat n)), .val (.ref b3), .val (.ref b29), .unset, .unset, .unset, .unset, .unset, .unset] [(.int (Int32.ofNat n))])) _
      refine XS.iload X39.here hx rfl (hb hby at_86) rfl ?_
      show Steps p.tables e below (T39.setTop (mkF m 88 #[.val (.int p0), .val (.long q1), .second, .val (.int p2), .val (.int p3), .val (.int p4), .val (.int p5), .val (.int (Int32.ofNat n)), .val (.ref b3), .val (.ref b29), .unset, .unset, .unset, .unset, .unset, .unset] [(.int (Int32.ofNat n)), (.int (Int32.ofNat n))])) _
      refine XS.icmpNo X39.here hx rfl (hb hby at_88) rfl (teq rfl).2 ?_
      show Steps p.tables e below (T39.setTop (mkF m 91 #[.val (.int p0), .val (.long q1), .second, .val (.int p2), .val (.int p3), .val (.int p4), .val (.int p5), .val (.int (Int32.ofNat n)), .val (.ref b3), .val (.ref b29), .unset, .unset, .unset, .unset, .unset, .unset] [])) _
      refine XS.iconst X39.here hx rfl (hb hby at_91) ?_
      show Steps p.tables e below (T39.setTop (mkF m 92 #[.val (.int p0), .val (.long q1), .second, .val (.int p2), .val (.int p3), .val (.int p4), .val (.int p5), .val (.int (Int32.ofNat n)), .val (.ref b3), .val (.ref b29), .unset, .unset, .unset, .unset, .unset, .unset] [(.int (1 : Int32))])) _
      refine XS.goto X39.here hx rfl (pc0 := 92) (pc' := 96) rfl (hb hby at_92) (by decide) (by decide) ?_
      show Steps p.tables e below (T39.setTop (mkF m 96 #[.val (.int p0), .val (.long q1), .second, .val (.int p2), .val (.int p3), .val (.int p4), .val (.int p5), .val (.int (Int32.ofNat n)), .val (.ref b3), .val (.ref b29), .unset, .unset, .unset, .unset, .unset, .unset] [(.int (1 : Int32))])) _
      refine XS.istore X39.here hx rfl (hb hby at_96) rfl (l' := #[.val (.int p0), .val (.long q1), .second, .val (.int p2), .val (.int p3), .val (.int p4), .val (.int p5), .val (.int (Int32.ofNat n)), .val (.ref b3), .val (.ref b29), .val (.int (1 : Int32)), .unset, .unset, .unset, .unset, .unset]) rfl ?_
      show Steps p.tables e below (T39.setTop (mkF m 98 #[.val (.int p0), .val (.long q1), .second, .val (.int p2), .val (.int p3), .val (.int p4), .val (.int p5), .val (.int (Int32.ofNat n)), .val (.ref b3), .val (.ref b29), .val (.int (1 : Int32)), .unset, .unset, .unset, .unset, .unset] [])) _
      refine XS.iload X39.here hx rfl (hb hby at_98) rfl ?_
      exact κ)
  by_cases hz : (Int32.ofNat n) = (0 : Int32)
  · have c43 : ∀ τ, Steps p.tables e below (T39.setTop (mkF m 105 #[.val (.int p0), .val (.long q1), .second, .val (.int p2), .val (.int p3), .val (.int p4), .val (.int p5), .val (.int (Int32.ofNat n)), .val (.ref b3), .val (.ref b29), .val (.int (1 : Int32)), .unset, .unset, .unset, .unset, .unset] [(.int (1 : Int32))])) τ → Steps p.tables e below (s₁.setTop (entryFrame m #[(.int p0), (.long q1), (.int p2), (.int p3), (.int p4), (.int p5)] maxLocals)) τ := fun τ κ => c42 τ (by
        show Steps p.tables e below (T39.setTop (mkF m 100 #[.val (.int p0), .val (.long q1), .second, .val (.int p2), .val (.int p3), .val (.int p4), .val (.int p5), .val (.int (Int32.ofNat n)), .val (.ref b3), .val (.ref b29), .val (.int (1 : Int32)), .unset, .unset, .unset, .unset, .unset] [(.int (Int32.ofNat n))])) _
        refine XS.ifNo X39.here hx rfl (hb hby at_100) rfl ((if0 _ _).trans (teq hz).2) ?_
        show Steps p.tables e below (T39.setTop (mkF m 103 #[.val (.int p0), .val (.long q1), .second, .val (.int p2), .val (.int p3), .val (.int p4), .val (.int p5), .val (.int (Int32.ofNat n)), .val (.ref b3), .val (.ref b29), .val (.int (1 : Int32)), .unset, .unset, .unset, .unset, .unset] [])) _
        refine XS.iload X39.here hx rfl (hb hby at_103) rfl ?_
        exact κ)
    obtain ⟨fs, hr, hrun, hended, hW, hsame⟩ := X39.leave (v := some (.int (1 : Int32))) (fun h => by rw [Bd.returns] at h; cases h)
    refine ⟨_, _, c43 _ (retN X39 hx (t := .boolean) Bd.returns (by simp) (hb hby at_105) hr), hrun, hended, _, _, rfl, ?_, ⟨_, rfl⟩, hW, hsame.mono (by show (5 + n) ≤ 32; omega) (by show (23 + 2 * (own_fold vs 1 - 1)) ≤ 7168; omega)⟩
    show Q_rm0 Z p0 q1 p2 p3 p4 p5 h0 n0 _ T39.heap _
    rw [e39]
    exact ⟨rfl, N39⟩
  · have h1n : 1 ≤ n := Nat.pos_of_ne_zero fun q => hz (by rw [q]; rfl)
    obtain ⟨a1, ha1, ea1⟩ := own_rem p2 (k := n) (by omega) (by omega)
    obtain ⟨d1, hd1, ed1⟩ := own_rem p3 (k := n - a1) (by omega) (by omega)
    have c43 : ∀ τ, Steps p.tables e below (T39.setTop (mkF m 113 #[.val (.int p0), .val (.long q1), .second, .val (.int p2), .val (.int p3), .val (.int p4), .val (.int p5), .val (.int (Int32.ofNat n)), .val (.ref b3), .val (.ref b29), .val (.int (1 : Int32)), .unset, .unset, .unset, .unset, .unset] [(.int ((p2 &&& (2147483647 : Int32)) % (Int32.ofNat n)))])) τ → Steps p.tables e below (s₁.setTop (entryFrame m #[(.int p0), (.long q1), (.int p2), (.int p3), (.int p4), (.int p5)] maxLocals)) τ := fun τ κ => c42 τ (by
        show Steps p.tables e below (T39.setTop (mkF m 100 #[.val (.int p0), .val (.long q1), .second, .val (.int p2), .val (.int p3), .val (.int p4), .val (.int p5), .val (.int (Int32.ofNat n)), .val (.ref b3), .val (.ref b29), .val (.int (1 : Int32)), .unset, .unset, .unset, .unset, .unset] [(.int (Int32.ofNat n))])) _
        refine XS.ifYes X39.here hx rfl (pc0 := 100) (pc' := 106) rfl (hb hby at_100) rfl ((if0 _ _).trans (feq hz).2) (by decide) (by decide) ?_
        show Steps p.tables e below (T39.setTop (mkF m 106 #[.val (.int p0), .val (.long q1), .second, .val (.int p2), .val (.int p3), .val (.int p4), .val (.int p5), .val (.int (Int32.ofNat n)), .val (.ref b3), .val (.ref b29), .val (.int (1 : Int32)), .unset, .unset, .unset, .unset, .unset] [])) _
        refine XS.iloadN X39.here hx rfl (hb hby at_106) rfl ?_
        show Steps p.tables e below (T39.setTop (mkF m 107 #[.val (.int p0), .val (.long q1), .second, .val (.int p2), .val (.int p3), .val (.int p4), .val (.int p5), .val (.int (Int32.ofNat n)), .val (.ref b3), .val (.ref b29), .val (.int (1 : Int32)), .unset, .unset, .unset, .unset, .unset] [(.int p2)])) _
        refine X39.ldcInt hx hown (mvT hZ (hw _ (List.mem_of_getElem? (i := 80) rfl))) (g := (mkF m 107 #[.val (.int p0), .val (.long q1), .second, .val (.int p2), .val (.int p3), .val (.int p4), .val (.int p5), .val (.int (Int32.ofNat n)), .val (.ref b3), .val (.ref b29), .val (.int (1 : Int32)), .unset, .unset, .unset, .unset, .unset] [(.int p2)])) rfl (hb hby at_107) _ ?_
        show Steps p.tables e below (T39.setTop (mkF m 109 #[.val (.int p0), .val (.long q1), .second, .val (.int p2), .val (.int p3), .val (.int p4), .val (.int p5), .val (.int (Int32.ofNat n)), .val (.ref b3), .val (.ref b29), .val (.int (1 : Int32)), .unset, .unset, .unset, .unset, .unset] [(.int (2147483647 : Int32)), (.int p2)])) _
        refine XS.iand X39.here hx rfl (hb hby at_109) rfl ?_
        show Steps p.tables e below (T39.setTop (mkF m 110 #[.val (.int p0), .val (.long q1), .second, .val (.int p2), .val (.int p3), .val (.int p4), .val (.int p5), .val (.int (Int32.ofNat n)), .val (.ref b3), .val (.ref b29), .val (.int (1 : Int32)), .unset, .unset, .unset, .unset, .unset] [(.int (p2 &&& (2147483647 : Int32)))])) _
        refine XS.iload X39.here hx rfl (hb hby at_110) rfl ?_
        show Steps p.tables e below (T39.setTop (mkF m 112 #[.val (.int p0), .val (.long q1), .second, .val (.int p2), .val (.int p3), .val (.int p4), .val (.int p5), .val (.int (Int32.ofNat n)), .val (.ref b3), .val (.ref b29), .val (.int (1 : Int32)), .unset, .unset, .unset, .unset, .unset] [(.int (Int32.ofNat n)), (.int (p2 &&& (2147483647 : Int32)))])) _
        refine Jvm.RoadKit.iremM X39 hx rfl (hb hby at_112) rfl (own_nz (by omega) (by omega)) ?_
        exact κ)
    rw [show ((p2 &&& (2147483647 : Int32)) % (Int32.ofNat n)) = (Int32.ofNat a1) from ea1] at c43
    have c44 : ∀ τ, Steps p.tables e below (T39.setTop (mkF m 126 #[.val (.int p0), .val (.long q1), .second, .val (.int p2), .val (.int p3), .val (.int p4), .val (.int p5), .val (.int (Int32.ofNat n)), .val (.ref b3), .val (.ref b29), .val (.int (1 : Int32)), .val (.int (Int32.ofNat a1)), .unset, .unset, .unset, .unset] [(.int ((Int32.ofNat n) - (Int32.ofNat a1))), (.int (p3 &&& (2147483647 : Int32))), (.int (1 : Int32))])) τ → Steps p.tables e below (s₁.setTop (entryFrame m #[(.int p0), (.long q1), (.int p2), (.int p3), (.int p4), (.int p5)] maxLocals)) τ := fun τ κ => c43 τ (by
        show Steps p.tables e below (T39.setTop (mkF m 113 #[.val (.int p0), .val (.long q1), .second, .val (.int p2), .val (.int p3), .val (.int p4), .val (.int p5), .val (.int (Int32.ofNat n)), .val (.ref b3), .val (.ref b29), .val (.int (1 : Int32)), .unset, .unset, .unset, .unset, .unset] [(.int (Int32.ofNat a1))])) _
        refine XS.istore X39.here hx rfl (hb hby at_113) rfl (l' := #[.val (.int p0), .val (.long q1), .second, .val (.int p2), .val (.int p3), .val (.int p4), .val (.int p5), .val (.int (Int32.ofNat n)), .val (.ref b3), .val (.ref b29), .val (.int (1 : Int32)), .val (.int (Int32.ofNat a1)), .unset, .unset, .unset, .unset]) rfl ?_
        show Steps p.tables e below (T39.setTop (mkF m 115 #[.val (.int p0), .val (.long q1), .second, .val (.int p2), .val (.int p3), .val (.int p4), .val (.int p5), .val (.int (Int32.ofNat n)), .val (.ref b3), .val (.ref b29), .val (.int (1 : Int32)), .val (.int (Int32.ofNat a1)), .unset, .unset, .unset, .unset] [])) _
        refine XS.iconst X39.here hx rfl (hb hby at_115) ?_
        show Steps p.tables e below (T39.setTop (mkF m 116 #[.val (.int p0), .val (.long q1), .second, .val (.int p2), .val (.int p3), .val (.int p4), .val (.int p5), .val (.int (Int32.ofNat n)), .val (.ref b3), .val (.ref b29), .val (.int (1 : Int32)), .val (.int (Int32.ofNat a1)), .unset, .unset, .unset, .unset] [(.int (1 : Int32))])) _
        refine XS.iload X39.here hx rfl (hb hby at_116) rfl ?_
        show Steps p.tables e below (T39.setTop (mkF m 118 #[.val (.int p0), .val (.long q1), .second, .val (.int p2), .val (.int p3), .val (.int p4), .val (.int p5), .val (.int (Int32.ofNat n)), .val (.ref b3), .val (.ref b29), .val (.int (1 : Int32)), .val (.int (Int32.ofNat a1)), .unset, .unset, .unset, .unset] [(.int p3), (.int (1 : Int32))])) _
        refine X39.ldcInt hx hown (mvT hZ (hw _ (List.mem_of_getElem? (i := 80) rfl))) (g := (mkF m 118 #[.val (.int p0), .val (.long q1), .second, .val (.int p2), .val (.int p3), .val (.int p4), .val (.int p5), .val (.int (Int32.ofNat n)), .val (.ref b3), .val (.ref b29), .val (.int (1 : Int32)), .val (.int (Int32.ofNat a1)), .unset, .unset, .unset, .unset] [(.int p3), (.int (1 : Int32))])) rfl (hb hby at_118) _ ?_
        show Steps p.tables e below (T39.setTop (mkF m 120 #[.val (.int p0), .val (.long q1), .second, .val (.int p2), .val (.int p3), .val (.int p4), .val (.int p5), .val (.int (Int32.ofNat n)), .val (.ref b3), .val (.ref b29), .val (.int (1 : Int32)), .val (.int (Int32.ofNat a1)), .unset, .unset, .unset, .unset] [(.int (2147483647 : Int32)), (.int p3), (.int (1 : Int32))])) _
        refine XS.iand X39.here hx rfl (hb hby at_120) rfl ?_
        show Steps p.tables e below (T39.setTop (mkF m 121 #[.val (.int p0), .val (.long q1), .second, .val (.int p2), .val (.int p3), .val (.int p4), .val (.int p5), .val (.int (Int32.ofNat n)), .val (.ref b3), .val (.ref b29), .val (.int (1 : Int32)), .val (.int (Int32.ofNat a1)), .unset, .unset, .unset, .unset] [(.int (p3 &&& (2147483647 : Int32))), (.int (1 : Int32))])) _
        refine XS.iload X39.here hx rfl (hb hby at_121) rfl ?_
        show Steps p.tables e below (T39.setTop (mkF m 123 #[.val (.int p0), .val (.long q1), .second, .val (.int p2), .val (.int p3), .val (.int p4), .val (.int p5), .val (.int (Int32.ofNat n)), .val (.ref b3), .val (.ref b29), .val (.int (1 : Int32)), .val (.int (Int32.ofNat a1)), .unset, .unset, .unset, .unset] [(.int (Int32.ofNat n)), (.int (p3 &&& (2147483647 : Int32))), (.int (1 : Int32))])) _
        refine XS.iload X39.here hx rfl (hb hby at_123) rfl ?_
        show Steps p.tables e below (T39.setTop (mkF m 125 #[.val (.int p0), .val (.long q1), .second, .val (.int p2), .val (.int p3), .val (.int p4), .val (.int p5), .val (.int (Int32.ofNat n)), .val (.ref b3), .val (.ref b29), .val (.int (1 : Int32)), .val (.int (Int32.ofNat a1)), .unset, .unset, .unset, .unset] [(.int (Int32.ofNat a1)), (.int (Int32.ofNat n)), (.int (p3 &&& (2147483647 : Int32))), (.int (1 : Int32))])) _
        refine XS.isub X39.here hx rfl (hb hby at_125) rfl ?_
        exact κ)
    rw [show ((Int32.ofNat n) - (Int32.ofNat a1)) = (Int32.ofNat (n - a1)) from own_sub (by omega)] at c44
    have c45 : ∀ τ, Steps p.tables e below (T39.setTop (mkF m 127 #[.val (.int p0), .val (.long q1), .second, .val (.int p2), .val (.int p3), .val (.int p4), .val (.int p5), .val (.int (Int32.ofNat n)), .val (.ref b3), .val (.ref b29), .val (.int (1 : Int32)), .val (.int (Int32.ofNat a1)), .unset, .unset, .unset, .unset] [(.int ((p3 &&& (2147483647 : Int32)) % (Int32.ofNat (n - a1)))), (.int (1 : Int32))])) τ → Steps p.tables e below (s₁.setTop (entryFrame m #[(.int p0), (.long q1), (.int p2), (.int p3), (.int p4), (.int p5)] maxLocals)) τ := fun τ κ => c44 τ (by
        show Steps p.tables e below (T39.setTop (mkF m 126 #[.val (.int p0), .val (.long q1), .second, .val (.int p2), .val (.int p3), .val (.int p4), .val (.int p5), .val (.int (Int32.ofNat n)), .val (.ref b3), .val (.ref b29), .val (.int (1 : Int32)), .val (.int (Int32.ofNat a1)), .unset, .unset, .unset, .unset] [(.int (Int32.ofNat (n - a1))), (.int (p3 &&& (2147483647 : Int32))), (.int (1 : Int32))])) _
        refine Jvm.RoadKit.iremM X39 hx rfl (hb hby at_126) rfl (own_nz (by omega) (by omega)) ?_
        exact κ)
    rw [show ((p3 &&& (2147483647 : Int32)) % (Int32.ofNat (n - a1))) = (Int32.ofNat d1) from ed1] at c45
    have c46 : ∀ τ, Steps p.tables e below (T39.setTop (mkF m 128 #[.val (.int p0), .val (.long q1), .second, .val (.int p2), .val (.int p3), .val (.int p4), .val (.int p5), .val (.int (Int32.ofNat n)), .val (.ref b3), .val (.ref b29), .val (.int (1 : Int32)), .val (.int (Int32.ofNat a1)), .unset, .unset, .unset, .unset] [(.int ((1 : Int32) + (Int32.ofNat d1)))])) τ → Steps p.tables e below (s₁.setTop (entryFrame m #[(.int p0), (.long q1), (.int p2), (.int p3), (.int p4), (.int p5)] maxLocals)) τ := fun τ κ => c45 τ (by
        show Steps p.tables e below (T39.setTop (mkF m 127 #[.val (.int p0), .val (.long q1), .second, .val (.int p2), .val (.int p3), .val (.int p4), .val (.int p5), .val (.int (Int32.ofNat n)), .val (.ref b3), .val (.ref b29), .val (.int (1 : Int32)), .val (.int (Int32.ofNat a1)), .unset, .unset, .unset, .unset] [(.int (Int32.ofNat d1)), (.int (1 : Int32))])) _
        refine XS.iadd X39.here hx rfl (hb hby at_127) rfl ?_
        exact κ)
    rw [show ((1 : Int32) + (Int32.ofNat d1)) = (Int32.ofNat (1 + d1)) from own_add 1 d1] at c46
    have c47 : ∀ τ, Steps p.tables e below (T39.setTop (mkF m 144 #[.val (.int p0), .val (.long q1), .second, .val (.int p2), .val (.int p3), .val (.int p4), .val (.int p5), .val (.int (Int32.ofNat n)), .val (.ref b3), .val (.ref b29), .val (.int (1 : Int32)), .val (.int (Int32.ofNat a1)), .val (.int (Int32.ofNat (1 + d1))), .unset, .unset, .unset] [(.int (((p3.toUInt32 >>> ((16 : Int32) &&& 31).toUInt32).toInt32) &&& (65535 : Int32))), (.int (Int32.ofNat (1 + d1))), (.int (Int32.ofNat a1)), (.ref b29)])) τ → Steps p.tables e below (s₁.setTop (entryFrame m #[(.int p0), (.long q1), (.int p2), (.int p3), (.int p4), (.int p5)] maxLocals)) τ := fun τ κ => c46 τ (by
        show Steps p.tables e below (T39.setTop (mkF m 128 #[.val (.int p0), .val (.long q1), .second, .val (.int p2), .val (.int p3), .val (.int p4), .val (.int p5), .val (.int (Int32.ofNat n)), .val (.ref b3), .val (.ref b29), .val (.int (1 : Int32)), .val (.int (Int32.ofNat a1)), .unset, .unset, .unset, .unset] [(.int (Int32.ofNat (1 + d1)))])) _
        refine XS.istore X39.here hx rfl (hb hby at_128) rfl (l' := #[.val (.int p0), .val (.long q1), .second, .val (.int p2), .val (.int p3), .val (.int p4), .val (.int p5), .val (.int (Int32.ofNat n)), .val (.ref b3), .val (.ref b29), .val (.int (1 : Int32)), .val (.int (Int32.ofNat a1)), .val (.int (Int32.ofNat (1 + d1))), .unset, .unset, .unset]) rfl ?_
        show Steps p.tables e below (T39.setTop (mkF m 130 #[.val (.int p0), .val (.long q1), .second, .val (.int p2), .val (.int p3), .val (.int p4), .val (.int p5), .val (.int (Int32.ofNat n)), .val (.ref b3), .val (.ref b29), .val (.int (1 : Int32)), .val (.int (Int32.ofNat a1)), .val (.int (Int32.ofNat (1 + d1))), .unset, .unset, .unset] [])) _
        refine XS.aload X39.here hx rfl (hb hby at_130) rfl rfl ?_
        show Steps p.tables e below (T39.setTop (mkF m 132 #[.val (.int p0), .val (.long q1), .second, .val (.int p2), .val (.int p3), .val (.int p4), .val (.int p5), .val (.int (Int32.ofNat n)), .val (.ref b3), .val (.ref b29), .val (.int (1 : Int32)), .val (.int (Int32.ofNat a1)), .val (.int (Int32.ofNat (1 + d1))), .unset, .unset, .unset] [(.ref b29)])) _
        refine XS.iload X39.here hx rfl (hb hby at_132) rfl ?_
        show Steps p.tables e below (T39.setTop (mkF m 134 #[.val (.int p0), .val (.long q1), .second, .val (.int p2), .val (.int p3), .val (.int p4), .val (.int p5), .val (.int (Int32.ofNat n)), .val (.ref b3), .val (.ref b29), .val (.int (1 : Int32)), .val (.int (Int32.ofNat a1)), .val (.int (Int32.ofNat (1 + d1))), .unset, .unset, .unset] [(.int (Int32.ofNat a1)), (.ref b29)])) _
        refine XS.iload X39.here hx rfl (hb hby at_134) rfl ?_
        show Steps p.tables e below (T39.setTop (mkF m 136 #[.val (.int p0), .val (.long q1), .second, .val (.int p2), .val (.int p3), .val (.int p4), .val (.int p5), .val (.int (Int32.ofNat n)), .val (.ref b3), .val (.ref b29), .val (.int (1 : Int32)), .val (.int (Int32.ofNat a1)), .val (.int (Int32.ofNat (1 + d1))), .unset, .unset, .unset] [(.int (Int32.ofNat (1 + d1))), (.int (Int32.ofNat a1)), (.ref b29)])) _
        refine XS.iload X39.here hx rfl (hb hby at_136) rfl ?_
        show Steps p.tables e below (T39.setTop (mkF m 138 #[.val (.int p0), .val (.long q1), .second, .val (.int p2), .val (.int p3), .val (.int p4), .val (.int p5), .val (.int (Int32.ofNat n)), .val (.ref b3), .val (.ref b29), .val (.int (1 : Int32)), .val (.int (Int32.ofNat a1)), .val (.int (Int32.ofNat (1 + d1))), .unset, .unset, .unset] [(.int p3), (.int (Int32.ofNat (1 + d1))), (.int (Int32.ofNat a1)), (.ref b29)])) _
        refine XS.bipush X39.here hx rfl (hb hby at_138) ?_
        show Steps p.tables e below (T39.setTop (mkF m 140 #[.val (.int p0), .val (.long q1), .second, .val (.int p2), .val (.int p3), .val (.int p4), .val (.int p5), .val (.int (Int32.ofNat n)), .val (.ref b3), .val (.ref b29), .val (.int (1 : Int32)), .val (.int (Int32.ofNat a1)), .val (.int (Int32.ofNat (1 + d1))), .unset, .unset, .unset] [(.int (16 : Int32)), (.int p3), (.int (Int32.ofNat (1 + d1))), (.int (Int32.ofNat a1)), (.ref b29)])) _
        refine XS.iushr X39.here hx rfl (hb hby at_140) rfl ?_
        show Steps p.tables e below (T39.setTop (mkF m 141 #[.val (.int p0), .val (.long q1), .second, .val (.int p2), .val (.int p3), .val (.int p4), .val (.int p5), .val (.int (Int32.ofNat n)), .val (.ref b3), .val (.ref b29), .val (.int (1 : Int32)), .val (.int (Int32.ofNat a1)), .val (.int (Int32.ofNat (1 + d1))), .unset, .unset, .unset] [(.int ((p3.toUInt32 >>> ((16 : Int32) &&& 31).toUInt32).toInt32)), (.int (Int32.ofNat (1 + d1))), (.int (Int32.ofNat a1)), (.ref b29)])) _
        refine X39.ldcInt hx hown (mvT hZ (hw _ (List.mem_of_getElem? (i := 81) rfl))) (g := (mkF m 141 #[.val (.int p0), .val (.long q1), .second, .val (.int p2), .val (.int p3), .val (.int p4), .val (.int p5), .val (.int (Int32.ofNat n)), .val (.ref b3), .val (.ref b29), .val (.int (1 : Int32)), .val (.int (Int32.ofNat a1)), .val (.int (Int32.ofNat (1 + d1))), .unset, .unset, .unset] [(.int ((p3.toUInt32 >>> ((16 : Int32) &&& 31).toUInt32).toInt32)), (.int (Int32.ofNat (1 + d1))), (.int (Int32.ofNat a1)), (.ref b29)])) rfl (hb hby at_141) _ ?_
        show Steps p.tables e below (T39.setTop (mkF m 143 #[.val (.int p0), .val (.long q1), .second, .val (.int p2), .val (.int p3), .val (.int p4), .val (.int p5), .val (.int (Int32.ofNat n)), .val (.ref b3), .val (.ref b29), .val (.int (1 : Int32)), .val (.int (Int32.ofNat a1)), .val (.int (Int32.ofNat (1 + d1))), .unset, .unset, .unset] [(.int (65535 : Int32)), (.int ((p3.toUInt32 >>> ((16 : Int32) &&& 31).toUInt32).toInt32)), (.int (Int32.ofNat (1 + d1))), (.int (Int32.ofNat a1)), (.ref b29)])) _
        refine XS.iand X39.here hx rfl (hb hby at_143) rfl ?_
        exact κ)
    obtain ⟨y1, hy1, ey1⟩ := own_andN ((p3.toUInt32 >>> ((16 : Int32) &&& 31).toUInt32).toInt32) 65535 65535 rfl (by decide)
    rw [show (((p3.toUInt32 >>> ((16 : Int32) &&& 31).toUInt32).toInt32) &&& (65535 : Int32)) = (Int32.ofNat y1) from ey1] at c47
    have hg1 := own_gle (own_fold vs 1) (y1 / 64 + 1)
    have hgm1 : own_g (own_fold vs 1) (y1 / 64 + 1) ≤ 2046 := own_gmax (by omega) (by omega)
    have hgp1 := own_gap (cnt := 1 + d1) (pos := a1) (gs := n) (ge := n) (n := n) (by omega) (by omega) (by omega) (by omega)
    have f48 := (f34.keep K36q (allS gb29 all0))
    obtain ⟨cq49, kq49, q49a, q49b, q49c⟩ := isOf hZ e39 f40
    obtain ⟨_, _, ⟨T49, L49, k49, n49⟩, -, X49, ⟨Lc49, hQ49, l49, y49, z49⟩, st49⟩ := X39.virtualBack hx (y := (⟨"com/example/tapeline/tapeline/OpenTypeLayout$GlyphRun", "replace", "(III)V"⟩ : MethodName)) (z := (⟨"com/example/tapeline/tapeline/OpenTypeLayout$GlyphRun", "replace", "(III)V"⟩ : MethodName)) hown (mvT hZ (hw _ (List.mem_of_getElem? (i := 82) rfl))) (mvT hZ (hw _ (List.mem_of_getElem? (i := 83) rfl))) (notFace_of_selects (args := #[]) (mvT hZ (hw _ (List.mem_of_getElem? (i := 85) rfl)))) (mvT hZ (hw _ (List.mem_of_getElem? (i := 85) rfl))) (mvT hZ (hw _ (List.mem_of_getElem? (i := 84) rfl))) (by decide) (backOf (W := 0) (rm12 l Z a0 hw [] b29 gl bs t0 k3 n n n u0 (own_fold vs 1) a1 (1 + d1) y1 T36.heap n0 Z36 R0 (by omega) (by omega) hn (by omega) (by omega) hy1 SA f48) hZ (hw _ (List.mem_of_getElem? (i := 86) rfl)) (hw _ (List.mem_of_getElem? (i := 7) rfl)) (Nat.le_of_ble_eq_true rfl) (Nat.le_of_ble_eq_true rfl)) q49a q49c (g := (mkF m 144 #[.val (.int p0), .val (.long q1), .second, .val (.int p2), .val (.int p3), .val (.int p4), .val (.int p5), .val (.int (Int32.ofNat n)), .val (.ref b3), .val (.ref b29), .val (.int (1 : Int32)), .val (.int (Int32.ofNat a1)), .val (.int (Int32.ofNat (1 + d1))), .unset, .unset, .unset] [(.int (Int32.ofNat y1)), (.int (Int32.ofNat (1 + d1))), (.int (Int32.ofNat a1)), (.ref b29)])) rfl (by rw [hml]; rfl) (Steps.refl _) (argsL := [(.int (Int32.ofNat a1)), (.int (Int32.ofNat (1 + d1))), (.int (Int32.ofNat y1))]) (rest := []) (lenOf pd_6 rfl) rfl (by show 2 * 0 + _ ≤ _; exact Nat.le_of_eq rfl) (hb hby at_144) (fun _ _ => ⟨rfl, e39, (by show (5 + n) + 1 ≤ 32; omega), (by show (23 + 2 * (own_fold vs 1 - 1)) + 2 * (own_g (own_fold vs 1) (y1 / 64 + 1) - own_fold vs 1) ≤ 7168; omega)⟩)
    dsimp only [Pt.U, Pt.locs, Pt.cells, Pt.slots] at X49 l49 y49 z49 st49 hQ49
    rw [y49, z49] at X49
    obtain ⟨rfl, N49q, t1, u1, K49q, R1⟩ := hQ49
    have N49 : Fr n0 L49 := by rw [l49]; exact Fr.app N39 N49q
    replace X49 := X49.more (cells' := ((5 + n) + 1)) (slots' := ((23 + 2 * (own_fold vs 1 - 1)) + 2 * (own_g (own_fold vs 1) (y1 / 64 + 1) - own_fold vs 1))) (Nat.le_refl _) (Nat.le_refl _)
    replace X49 : Stand p l e _ s m _ below meth c T49 L49 ((5 + n) + 1) ((23 + 2 * (own_fold vs 1 - 1)) + 2 * (own_g (own_fold vs 1) (y1 / 64 + 1) - own_fold vs 1)) := X49
    clear l49 y49 z49
    have Z49 : n0 ≤ T49.heap.size := Nat.le_trans Z36 K49q.1
    have c50 : ∀ τ, Steps p.tables e below (T49.setTop (mkF m 147 #[.val (.int p0), .val (.long q1), .second, .val (.int p2), .val (.int p3), .val (.int p4), .val (.int p5), .val (.int (Int32.ofNat n)), .val (.ref b3), .val (.ref b29), .val (.int (1 : Int32)), .val (.int (Int32.ofNat a1)), .val (.int (Int32.ofNat (1 + d1))), .unset, .unset, .unset] [])) τ → Steps p.tables e below (s₁.setTop (entryFrame m #[(.int p0), (.long q1), (.int p2), (.int p3), (.int p4), (.int p5)] maxLocals)) τ := fun τ κ => c47 τ (st49.trans κ)
    obtain ⟨gs1, egs1⟩ : ∃ z, z = own_e (1 + d1) (a1 + 1) n := ⟨_, rfl⟩
    obtain ⟨ge1, ege1⟩ : ∃ z, z = own_e (1 + d1) (a1 + (1 + d1) + (n - n)) n := ⟨_, rfl⟩
    rw [← egs1, ← ege1] at hgp1 R1
    have c51 : ∀ τ, Steps p.tables e below (T49.setTop (mkF m 153 #[.val (.int p0), .val (.long q1), .second, .val (.int p2), .val (.int p3), .val (.int p4), .val (.int p5), .val (.int (Int32.ofNat n)), .val (.ref b3), .val (.ref b29), .val (.int (1 : Int32)), .val (.int (Int32.ofNat a1)), .val (.int (Int32.ofNat (1 + d1))), .unset, .unset, .unset] [(.int ((Int32.ofNat (1 + d1)) - (1 : Int32))), (.int (Int32.ofNat n))])) τ → Steps p.tables e below (s₁.setTop (entryFrame m #[(.int p0), (.long q1), (.int p2), (.int p3), (.int p4), (.int p5)] maxLocals)) τ := fun τ κ => c50 τ (by
        show Steps p.tables e below (T49.setTop (mkF m 147 #[.val (.int p0), .val (.long q1), .second, .val (.int p2), .val (.int p3), .val (.int p4), .val (.int p5), .val (.int (Int32.ofNat n)), .val (.ref b3), .val (.ref b29), .val (.int (1 : Int32)), .val (.int (Int32.ofNat a1)), .val (.int (Int32.ofNat (1 + d1))), .unset, .unset, .unset] [])) _
        refine XS.iload X49.here hx rfl (hb hby at_147) rfl ?_
        show Steps p.tables e below (T49.setTop (mkF m 149 #[.val (.int p0), .val (.long q1), .second, .val (.int p2), .val (.int p3), .val (.int p4), .val (.int p5), .val (.int (Int32.ofNat n)), .val (.ref b3), .val (.ref b29), .val (.int (1 : Int32)), .val (.int (Int32.ofNat a1)), .val (.int (Int32.ofNat (1 + d1))), .unset, .unset, .unset] [(.int (Int32.ofNat n))])) _
        refine XS.iload X49.here hx rfl (hb hby at_149) rfl ?_
        show Steps p.tables e below (T49.setTop (mkF m 151 #[.val (.int p0), .val (.long q1), .second, .val (.int p2), .val (.int p3), .val (.int p4), .val (.int p5), .val (.int (Int32.ofNat n)), .val (.ref b3), .val (.ref b29), .val (.int (1 : Int32)), .val (.int (Int32.ofNat a1)), .val (.int (Int32.ofNat (1 + d1))), .unset, .unset, .unset] [(.int (Int32.ofNat (1 + d1))), (.int (Int32.ofNat n))])) _
        refine XS.iconst X49.here hx rfl (hb hby at_151) ?_
        show Steps p.tables e below (T49.setTop (mkF m 152 #[.val (.int p0), .val (.long q1), .second, .val (.int p2), .val (.int p3), .val (.int p4), .val (.int p5), .val (.int (Int32.ofNat n)), .val (.ref b3), .val (.ref b29), .val (.int (1 : Int32)), .val (.int (Int32.ofNat a1)), .val (.int (Int32.ofNat (1 + d1))), .unset, .unset, .unset] [(.int (1 : Int32)), (.int (Int32.ofNat (1 + d1))), (.int (Int32.ofNat n))])) _
        refine XS.isub X49.here hx rfl (hb hby at_152) rfl ?_
        exact κ)
    rw [show ((Int32.ofNat (1 + d1)) - (1 : Int32)) = (Int32.ofNat d1) from (own_sub (b := 1) (by omega)).trans (congrArg Int32.ofNat (by omega))] at c51
    have c52 : ∀ τ, Steps p.tables e below (T49.setTop (mkF m 154 #[.val (.int p0), .val (.long q1), .second, .val (.int p2), .val (.int p3), .val (.int p4), .val (.int p5), .val (.int (Int32.ofNat n)), .val (.ref b3), .val (.ref b29), .val (.int (1 : Int32)), .val (.int (Int32.ofNat a1)), .val (.int (Int32.ofNat (1 + d1))), .unset, .unset, .unset] [(.int ((Int32.ofNat n) - (Int32.ofNat d1)))])) τ → Steps p.tables e below (s₁.setTop (entryFrame m #[(.int p0), (.long q1), (.int p2), (.int p3), (.int p4), (.int p5)] maxLocals)) τ := fun τ κ => c51 τ (by
        show Steps p.tables e below (T49.setTop (mkF m 153 #[.val (.int p0), .val (.long q1), .second, .val (.int p2), .val (.int p3), .val (.int p4), .val (.int p5), .val (.int (Int32.ofNat n)), .val (.ref b3), .val (.ref b29), .val (.int (1 : Int32)), .val (.int (Int32.ofNat a1)), .val (.int (Int32.ofNat (1 + d1))), .unset, .unset, .unset] [(.int (Int32.ofNat d1)), (.int (Int32.ofNat n))])) _
        refine XS.isub X49.here hx rfl (hb hby at_153) rfl ?_
        exact κ)
    rw [show ((Int32.ofNat n) - (Int32.ofNat d1)) = (Int32.ofNat (n - d1)) from own_sub (by omega)] at c52
    obtain ⟨Er1, Fg1, Fa1, Fb1, Fh1, ⟨vg1, FV1, hvg1⟩, B1, gr1, gg1⟩ := id R1
    obtain ⟨-, -, -, -, -, -, -, -, gbs1, gt1⟩ := B1
    have c53 : ∀ τ, Steps p.tables e below (T49.setTop (mkF m 163 #[.val (.int p0), .val (.long q1), .second, .val (.int p2), .val (.int p3), .val (.int p4), .val (.int p5), .val (.int (Int32.ofNat n)), .val (.ref b3), .val (.ref b29), .val (.int (1 : Int32)), .val (.int (Int32.ofNat a1)), .val (.int (Int32.ofNat (1 + d1))), .val (.int (Int32.ofNat (n - d1))), .unset, .unset] [(.ref b29)])) τ → Steps p.tables e below (s₁.setTop (entryFrame m #[(.int p0), (.long q1), (.int p2), (.int p3), (.int p4), (.int p5)] maxLocals)) τ := fun τ κ => c52 τ (by
        show Steps p.tables e below (T49.setTop (mkF m 154 #[.val (.int p0), .val (.long q1), .second, .val (.int p2), .val (.int p3), .val (.int p4), .val (.int p5), .val (.int (Int32.ofNat n)), .val (.ref b3), .val (.ref b29), .val (.int (1 : Int32)), .val (.int (Int32.ofNat a1)), .val (.int (Int32.ofNat (1 + d1))), .unset, .unset, .unset] [(.int (Int32.ofNat (n - d1)))])) _
        refine XS.istore X49.here hx rfl (hb hby at_154) rfl (l' := #[.val (.int p0), .val (.long q1), .second, .val (.int p2), .val (.int p3), .val (.int p4), .val (.int p5), .val (.int (Int32.ofNat n)), .val (.ref b3), .val (.ref b29), .val (.int (1 : Int32)), .val (.int (Int32.ofNat a1)), .val (.int (Int32.ofNat (1 + d1))), .val (.int (Int32.ofNat (n - d1))), .unset, .unset]) rfl ?_
        show Steps p.tables e below (T49.setTop (mkF m 156 #[.val (.int p0), .val (.long q1), .second, .val (.int p2), .val (.int p3), .val (.int p4), .val (.int p5), .val (.int (Int32.ofNat n)), .val (.ref b3), .val (.ref b29), .val (.int (1 : Int32)), .val (.int (Int32.ofNat a1)), .val (.int (Int32.ofNat (1 + d1))), .val (.int (Int32.ofNat (n - d1))), .unset, .unset] [])) _
        refine XS.iload X49.here hx rfl (hb hby at_156) rfl ?_
        show Steps p.tables e below (T49.setTop (mkF m 158 #[.val (.int p0), .val (.long q1), .second, .val (.int p2), .val (.int p3), .val (.int p4), .val (.int p5), .val (.int (Int32.ofNat n)), .val (.ref b3), .val (.ref b29), .val (.int (1 : Int32)), .val (.int (Int32.ofNat a1)), .val (.int (Int32.ofNat (1 + d1))), .val (.int (Int32.ofNat (n - d1))), .unset, .unset] [(.int (1 : Int32))])) _
        refine XS.ifNo X49.here hx rfl (hb hby at_158) rfl ((if0 _ _).trans (feq (by decide)).1) ?_
        show Steps p.tables e below (T49.setTop (mkF m 161 #[.val (.int p0), .val (.long q1), .second, .val (.int p2), .val (.int p3), .val (.int p4), .val (.int p5), .val (.int (Int32.ofNat n)), .val (.ref b3), .val (.ref b29), .val (.int (1 : Int32)), .val (.int (Int32.ofNat a1)), .val (.int (Int32.ofNat (1 + d1))), .val (.int (Int32.ofNat (n - d1))), .unset, .unset] [])) _
        refine XS.aload X49.here hx rfl (hb hby at_161) rfl rfl ?_
        exact κ)
    have f55 := (f40.keep K49q)
    obtain ⟨cq54, kq54, q54a, q54b, q54c⟩ := isOf hZ rfl f55
    obtain ⟨_, _, ⟨T54, L54, k54, n54⟩, -, X54, ⟨Lc54, hQ54, l54, y54, z54⟩, st54⟩ := X49.virtualBack hx (y := (⟨"com/example/tapeline/tapeline/OpenTypeLayout$GlyphRun", "length", "()I"⟩ : MethodName)) (z := (⟨"com/example/tapeline/tapeline/OpenTypeLayout$GlyphRun", "length", "()I"⟩ : MethodName)) hown (mvT hZ (hw _ (List.mem_of_getElem? (i := 53) rfl))) (mvT hZ (hw _ (List.mem_of_getElem? (i := 54) rfl))) (notFace_of_selects (args := #[]) (mvT hZ (hw _ (List.mem_of_getElem? (i := 56) rfl)))) (mvT hZ (hw _ (List.mem_of_getElem? (i := 56) rfl))) (mvT hZ (hw _ (List.mem_of_getElem? (i := 55) rfl))) (by decide) (backOf (W := 0) (rm7 l Z a0 hw [] b29 gl k3 vg1 n gs1 ge1 T49.heap n0 Z49 Fg1 Fa1 Fb1 FV1) hZ (hw _ (List.mem_of_getElem? (i := 57) rfl)) (hw _ (List.mem_of_getElem? (i := 7) rfl)) (Nat.le_of_ble_eq_true rfl) (Nat.le_of_ble_eq_true rfl)) q54a q54c (g := (mkF m 163 #[.val (.int p0), .val (.long q1), .second, .val (.int p2), .val (.int p3), .val (.int p4), .val (.int p5), .val (.int (Int32.ofNat n)), .val (.ref b3), .val (.ref b29), .val (.int (1 : Int32)), .val (.int (Int32.ofNat a1)), .val (.int (Int32.ofNat (1 + d1))), .val (.int (Int32.ofNat (n - d1))), .unset, .unset] [(.ref b29)])) rfl (by rw [hml]; rfl) (Steps.refl _) (argsL := []) (rest := []) (lenOf pd_0 rfl) rfl (by show 2 * 0 + _ ≤ _; exact Nat.le_of_eq rfl) (hb hby at_163) (fun _ _ => ⟨rfl, rfl, (by show ((5 + n) + 1) + 0 ≤ 32; omega), (by show ((23 + 2 * (own_fold vs 1 - 1)) + 2 * (own_g (own_fold vs 1) (y1 / 64 + 1) - own_fold vs 1)) + 0 ≤ 7168; omega)⟩)
    dsimp only [Pt.U, Pt.locs, Pt.cells, Pt.slots] at X54 l54 y54 z54 st54 hQ54
    rw [y54, z54] at X54
    obtain ⟨rfl, N54q, e54⟩ := hQ54
    have N54 : Fr n0 L54 := by rw [l54]; exact Fr.app N49 N54q
    replace X54 := X54.more (cells' := ((5 + n) + 1)) (slots' := ((23 + 2 * (own_fold vs 1 - 1)) + 2 * (own_g (own_fold vs 1) (y1 / 64 + 1) - own_fold vs 1))) (Nat.le_refl _) (Nat.le_refl _)
    replace X54 : Stand p l e _ s m _ below meth c T54 L54 ((5 + n) + 1) ((23 + 2 * (own_fold vs 1 - 1)) + 2 * (own_g (own_fold vs 1) (y1 / 64 + 1) - own_fold vs 1)) := X54
    clear l54 y54 z54
    have c56 : ∀ τ, Steps p.tables e below (T54.setTop (mkF m 166 #[.val (.int p0), .val (.long q1), .second, .val (.int p2), .val (.int p3), .val (.int p4), .val (.int p5), .val (.int (Int32.ofNat n)), .val (.ref b3), .val (.ref b29), .val (.int (1 : Int32)), .val (.int (Int32.ofNat a1)), .val (.int (Int32.ofNat (1 + d1))), .val (.int (Int32.ofNat (n - d1))), .unset, .unset] [(.int ((Int32.ofNat n) - ((Int32.ofNat ge1) - (Int32.ofNat gs1))))])) τ → Steps p.tables e below (s₁.setTop (entryFrame m #[(.int p0), (.long q1), (.int p2), (.int p3), (.int p4), (.int p5)] maxLocals)) τ := fun τ κ => c53 τ (st54.trans κ)
    rw [show ((Int32.ofNat n) - ((Int32.ofNat ge1) - (Int32.ofNat gs1))) = (Int32.ofNat (n - d1)) from own_len (by omega) (by omega) (by omega)] at c56
    obtain ⟨a2, ha2, ea2⟩ := own_rem p4 (k := (n - d1)) (by omega) (by omega)
    obtain ⟨d2, hd2, ed2⟩ := own_rem p5 (k := (n - d1) - a2) (by omega) (by omega)
    have c57 : ∀ τ, Steps p.tables e below (T54.setTop (mkF m 186 #[.val (.int p0), .val (.long q1), .second, .val (.int p2), .val (.int p3), .val (.int p4), .val (.int p5), .val (.int (Int32.ofNat n)), .val (.ref b3), .val (.ref b29), .val (.int (1 : Int32)), .val (.int (Int32.ofNat a1)), .val (.int (Int32.ofNat (1 + d1))), .val (.int (Int32.ofNat (n - d1))), .unset, .unset] [(.int ((p4 &&& (2147483647 : Int32)) % (Int32.ofNat (n - d1))))])) τ → Steps p.tables e below (s₁.setTop (entryFrame m #[(.int p0), (.long q1), (.int p2), (.int p3), (.int p4), (.int p5)] maxLocals)) τ := fun τ κ => c56 τ (by
        show Steps p.tables e below (T54.setTop (mkF m 166 #[.val (.int p0), .val (.long q1), .second, .val (.int p2), .val (.int p3), .val (.int p4), .val (.int p5), .val (.int (Int32.ofNat n)), .val (.ref b3), .val (.ref b29), .val (.int (1 : Int32)), .val (.int (Int32.ofNat a1)), .val (.int (Int32.ofNat (1 + d1))), .val (.int (Int32.ofNat (n - d1))), .unset, .unset] [(.int (Int32.ofNat (n - d1)))])) _
        refine XS.iload X54.here hx rfl (hb hby at_166) rfl ?_
        show Steps p.tables e below (T54.setTop (mkF m 168 #[.val (.int p0), .val (.long q1), .second, .val (.int p2), .val (.int p3), .val (.int p4), .val (.int p5), .val (.int (Int32.ofNat n)), .val (.ref b3), .val (.ref b29), .val (.int (1 : Int32)), .val (.int (Int32.ofNat a1)), .val (.int (Int32.ofNat (1 + d1))), .val (.int (Int32.ofNat (n - d1))), .unset, .unset] [(.int (Int32.ofNat (n - d1))), (.int (Int32.ofNat (n - d1)))])) _
        refine XS.icmpNo X54.here hx rfl (hb hby at_168) rfl (teq rfl).2 ?_
        show Steps p.tables e below (T54.setTop (mkF m 171 #[.val (.int p0), .val (.long q1), .second, .val (.int p2), .val (.int p3), .val (.int p4), .val (.int p5), .val (.int (Int32.ofNat n)), .val (.ref b3), .val (.ref b29), .val (.int (1 : Int32)), .val (.int (Int32.ofNat a1)), .val (.int (Int32.ofNat (1 + d1))), .val (.int (Int32.ofNat (n - d1))), .unset, .unset] [])) _
        refine XS.iconst X54.here hx rfl (hb hby at_171) ?_
        show Steps p.tables e below (T54.setTop (mkF m 172 #[.val (.int p0), .val (.long q1), .second, .val (.int p2), .val (.int p3), .val (.int p4), .val (.int p5), .val (.int (Int32.ofNat n)), .val (.ref b3), .val (.ref b29), .val (.int (1 : Int32)), .val (.int (Int32.ofNat a1)), .val (.int (Int32.ofNat (1 + d1))), .val (.int (Int32.ofNat (n - d1))), .unset, .unset] [(.int (1 : Int32))])) _
        refine XS.goto X54.here hx rfl (pc0 := 172) (pc' := 176) rfl (hb hby at_172) (by decide) (by decide) ?_
        show Steps p.tables e below (T54.setTop (mkF m 176 #[.val (.int p0), .val (.long q1), .second, .val (.int p2), .val (.int p3), .val (.int p4), .val (.int p5), .val (.int (Int32.ofNat n)), .val (.ref b3), .val (.ref b29), .val (.int (1 : Int32)), .val (.int (Int32.ofNat a1)), .val (.int (Int32.ofNat (1 + d1))), .val (.int (Int32.ofNat (n - d1))), .unset, .unset] [(.int (1 : Int32))])) _
        refine XS.istore X54.here hx rfl (hb hby at_176) rfl (l' := #[.val (.int p0), .val (.long q1), .second, .val (.int p2), .val (.int p3), .val (.int p4), .val (.int p5), .val (.int (Int32.ofNat n)), .val (.ref b3), .val (.ref b29), .val (.int (1 : Int32)), .val (.int (Int32.ofNat a1)), .val (.int (Int32.ofNat (1 + d1))), .val (.int (Int32.ofNat (n - d1))), .unset, .unset]) rfl ?_
        show Steps p.tables e below (T54.setTop (mkF m 178 #[.val (.int p0), .val (.long q1), .second, .val (.int p2), .val (.int p3), .val (.int p4), .val (.int p5), .val (.int (Int32.ofNat n)), .val (.ref b3), .val (.ref b29), .val (.int (1 : Int32)), .val (.int (Int32.ofNat a1)), .val (.int (Int32.ofNat (1 + d1))), .val (.int (Int32.ofNat (n - d1))), .unset, .unset] [])) _
        refine XS.iload X54.here hx rfl (hb hby at_178) rfl ?_
        show Steps p.tables e below (T54.setTop (mkF m 180 #[.val (.int p0), .val (.long q1), .second, .val (.int p2), .val (.int p3), .val (.int p4), .val (.int p5), .val (.int (Int32.ofNat n)), .val (.ref b3), .val (.ref b29), .val (.int (1 : Int32)), .val (.int (Int32.ofNat a1)), .val (.int (Int32.ofNat (1 + d1))), .val (.int (Int32.ofNat (n - d1))), .unset, .unset] [(.int p4)])) _
        refine X54.ldcInt hx hown (mvT hZ (hw _ (List.mem_of_getElem? (i := 80) rfl))) (g := (mkF m 180 #[.val (.int p0), .val (.long q1), .second, .val (.int p2), .val (.int p3), .val (.int p4), .val (.int p5), .val (.int (Int32.ofNat n)), .val (.ref b3), .val (.ref b29), .val (.int (1 : Int32)), .val (.int (Int32.ofNat a1)), .val (.int (Int32.ofNat (1 + d1))), .val (.int (Int32.ofNat (n - d1))), .unset, .unset] [(.int p4)])) rfl (hb hby at_180) _ ?_
        show Steps p.tables e below (T54.setTop (mkF m 182 #[.val (.int p0), .val (.long q1), .second, .val (.int p2), .val (.int p3), .val (.int p4), .val (.int p5), .val (.int (Int32.ofNat n)), .val (.ref b3), .val (.ref b29), .val (.int (1 : Int32)), .val (.int (Int32.ofNat a1)), .val (.int (Int32.ofNat (1 + d1))), .val (.int (Int32.ofNat (n - d1))), .unset, .unset] [(.int (2147483647 : Int32)), (.int p4)])) _
        refine XS.iand X54.here hx rfl (hb hby at_182) rfl ?_
        show Steps p.tables e below (T54.setTop (mkF m 183 #[.val (.int p0), .val (.long q1), .second, .val (.int p2), .val (.int p3), .val (.int p4), .val (.int p5), .val (.int (Int32.ofNat n)), .val (.ref b3), .val (.ref b29), .val (.int (1 : Int32)), .val (.int (Int32.ofNat a1)), .val (.int (Int32.ofNat (1 + d1))), .val (.int (Int32.ofNat (n - d1))), .unset, .unset] [(.int (p4 &&& (2147483647 : Int32)))])) _
        refine XS.iload X54.here hx rfl (hb hby at_183) rfl ?_
        show Steps p.tables e below (T54.setTop (mkF m 185 #[.val (.int p0), .val (.long q1), .second, .val (.int p2), .val (.int p3), .val (.int p4), .val (.int p5), .val (.int (Int32.ofNat n)), .val (.ref b3), .val (.ref b29), .val (.int (1 : Int32)), .val (.int (Int32.ofNat a1)), .val (.int (Int32.ofNat (1 + d1))), .val (.int (Int32.ofNat (n - d1))), .unset, .unset] [(.int (Int32.ofNat (n - d1))), (.int (p4 &&& (2147483647 : Int32)))])) _
        refine Jvm.RoadKit.iremM X54 hx rfl (hb hby at_185) rfl (own_nz (by omega) (by omega)) ?_
        exact κ)
    rw [show ((p4 &&& (2147483647 : Int32)) % (Int32.ofNat (n - d1))) = (Int32.ofNat a2) from ea2] at c57
    have c58 : ∀ τ, Steps p.tables e below (T54.setTop (mkF m 199 #[.val (.int p0), .val (.long q1), .second, .val (.int p2), .val (.int p3), .val (.int p4), .val (.int p5), .val (.int (Int32.ofNat n)), .val (.ref b3), .val (.ref b29), .val (.int (1 : Int32)), .val (.int (Int32.ofNat a1)), .val (.int (Int32.ofNat (1 + d1))), .val (.int (Int32.ofNat (n - d1))), .val (.int (Int32.ofNat a2)), .unset] [(.int ((Int32.ofNat (n - d1)) - (Int32.ofNat a2))), (.int (p5 &&& (2147483647 : Int32))), (.int (1 : Int32))])) τ → Steps p.tables e below (s₁.setTop (entryFrame m #[(.int p0), (.long q1), (.int p2), (.int p3), (.int p4), (.int p5)] maxLocals)) τ := fun τ κ => c57 τ (by
        show Steps p.tables e below (T54.setTop (mkF m 186 #[.val (.int p0), .val (.long q1), .second, .val (.int p2), .val (.int p3), .val (.int p4), .val (.int p5), .val (.int (Int32.ofNat n)), .val (.ref b3), .val (.ref b29), .val (.int (1 : Int32)), .val (.int (Int32.ofNat a1)), .val (.int (Int32.ofNat (1 + d1))), .val (.int (Int32.ofNat (n - d1))), .unset, .unset] [(.int (Int32.ofNat a2))])) _
        refine XS.istore X54.here hx rfl (hb hby at_186) rfl (l' := #[.val (.int p0), .val (.long q1), .second, .val (.int p2), .val (.int p3), .val (.int p4), .val (.int p5), .val (.int (Int32.ofNat n)), .val (.ref b3), .val (.ref b29), .val (.int (1 : Int32)), .val (.int (Int32.ofNat a1)), .val (.int (Int32.ofNat (1 + d1))), .val (.int (Int32.ofNat (n - d1))), .val (.int (Int32.ofNat a2)), .unset]) rfl ?_
        show Steps p.tables e below (T54.setTop (mkF m 188 #[.val (.int p0), .val (.long q1), .second, .val (.int p2), .val (.int p3), .val (.int p4), .val (.int p5), .val (.int (Int32.ofNat n)), .val (.ref b3), .val (.ref b29), .val (.int (1 : Int32)), .val (.int (Int32.ofNat a1)), .val (.int (Int32.ofNat (1 + d1))), .val (.int (Int32.ofNat (n - d1))), .val (.int (Int32.ofNat a2)), .unset] [])) _
        refine XS.iconst X54.here hx rfl (hb hby at_188) ?_
        show Steps p.tables e below (T54.setTop (mkF m 189 #[.val (.int p0), .val (.long q1), .second, .val (.int p2), .val (.int p3), .val (.int p4), .val (.int p5), .val (.int (Int32.ofNat n)), .val (.ref b3), .val (.ref b29), .val (.int (1 : Int32)), .val (.int (Int32.ofNat a1)), .val (.int (Int32.ofNat (1 + d1))), .val (.int (Int32.ofNat (n - d1))), .val (.int (Int32.ofNat a2)), .unset] [(.int (1 : Int32))])) _
        refine XS.iload X54.here hx rfl (hb hby at_189) rfl ?_
        show Steps p.tables e below (T54.setTop (mkF m 191 #[.val (.int p0), .val (.long q1), .second, .val (.int p2), .val (.int p3), .val (.int p4), .val (.int p5), .val (.int (Int32.ofNat n)), .val (.ref b3), .val (.ref b29), .val (.int (1 : Int32)), .val (.int (Int32.ofNat a1)), .val (.int (Int32.ofNat (1 + d1))), .val (.int (Int32.ofNat (n - d1))), .val (.int (Int32.ofNat a2)), .unset] [(.int p5), (.int (1 : Int32))])) _
        refine X54.ldcInt hx hown (mvT hZ (hw _ (List.mem_of_getElem? (i := 80) rfl))) (g := (mkF m 191 #[.val (.int p0), .val (.long q1), .second, .val (.int p2), .val (.int p3), .val (.int p4), .val (.int p5), .val (.int (Int32.ofNat n)), .val (.ref b3), .val (.ref b29), .val (.int (1 : Int32)), .val (.int (Int32.ofNat a1)), .val (.int (Int32.ofNat (1 + d1))), .val (.int (Int32.ofNat (n - d1))), .val (.int (Int32.ofNat a2)), .unset] [(.int p5), (.int (1 : Int32))])) rfl (hb hby at_191) _ ?_
        show Steps p.tables e below (T54.setTop (mkF m 193 #[.val (.int p0), .val (.long q1), .second, .val (.int p2), .val (.int p3), .val (.int p4), .val (.int p5), .val (.int (Int32.ofNat n)), .val (.ref b3), .val (.ref b29), .val (.int (1 : Int32)), .val (.int (Int32.ofNat a1)), .val (.int (Int32.ofNat (1 + d1))), .val (.int (Int32.ofNat (n - d1))), .val (.int (Int32.ofNat a2)), .unset] [(.int (2147483647 : Int32)), (.int p5), (.int (1 : Int32))])) _
        refine XS.iand X54.here hx rfl (hb hby at_193) rfl ?_
        show Steps p.tables e below (T54.setTop (mkF m 194 #[.val (.int p0), .val (.long q1), .second, .val (.int p2), .val (.int p3), .val (.int p4), .val (.int p5), .val (.int (Int32.ofNat n)), .val (.ref b3), .val (.ref b29), .val (.int (1 : Int32)), .val (.int (Int32.ofNat a1)), .val (.int (Int32.ofNat (1 + d1))), .val (.int (Int32.ofNat (n - d1))), .val (.int (Int32.ofNat a2)), .unset] [(.int (p5 &&& (2147483647 : Int32))), (.int (1 : Int32))])) _
        refine XS.iload X54.here hx rfl (hb hby at_194) rfl ?_
        show Steps p.tables e below (T54.setTop (mkF m 196 #[.val (.int p0), .val (.long q1), .second, .val (.int p2), .val (.int p3), .val (.int p4), .val (.int p5), .val (.int (Int32.ofNat n)), .val (.ref b3), .val (.ref b29), .val (.int (1 : Int32)), .val (.int (Int32.ofNat a1)), .val (.int (Int32.ofNat (1 + d1))), .val (.int (Int32.ofNat (n - d1))), .val (.int (Int32.ofNat a2)), .unset] [(.int (Int32.ofNat (n - d1))), (.int (p5 &&& (2147483647 : Int32))), (.int (1 : Int32))])) _
        refine XS.iload X54.here hx rfl (hb hby at_196) rfl ?_
        show Steps p.tables e below (T54.setTop (mkF m 198 #[.val (.int p0), .val (.long q1), .second, .val (.int p2), .val (.int p3), .val (.int p4), .val (.int p5), .val (.int (Int32.ofNat n)), .val (.ref b3), .val (.ref b29), .val (.int (1 : Int32)), .val (.int (Int32.ofNat a1)), .val (.int (Int32.ofNat (1 + d1))), .val (.int (Int32.ofNat (n - d1))), .val (.int (Int32.ofNat a2)), .unset] [(.int (Int32.ofNat a2)), (.int (Int32.ofNat (n - d1))), (.int (p5 &&& (2147483647 : Int32))), (.int (1 : Int32))])) _
        refine XS.isub X54.here hx rfl (hb hby at_198) rfl ?_
        exact κ)
    rw [show ((Int32.ofNat (n - d1)) - (Int32.ofNat a2)) = (Int32.ofNat ((n - d1) - a2)) from own_sub (by omega)] at c58
    have c59 : ∀ τ, Steps p.tables e below (T54.setTop (mkF m 200 #[.val (.int p0), .val (.long q1), .second, .val (.int p2), .val (.int p3), .val (.int p4), .val (.int p5), .val (.int (Int32.ofNat n)), .val (.ref b3), .val (.ref b29), .val (.int (1 : Int32)), .val (.int (Int32.ofNat a1)), .val (.int (Int32.ofNat (1 + d1))), .val (.int (Int32.ofNat (n - d1))), .val (.int (Int32.ofNat a2)), .unset] [(.int ((p5 &&& (2147483647 : Int32)) % (Int32.ofNat ((n - d1) - a2)))), (.int (1 : Int32))])) τ → Steps p.tables e below (s₁.setTop (entryFrame m #[(.int p0), (.long q1), (.int p2), (.int p3), (.int p4), (.int p5)] maxLocals)) τ := fun τ κ => c58 τ (by
        show Steps p.tables e below (T54.setTop (mkF m 199 #[.val (.int p0), .val (.long q1), .second, .val (.int p2), .val (.int p3), .val (.int p4), .val (.int p5), .val (.int (Int32.ofNat n)), .val (.ref b3), .val (.ref b29), .val (.int (1 : Int32)), .val (.int (Int32.ofNat a1)), .val (.int (Int32.ofNat (1 + d1))), .val (.int (Int32.ofNat (n - d1))), .val (.int (Int32.ofNat a2)), .unset] [(.int (Int32.ofNat ((n - d1) - a2))), (.int (p5 &&& (2147483647 : Int32))), (.int (1 : Int32))])) _
        refine Jvm.RoadKit.iremM X54 hx rfl (hb hby at_199) rfl (own_nz (by omega) (by omega)) ?_
        exact κ)
    rw [show ((p5 &&& (2147483647 : Int32)) % (Int32.ofNat ((n - d1) - a2))) = (Int32.ofNat d2) from ed2] at c59
    have c60 : ∀ τ, Steps p.tables e below (T54.setTop (mkF m 201 #[.val (.int p0), .val (.long q1), .second, .val (.int p2), .val (.int p3), .val (.int p4), .val (.int p5), .val (.int (Int32.ofNat n)), .val (.ref b3), .val (.ref b29), .val (.int (1 : Int32)), .val (.int (Int32.ofNat a1)), .val (.int (Int32.ofNat (1 + d1))), .val (.int (Int32.ofNat (n - d1))), .val (.int (Int32.ofNat a2)), .unset] [(.int ((1 : Int32) + (Int32.ofNat d2)))])) τ → Steps p.tables e below (s₁.setTop (entryFrame m #[(.int p0), (.long q1), (.int p2), (.int p3), (.int p4), (.int p5)] maxLocals)) τ := fun τ κ => c59 τ (by
        show Steps p.tables e below (T54.setTop (mkF m 200 #[.val (.int p0), .val (.long q1), .second, .val (.int p2), .val (.int p3), .val (.int p4), .val (.int p5), .val (.int (Int32.ofNat n)), .val (.ref b3), .val (.ref b29), .val (.int (1 : Int32)), .val (.int (Int32.ofNat a1)), .val (.int (Int32.ofNat (1 + d1))), .val (.int (Int32.ofNat (n - d1))), .val (.int (Int32.ofNat a2)), .unset] [(.int (Int32.ofNat d2)), (.int (1 : Int32))])) _
        refine XS.iadd X54.here hx rfl (hb hby at_200) rfl ?_
        exact κ)
    rw [show ((1 : Int32) + (Int32.ofNat d2)) = (Int32.ofNat (1 + d2)) from own_add 1 d2] at c60
    have c61 : ∀ τ, Steps p.tables e below (T54.setTop (mkF m 217 #[.val (.int p0), .val (.long q1), .second, .val (.int p2), .val (.int p3), .val (.int p4), .val (.int p5), .val (.int (Int32.ofNat n)), .val (.ref b3), .val (.ref b29), .val (.int (1 : Int32)), .val (.int (Int32.ofNat a1)), .val (.int (Int32.ofNat (1 + d1))), .val (.int (Int32.ofNat (n - d1))), .val (.int (Int32.ofNat a2)), .val (.int (Int32.ofNat (1 + d2)))] [(.int (((p5.toUInt32 >>> ((16 : Int32) &&& 31).toUInt32).toInt32) &&& (65535 : Int32))), (.int (Int32.ofNat (1 + d2))), (.int (Int32.ofNat a2)), (.ref b29)])) τ → Steps p.tables e below (s₁.setTop (entryFrame m #[(.int p0), (.long q1), (.int p2), (.int p3), (.int p4), (.int p5)] maxLocals)) τ := fun τ κ => c60 τ (by
        show Steps p.tables e below (T54.setTop (mkF m 201 #[.val (.int p0), .val (.long q1), .second, .val (.int p2), .val (.int p3), .val (.int p4), .val (.int p5), .val (.int (Int32.ofNat n)), .val (.ref b3), .val (.ref b29), .val (.int (1 : Int32)), .val (.int (Int32.ofNat a1)), .val (.int (Int32.ofNat (1 + d1))), .val (.int (Int32.ofNat (n - d1))), .val (.int (Int32.ofNat a2)), .unset] [(.int (Int32.ofNat (1 + d2)))])) _
        refine XS.istore X54.here hx rfl (hb hby at_201) rfl (l' := #[.val (.int p0), .val (.long q1), .second, .val (.int p2), .val (.int p3), .val (.int p4), .val (.int p5), .val (.int (Int32.ofNat n)), .val (.ref b3), .val (.ref b29), .val (.int (1 : Int32)), .val (.int (Int32.ofNat a1)), .val (.int (Int32.ofNat (1 + d1))), .val (.int (Int32.ofNat (n - d1))), .val (.int (Int32.ofNat a2)), .val (.int (Int32.ofNat (1 + d2)))]) rfl ?_
        show Steps p.tables e below (T54.setTop (mkF m 203 #[.val (.int p0), .val (.long q1), .second, .val (.int p2), .val (.int p3), .val (.int p4), .val (.int p5), .val (.int (Int32.ofNat n)), .val (.ref b3), .val (.ref b29), .val (.int (1 : Int32)), .val (.int (Int32.ofNat a1)), .val (.int (Int32.ofNat (1 + d1))), .val (.int (Int32.ofNat (n - d1))), .val (.int (Int32.ofNat a2)), .val (.int (Int32.ofNat (1 + d2)))] [])) _
        refine XS.aload X54.here hx rfl (hb hby at_203) rfl rfl ?_
        show Steps p.tables e below (T54.setTop (mkF m 205 #[.val (.int p0), .val (.long q1), .second, .val (.int p2), .val (.int p3), .val (.int p4), .val (.int p5), .val (.int (Int32.ofNat n)), .val (.ref b3), .val (.ref b29), .val (.int (1 : Int32)), .val (.int (Int32.ofNat a1)), .val (.int (Int32.ofNat (1 + d1))), .val (.int (Int32.ofNat (n - d1))), .val (.int (Int32.ofNat a2)), .val (.int (Int32.ofNat (1 + d2)))] [(.ref b29)])) _
        refine XS.iload X54.here hx rfl (hb hby at_205) rfl ?_
        show Steps p.tables e below (T54.setTop (mkF m 207 #[.val (.int p0), .val (.long q1), .second, .val (.int p2), .val (.int p3), .val (.int p4), .val (.int p5), .val (.int (Int32.ofNat n)), .val (.ref b3), .val (.ref b29), .val (.int (1 : Int32)), .val (.int (Int32.ofNat a1)), .val (.int (Int32.ofNat (1 + d1))), .val (.int (Int32.ofNat (n - d1))), .val (.int (Int32.ofNat a2)), .val (.int (Int32.ofNat (1 + d2)))] [(.int (Int32.ofNat a2)), (.ref b29)])) _
        refine XS.iload X54.here hx rfl (hb hby at_207) rfl ?_
        show Steps p.tables e below (T54.setTop (mkF m 209 #[.val (.int p0), .val (.long q1), .second, .val (.int p2), .val (.int p3), .val (.int p4), .val (.int p5), .val (.int (Int32.ofNat n)), .val (.ref b3), .val (.ref b29), .val (.int (1 : Int32)), .val (.int (Int32.ofNat a1)), .val (.int (Int32.ofNat (1 + d1))), .val (.int (Int32.ofNat (n - d1))), .val (.int (Int32.ofNat a2)), .val (.int (Int32.ofNat (1 + d2)))] [(.int (Int32.ofNat (1 + d2))), (.int (Int32.ofNat a2)), (.ref b29)])) _
        refine XS.iload X54.here hx rfl (hb hby at_209) rfl ?_
        show Steps p.tables e below (T54.setTop (mkF m 211 #[.val (.int p0), .val (.long q1), .second, .val (.int p2), .val (.int p3), .val (.int p4), .val (.int p5), .val (.int (Int32.ofNat n)), .val (.ref b3), .val (.ref b29), .val (.int (1 : Int32)), .val (.int (Int32.ofNat a1)), .val (.int (Int32.ofNat (1 + d1))), .val (.int (Int32.ofNat (n - d1))), .val (.int (Int32.ofNat a2)), .val (.int (Int32.ofNat (1 + d2)))] [(.int p5), (.int (Int32.ofNat (1 + d2))), (.int (Int32.ofNat a2)), (.ref b29)])) _
        refine XS.bipush X54.here hx rfl (hb hby at_211) ?_
        show Steps p.tables e below (T54.setTop (mkF m 213 #[.val (.int p0), .val (.long q1), .second, .val (.int p2), .val (.int p3), .val (.int p4), .val (.int p5), .val (.int (Int32.ofNat n)), .val (.ref b3), .val (.ref b29), .val (.int (1 : Int32)), .val (.int (Int32.ofNat a1)), .val (.int (Int32.ofNat (1 + d1))), .val (.int (Int32.ofNat (n - d1))), .val (.int (Int32.ofNat a2)), .val (.int (Int32.ofNat (1 + d2)))] [(.int (16 : Int32)), (.int p5), (.int (Int32.ofNat (1 + d2))), (.int (Int32.ofNat a2)), (.ref b29)])) _
        refine XS.iushr X54.here hx rfl (hb hby at_213) rfl ?_
        show Steps p.tables e below (T54.setTop (mkF m 214 #[.val (.int p0), .val (.long q1), .second, .val (.int p2), .val (.int p3), .val (.int p4), .val (.int p5), .val (.int (Int32.ofNat n)), .val (.ref b3), .val (.ref b29), .val (.int (1 : Int32)), .val (.int (Int32.ofNat a1)), .val (.int (Int32.ofNat (1 + d1))), .val (.int (Int32.ofNat (n - d1))), .val (.int (Int32.ofNat a2)), .val (.int (Int32.ofNat (1 + d2)))] [(.int ((p5.toUInt32 >>> ((16 : Int32) &&& 31).toUInt32).toInt32)), (.int (Int32.ofNat (1 + d2))), (.int (Int32.ofNat a2)), (.ref b29)])) _
        refine X54.ldcInt hx hown (mvT hZ (hw _ (List.mem_of_getElem? (i := 81) rfl))) (g := (mkF m 214 #[.val (.int p0), .val (.long q1), .second, .val (.int p2), .val (.int p3), .val (.int p4), .val (.int p5), .val (.int (Int32.ofNat n)), .val (.ref b3), .val (.ref b29), .val (.int (1 : Int32)), .val (.int (Int32.ofNat a1)), .val (.int (Int32.ofNat (1 + d1))), .val (.int (Int32.ofNat (n - d1))), .val (.int (Int32.ofNat a2)), .val (.int (Int32.ofNat (1 + d2)))] [(.int ((p5.toUInt32 >>> ((16 : Int32) &&& 31).toUInt32).toInt32)), (.int (Int32.ofNat (1 + d2))), (.int (Int32.ofNat a2)), (.ref b29)])) rfl (hb hby at_214) _ ?_
        show Steps p.tables e below (T54.setTop (mkF m 216 #[.val (.int p0), .val (.long q1), .second, .val (.int p2), .val (.int p3), .val (.int p4), .val (.int p5), .val (.int (Int32.ofNat n)), .val (.ref b3), .val (.ref b29), .val (.int (1 : Int32)), .val (.int (Int32.ofNat a1)), .val (.int (Int32.ofNat (1 + d1))), .val (.int (Int32.ofNat (n - d1))), .val (.int (Int32.ofNat a2)), .val (.int (Int32.ofNat (1 + d2)))] [(.int (65535 : Int32)), (.int ((p5.toUInt32 >>> ((16 : Int32) &&& 31).toUInt32).toInt32)), (.int (Int32.ofNat (1 + d2))), (.int (Int32.ofNat a2)), (.ref b29)])) _
        refine XS.iand X54.here hx rfl (hb hby at_216) rfl ?_
        exact κ)
    obtain ⟨y2, hy2, ey2⟩ := own_andN ((p5.toUInt32 >>> ((16 : Int32) &&& 31).toUInt32).toInt32) 65535 65535 rfl (by decide)
    rw [show (((p5.toUInt32 >>> ((16 : Int32) &&& 31).toUInt32).toInt32) &&& (65535 : Int32)) = (Int32.ofNat y2) from ey2] at c61
    have hg2 := own_gle (own_g (own_fold vs 1) (y1 / 64 + 1)) (y2 / 64 + 1)
    have hgm2 : own_g (own_g (own_fold vs 1) (y1 / 64 + 1)) (y2 / 64 + 1) ≤ 2046 := own_gmax (by omega) (by omega)
    have hgp2 := own_gap (cnt := 1 + d2) (pos := a2) (gs := gs1) (ge := ge1) (n := n) (by omega) (by omega) (by omega) (by omega)
    have f62 := (f48.keep K49q (allS gb29 (allS gg1 (allS gbs1 (allS gt0 all0)))))
    obtain ⟨cq63, kq63, q63a, q63b, q63c⟩ := isOf hZ e54 f55
    obtain ⟨_, _, ⟨T63, L63, k63, n63⟩, -, X63, ⟨Lc63, hQ63, l63, y63, z63⟩, st63⟩ := X54.virtualBack hx (y := (⟨"com/example/tapeline/tapeline/OpenTypeLayout$GlyphRun", "replace", "(III)V"⟩ : MethodName)) (z := (⟨"com/example/tapeline/tapeline/OpenTypeLayout$GlyphRun", "replace", "(III)V"⟩ : MethodName)) hown (mvT hZ (hw _ (List.mem_of_getElem? (i := 82) rfl))) (mvT hZ (hw _ (List.mem_of_getElem? (i := 83) rfl))) (notFace_of_selects (args := #[]) (mvT hZ (hw _ (List.mem_of_getElem? (i := 85) rfl)))) (mvT hZ (hw _ (List.mem_of_getElem? (i := 85) rfl))) (mvT hZ (hw _ (List.mem_of_getElem? (i := 84) rfl))) (by decide) (backOf (W := 0) (rm12 l Z a0 hw [] b29 gl bs t1 k3 n gs1 ge1 u1 (own_g (own_fold vs 1) (y1 / 64 + 1)) a2 (1 + d2) y2 T49.heap n0 Z49 R1 (by omega) (by omega) hn (by omega) (by omega) hy2 SA f62) hZ (hw _ (List.mem_of_getElem? (i := 86) rfl)) (hw _ (List.mem_of_getElem? (i := 7) rfl)) (Nat.le_of_ble_eq_true rfl) (Nat.le_of_ble_eq_true rfl)) q63a q63c (g := (mkF m 217 #[.val (.int p0), .val (.long q1), .second, .val (.int p2), .val (.int p3), .val (.int p4), .val (.int p5), .val (.int (Int32.ofNat n)), .val (.ref b3), .val (.ref b29), .val (.int (1 : Int32)), .val (.int (Int32.ofNat a1)), .val (.int (Int32.ofNat (1 + d1))), .val (.int (Int32.ofNat (n - d1))), .val (.int (Int32.ofNat a2)), .val (.int (Int32.ofNat (1 + d2)))] [(.int (Int32.ofNat y2)), (.int (Int32.ofNat (1 + d2))), (.int (Int32.ofNat a2)), (.ref b29)])) rfl (by rw [hml]; rfl) (Steps.refl _) (argsL := [(.int (Int32.ofNat a2)), (.int (Int32.ofNat (1 + d2))), (.int (Int32.ofNat y2))]) (rest := []) (lenOf pd_6 rfl) rfl (by show 2 * 0 + _ ≤ _; exact Nat.le_of_eq rfl) (hb hby at_217) (fun _ _ => ⟨rfl, e54, (by show ((5 + n) + 1) + 1 ≤ 32; omega), (by show ((23 + 2 * (own_fold vs 1 - 1)) + 2 * (own_g (own_fold vs 1) (y1 / 64 + 1) - own_fold vs 1)) + 2 * (own_g (own_g (own_fold vs 1) (y1 / 64 + 1)) (y2 / 64 + 1) - own_g (own_fold vs 1) (y1 / 64 + 1)) ≤ 7168; omega)⟩)
    dsimp only [Pt.U, Pt.locs, Pt.cells, Pt.slots] at X63 l63 y63 z63 st63 hQ63
    rw [y63, z63] at X63
    obtain ⟨rfl, N63q, t2, u2, K63q, R2⟩ := hQ63
    have N63 : Fr n0 L63 := by rw [l63]; exact Fr.app N54 N63q
    replace X63 := X63.more (cells' := (((5 + n) + 1) + 1)) (slots' := (((23 + 2 * (own_fold vs 1 - 1)) + 2 * (own_g (own_fold vs 1) (y1 / 64 + 1) - own_fold vs 1)) + 2 * (own_g (own_g (own_fold vs 1) (y1 / 64 + 1)) (y2 / 64 + 1) - own_g (own_fold vs 1) (y1 / 64 + 1)))) (Nat.le_refl _) (Nat.le_refl _)
    replace X63 : Stand p l e _ s m _ below meth c T63 L63 (((5 + n) + 1) + 1) (((23 + 2 * (own_fold vs 1 - 1)) + 2 * (own_g (own_fold vs 1) (y1 / 64 + 1) - own_fold vs 1)) + 2 * (own_g (own_g (own_fold vs 1) (y1 / 64 + 1)) (y2 / 64 + 1) - own_g (own_fold vs 1) (y1 / 64 + 1))) := X63
    clear l63 y63 z63
    have Z63 : n0 ≤ T63.heap.size := Nat.le_trans Z49 K63q.1
    have c64 : ∀ τ, Steps p.tables e below (T63.setTop (mkF m 220 #[.val (.int p0), .val (.long q1), .second, .val (.int p2), .val (.int p3), .val (.int p4), .val (.int p5), .val (.int (Int32.ofNat n)), .val (.ref b3), .val (.ref b29), .val (.int (1 : Int32)), .val (.int (Int32.ofNat a1)), .val (.int (Int32.ofNat (1 + d1))), .val (.int (Int32.ofNat (n - d1))), .val (.int (Int32.ofNat a2)), .val (.int (Int32.ofNat (1 + d2)))] [])) τ → Steps p.tables e below (s₁.setTop (entryFrame m #[(.int p0), (.long q1), (.int p2), (.int p3), (.int p4), (.int p5)] maxLocals)) τ := fun τ κ => c61 τ (st63.trans κ)
    obtain ⟨gs2, egs2⟩ : ∃ z, z = own_e (1 + d2) (a2 + 1) gs1 := ⟨_, rfl⟩
    obtain ⟨ge2, ege2⟩ : ∃ z, z = own_e (1 + d2) (a2 + (1 + d2) + (ge1 - gs1)) ge1 := ⟨_, rfl⟩
    rw [← egs2, ← ege2] at hgp2 R2
    obtain ⟨Er2, Fg2, Fa2, Fb2, Fh2, ⟨vg2, FV2, hvg2⟩, B2, gr2, gg2⟩ := id R2
    obtain ⟨-, -, -, -, -, -, -, -, gbs2, gt2⟩ := B2
    have c65 : ∀ τ, Steps p.tables e below (T63.setTop (mkF m 227 #[.val (.int p0), .val (.long q1), .second, .val (.int p2), .val (.int p3), .val (.int p4), .val (.int p5), .val (.int (Int32.ofNat n)), .val (.ref b3), .val (.ref b29), .val (.int (1 : Int32)), .val (.int (Int32.ofNat a1)), .val (.int (Int32.ofNat (1 + d1))), .val (.int (Int32.ofNat (n - d1))), .val (.int (Int32.ofNat a2)), .val (.int (Int32.ofNat (1 + d2)))] [(.ref b29)])) τ → Steps p.tables e below (s₁.setTop (entryFrame m #[(.int p0), (.long q1), (.int p2), (.int p3), (.int p4), (.int p5)] maxLocals)) τ := fun τ κ => c64 τ (by
        show Steps p.tables e below (T63.setTop (mkF m 220 #[.val (.int p0), .val (.long q1), .second, .val (.int p2), .val (.int p3), .val (.int p4), .val (.int p5), .val (.int (Int32.ofNat n)), .val (.ref b3), .val (.ref b29), .val (.int (1 : Int32)), .val (.int (Int32.ofNat a1)), .val (.int (Int32.ofNat (1 + d1))), .val (.int (Int32.ofNat (n - d1))), .val (.int (Int32.ofNat a2)), .val (.int (Int32.ofNat (1 + d2)))] [])) _
        refine XS.iload X63.here hx rfl (hb hby at_220) rfl ?_
        show Steps p.tables e below (T63.setTop (mkF m 222 #[.val (.int p0), .val (.long q1), .second, .val (.int p2), .val (.int p3), .val (.int p4), .val (.int p5), .val (.int (Int32.ofNat n)), .val (.ref b3), .val (.ref b29), .val (.int (1 : Int32)), .val (.int (Int32.ofNat a1)), .val (.int (Int32.ofNat (1 + d1))), .val (.int (Int32.ofNat (n - d1))), .val (.int (Int32.ofNat a2)), .val (.int (Int32.ofNat (1 + d2)))] [(.int (1 : Int32))])) _
        refine XS.ifNo X63.here hx rfl (hb hby at_222) rfl ((if0 _ _).trans (feq (by decide)).1) ?_
        show Steps p.tables e below (T63.setTop (mkF m 225 #[.val (.int p0), .val (.long q1), .second, .val (.int p2), .val (.int p3), .val (.int p4), .val (.int p5), .val (.int (Int32.ofNat n)), .val (.ref b3), .val (.ref b29), .val (.int (1 : Int32)), .val (.int (Int32.ofNat a1)), .val (.int (Int32.ofNat (1 + d1))), .val (.int (Int32.ofNat (n - d1))), .val (.int (Int32.ofNat a2)), .val (.int (Int32.ofNat (1 + d2)))] [])) _
        refine XS.aload X63.here hx rfl (hb hby at_225) rfl rfl ?_
        exact κ)
    have f67 := (f55.keep K63q)
    obtain ⟨cq66, kq66, q66a, q66b, q66c⟩ := isOf hZ rfl f67
    obtain ⟨_, _, ⟨T66, L66, k66, n66⟩, -, X66, ⟨Lc66, hQ66, l66, y66, z66⟩, st66⟩ := X63.virtualBack hx (y := (⟨"com/example/tapeline/tapeline/OpenTypeLayout$GlyphRun", "length", "()I"⟩ : MethodName)) (z := (⟨"com/example/tapeline/tapeline/OpenTypeLayout$GlyphRun", "length", "()I"⟩ : MethodName)) hown (mvT hZ (hw _ (List.mem_of_getElem? (i := 53) rfl))) (mvT hZ (hw _ (List.mem_of_getElem? (i := 54) rfl))) (notFace_of_selects (args := #[]) (mvT hZ (hw _ (List.mem_of_getElem? (i := 56) rfl)))) (mvT hZ (hw _ (List.mem_of_getElem? (i := 56) rfl))) (mvT hZ (hw _ (List.mem_of_getElem? (i := 55) rfl))) (by decide) (backOf (W := 0) (rm7 l Z a0 hw [] b29 gl k3 vg2 n gs2 ge2 T63.heap n0 Z63 Fg2 Fa2 Fb2 FV2) hZ (hw _ (List.mem_of_getElem? (i := 57) rfl)) (hw _ (List.mem_of_getElem? (i := 7) rfl)) (Nat.le_of_ble_eq_true rfl) (Nat.le_of_ble_eq_true rfl)) q66a q66c (g := (mkF m 227 #[.val (.int p0), .val (.long q1), .second, .val (.int p2), .val (.int p3), .val (.int p4), .val (.int p5), .val (.int (Int32.ofNat n)), .val (.ref b3), .val (.ref b29), .val (.int (1 : Int32)), .val (.int (Int32.ofNat a1)), .val (.int (Int32.ofNat (1 + d1))), .val (.int (Int32.ofNat (n - d1))), .val (.int (Int32.ofNat a2)), .val (.int (Int32.ofNat (1 + d2)))] [(.ref b29)])) rfl (by rw [hml]; rfl) (Steps.refl _) (argsL := []) (rest := []) (lenOf pd_0 rfl) rfl (by show 2 * 0 + _ ≤ _; exact Nat.le_of_eq rfl) (hb hby at_227) (fun _ _ => ⟨rfl, rfl, (by show (((5 + n) + 1) + 1) + 0 ≤ 32; omega), (by show (((23 + 2 * (own_fold vs 1 - 1)) + 2 * (own_g (own_fold vs 1) (y1 / 64 + 1) - own_fold vs 1)) + 2 * (own_g (own_g (own_fold vs 1) (y1 / 64 + 1)) (y2 / 64 + 1) - own_g (own_fold vs 1) (y1 / 64 + 1))) + 0 ≤ 7168; omega)⟩)
    dsimp only [Pt.U, Pt.locs, Pt.cells, Pt.slots] at X66 l66 y66 z66 st66 hQ66
    rw [y66, z66] at X66
    obtain ⟨rfl, N66q, e66⟩ := hQ66
    have N66 : Fr n0 L66 := by rw [l66]; exact Fr.app N63 N66q
    replace X66 := X66.more (cells' := (((5 + n) + 1) + 1)) (slots' := (((23 + 2 * (own_fold vs 1 - 1)) + 2 * (own_g (own_fold vs 1) (y1 / 64 + 1) - own_fold vs 1)) + 2 * (own_g (own_g (own_fold vs 1) (y1 / 64 + 1)) (y2 / 64 + 1) - own_g (own_fold vs 1) (y1 / 64 + 1)))) (Nat.le_refl _) (Nat.le_refl _)
    replace X66 : Stand p l e _ s m _ below meth c T66 L66 (((5 + n) + 1) + 1) (((23 + 2 * (own_fold vs 1 - 1)) + 2 * (own_g (own_fold vs 1) (y1 / 64 + 1) - own_fold vs 1)) + 2 * (own_g (own_g (own_fold vs 1) (y1 / 64 + 1)) (y2 / 64 + 1) - own_g (own_fold vs 1) (y1 / 64 + 1))) := X66
    clear l66 y66 z66
    have c68 : ∀ τ, Steps p.tables e below (T66.setTop (mkF m 230 #[.val (.int p0), .val (.long q1), .second, .val (.int p2), .val (.int p3), .val (.int p4), .val (.int p5), .val (.int (Int32.ofNat n)), .val (.ref b3), .val (.ref b29), .val (.int (1 : Int32)), .val (.int (Int32.ofNat a1)), .val (.int (Int32.ofNat (1 + d1))), .val (.int (Int32.ofNat (n - d1))), .val (.int (Int32.ofNat a2)), .val (.int (Int32.ofNat (1 + d2)))] [(.int ((Int32.ofNat n) - ((Int32.ofNat ge2) - (Int32.ofNat gs2))))])) τ → Steps p.tables e below (s₁.setTop (entryFrame m #[(.int p0), (.long q1), (.int p2), (.int p3), (.int p4), (.int p5)] maxLocals)) τ := fun τ κ => c65 τ (st66.trans κ)
    rw [show ((Int32.ofNat n) - ((Int32.ofNat ge2) - (Int32.ofNat gs2))) = (Int32.ofNat (n - d1 - d2)) from own_len (by omega) (by omega) (by omega)] at c68
    have c69 : ∀ τ, Steps p.tables e below (T66.setTop (mkF m 236 #[.val (.int p0), .val (.long q1), .second, .val (.int p2), .val (.int p3), .val (.int p4), .val (.int p5), .val (.int (Int32.ofNat n)), .val (.ref b3), .val (.ref b29), .val (.int (1 : Int32)), .val (.int (Int32.ofNat a1)), .val (.int (Int32.ofNat (1 + d1))), .val (.int (Int32.ofNat (n - d1))), .val (.int (Int32.ofNat a2)), .val (.int (Int32.ofNat (1 + d2)))] [(.int ((Int32.ofNat (1 + d2)) - (1 : Int32))), (.int (Int32.ofNat (n - d1))), (.int (Int32.ofNat (n - d1 - d2)))])) τ → Steps p.tables e below (s₁.setTop (entryFrame m #[(.int p0), (.long q1), (.int p2), (.int p3), (.int p4), (.int p5)] maxLocals)) τ := fun τ κ => c68 τ (by
        show Steps p.tables e below (T66.setTop (mkF m 230 #[.val (.int p0), .val (.long q1), .second, .val (.int p2), .val (.int p3), .val (.int p4), .val (.int p5), .val (.int (Int32.ofNat n)), .val (.ref b3), .val (.ref b29), .val (.int (1 : Int32)), .val (.int (Int32.ofNat a1)), .val (.int (Int32.ofNat (1 + d1))), .val (.int (Int32.ofNat (n - d1))), .val (.int (Int32.ofNat a2)), .val (.int (Int32.ofNat (1 + d2)))] [(.int (Int32.ofNat (n - d1 - d2)))])) _
        refine XS.iload X66.here hx rfl (hb hby at_230) rfl ?_
        show Steps p.tables e below (T66.setTop (mkF m 232 #[.val (.int p0), .val (.long q1), .second, .val (.int p2), .val (.int p3), .val (.int p4), .val (.int p5), .val (.int (Int32.ofNat n)), .val (.ref b3), .val (.ref b29), .val (.int (1 : Int32)), .val (.int (Int32.ofNat a1)), .val (.int (Int32.ofNat (1 + d1))), .val (.int (Int32.ofNat (n - d1))), .val (.int (Int32.ofNat a2)), .val (.int (Int32.ofNat (1 + d2)))] [(.int (Int32.ofNat (n - d1))), (.int (Int32.ofNat (n - d1 - d2)))])) _
        refine XS.iload X66.here hx rfl (hb hby at_232) rfl ?_
        show Steps p.tables e below (T66.setTop (mkF m 234 #[.val (.int p0), .val (.long q1), .second, .val (.int p2), .val (.int p3), .val (.int p4), .val (.int p5), .val (.int (Int32.ofNat n)), .val (.ref b3), .val (.ref b29), .val (.int (1 : Int32)), .val (.int (Int32.ofNat a1)), .val (.int (Int32.ofNat (1 + d1))), .val (.int (Int32.ofNat (n - d1))), .val (.int (Int32.ofNat a2)), .val (.int (Int32.ofNat (1 + d2)))] [(.int (Int32.ofNat (1 + d2))), (.int (Int32.ofNat (n - d1))), (.int (Int32.ofNat (n - d1 - d2)))])) _
        refine XS.iconst X66.here hx rfl (hb hby at_234) ?_
        show Steps p.tables e below (T66.setTop (mkF m 235 #[.val (.int p0), .val (.long q1), .second, .val (.int p2), .val (.int p3), .val (.int p4), .val (.int p5), .val (.int (Int32.ofNat n)), .val (.ref b3), .val (.ref b29), .val (.int (1 : Int32)), .val (.int (Int32.ofNat a1)), .val (.int (Int32.ofNat (1 + d1))), .val (.int (Int32.ofNat (n - d1))), .val (.int (Int32.ofNat a2)), .val (.int (Int32.ofNat (1 + d2)))] [(.int (1 : Int32)), (.int (Int32.ofNat (1 + d2))), (.int (Int32.ofNat (n - d1))), (.int (Int32.ofNat (n - d1 - d2)))])) _
        refine XS.isub X66.here hx rfl (hb hby at_235) rfl ?_
        exact κ)
    rw [show ((Int32.ofNat (1 + d2)) - (1 : Int32)) = (Int32.ofNat d2) from (own_sub (b := 1) (by omega)).trans (congrArg Int32.ofNat (by omega))] at c69
    have c70 : ∀ τ, Steps p.tables e below (T66.setTop (mkF m 237 #[.val (.int p0), .val (.long q1), .second, .val (.int p2), .val (.int p3), .val (.int p4), .val (.int p5), .val (.int (Int32.ofNat n)), .val (.ref b3), .val (.ref b29), .val (.int (1 : Int32)), .val (.int (Int32.ofNat a1)), .val (.int (Int32.ofNat (1 + d1))), .val (.int (Int32.ofNat (n - d1))), .val (.int (Int32.ofNat a2)), .val (.int (Int32.ofNat (1 + d2)))] [(.int ((Int32.ofNat (n - d1)) - (Int32.ofNat d2))), (.int (Int32.ofNat (n - d1 - d2)))])) τ → Steps p.tables e below (s₁.setTop (entryFrame m #[(.int p0), (.long q1), (.int p2), (.int p3), (.int p4), (.int p5)] maxLocals)) τ := fun τ κ => c69 τ (by
        show Steps p.tables e below (T66.setTop (mkF m 236 #[.val (.int p0), .val (.long q1), .second, .val (.int p2), .val (.int p3), .val (.int p4), .val (.int p5), .val (.int (Int32.ofNat n)), .val (.ref b3), .val (.ref b29), .val (.int (1 : Int32)), .val (.int (Int32.ofNat a1)), .val (.int (Int32.ofNat (1 + d1))), .val (.int (Int32.ofNat (n - d1))), .val (.int (Int32.ofNat a2)), .val (.int (Int32.ofNat (1 + d2)))] [(.int (Int32.ofNat d2)), (.int (Int32.ofNat (n - d1))), (.int (Int32.ofNat (n - d1 - d2)))])) _
        refine XS.isub X66.here hx rfl (hb hby at_236) rfl ?_
        exact κ)
    rw [show ((Int32.ofNat (n - d1)) - (Int32.ofNat d2)) = (Int32.ofNat (n - d1 - d2)) from own_sub (by omega)] at c70
    have c71 : ∀ τ, Steps p.tables e below (T66.setTop (mkF m 249 #[.val (.int p0), .val (.long q1), .second, .val (.int p2), .val (.int p3), .val (.int p4), .val (.int p5), .val (.int (Int32.ofNat n)), .val (.ref b3), .val (.ref b29), .val (.int (1 : Int32)), .val (.int (Int32.ofNat a1)), .val (.int (Int32.ofNat (1 + d1))), .val (.int (Int32.ofNat (n - d1))), .val (.int (Int32.ofNat a2)), .val (.int (Int32.ofNat (1 + d2)))] [(.int (1 : Int32))])) τ → Steps p.tables e below (s₁.setTop (entryFrame m #[(.int p0), (.long q1), (.int p2), (.int p3), (.int p4), (.int p5)] maxLocals)) τ := fun τ κ => c70 τ (by
        show Steps p.tables e below (T66.setTop (mkF m 237 #[.val (.int p0), .val (.long q1), .second, .val (.int p2), .val (.int p3), .val (.int p4), .val (.int p5), .val (.int (Int32.ofNat n)), .val (.ref b3), .val (.ref b29), .val (.int (1 : Int32)), .val (.int (Int32.ofNat a1)), .val (.int (Int32.ofNat (1 + d1))), .val (.int (Int32.ofNat (n - d1))), .val (.int (Int32.ofNat a2)), .val (.int (Int32.ofNat (1 + d2)))] [(.int (Int32.ofNat (n - d1 - d2))), (.int (Int32.ofNat (n - d1 - d2)))])) _
        refine XS.icmpNo X66.here hx rfl (hb hby at_237) rfl (teq rfl).2 ?_
        show Steps p.tables e below (T66.setTop (mkF m 240 #[.val (.int p0), .val (.long q1), .second, .val (.int p2), .val (.int p3), .val (.int p4), .val (.int p5), .val (.int (Int32.ofNat n)), .val (.ref b3), .val (.ref b29), .val (.int (1 : Int32)), .val (.int (Int32.ofNat a1)), .val (.int (Int32.ofNat (1 + d1))), .val (.int (Int32.ofNat (n - d1))), .val (.int (Int32.ofNat a2)), .val (.int (Int32.ofNat (1 + d2)))] [])) _
        refine XS.iconst X66.here hx rfl (hb hby at_240) ?_
        show Steps p.tables e below (T66.setTop (mkF m 241 #[.val (.int p0), .val (.long q1), .second, .val (.int p2), .val (.int p3), .val (.int p4), .val (.int p5), .val (.int (Int32.ofNat n)), .val (.ref b3), .val (.ref b29), .val (.int (1 : Int32)), .val (.int (Int32.ofNat a1)), .val (.int (Int32.ofNat (1 + d1))), .val (.int (Int32.ofNat (n - d1))), .val (.int (Int32.ofNat a2)), .val (.int (Int32.ofNat (1 + d2)))] [(.int (1 : Int32))])) _
        refine XS.goto X66.here hx rfl (pc0 := 241) (pc' := 245) rfl (hb hby at_241) (by decide) (by decide) ?_
        show Steps p.tables e below (T66.setTop (mkF m 245 #[.val (.int p0), .val (.long q1), .second, .val (.int p2), .val (.int p3), .val (.int p4), .val (.int p5), .val (.int (Int32.ofNat n)), .val (.ref b3), .val (.ref b29), .val (.int (1 : Int32)), .val (.int (Int32.ofNat a1)), .val (.int (Int32.ofNat (1 + d1))), .val (.int (Int32.ofNat (n - d1))), .val (.int (Int32.ofNat a2)), .val (.int (Int32.ofNat (1 + d2)))] [(.int (1 : Int32))])) _
        refine XS.istore X66.here hx rfl (hb hby at_245) rfl (l' := #[.val (.int p0), .val (.long q1), .second, .val (.int p2), .val (.int p3), .val (.int p4), .val (.int p5), .val (.int (Int32.ofNat n)), .val (.ref b3), .val (.ref b29), .val (.int (1 : Int32)), .val (.int (Int32.ofNat a1)), .val (.int (Int32.ofNat (1 + d1))), .val (.int (Int32.ofNat (n - d1))), .val (.int (Int32.ofNat a2)), .val (.int (Int32.ofNat (1 + d2)))]) rfl ?_
        show Steps p.tables e below (T66.setTop (mkF m 247 #[.val (.int p0), .val (.long q1), .second, .val (.int p2), .val (.int p3), .val (.int p4), .val (.int p5), .val (.int (Int32.ofNat n)), .val (.ref b3), .val (.ref b29), .val (.int (1 : Int32)), .val (.int (Int32.ofNat a1)), .val (.int (Int32.ofNat (1 + d1))), .val (.int (Int32.ofNat (n - d1))), .val (.int (Int32.ofNat a2)), .val (.int (Int32.ofNat (1 + d2)))] [])) _
        refine XS.iload X66.here hx rfl (hb hby at_247) rfl ?_
        exact κ)
    obtain ⟨fs, hr, hrun, hended, hW, hsame⟩ := X66.leave (v := some (.int (1 : Int32))) (fun h => by rw [Bd.returns] at h; cases h)
    refine ⟨_, _, c71 _ (retN X66 hx (t := .boolean) Bd.returns (by simp) (hb hby at_249) hr), hrun, hended, _, _, rfl, ?_, ⟨_, rfl⟩, hW, hsame.mono (by show (((5 + n) + 1) + 1) ≤ 32; omega) (by show (((23 + 2 * (own_fold vs 1 - 1)) + 2 * (own_g (own_fold vs 1) (y1 / 64 + 1) - own_fold vs 1)) + 2 * (own_g (own_g (own_fold vs 1) (y1 / 64 + 1)) (y2 / 64 + 1) - own_g (own_fold vs 1) (y1 / 64 + 1))) ≤ 7168; omega)⟩
    show Q_rm0 Z p0 q1 p2 p3 p4 p5 h0 n0 _ T66.heap _
    rw [e66]
    exact ⟨rfl, N66⟩
set_option maxRecDepth 65536 in
set_option maxHeartbeats 40000000 in
theorem comes_1 {Post : Tables → Env → Array Value → State → Outcome → State → Prop} (hpost : ∀ tb e args s v u, (limb_1_1.after args s (.returned v) u = true ∧ limb_1_2.after args s (.returned v) u = true ∧ True) → FrameEnd s (.returned v) u (Jvm.fieldLocs frame_1_writes args s ++ Jvm.arrayLocs frame_1_arrays args s ++ Jvm.staticLocs frame_1_statics s) 32 7168 → Post tb e args s (.returned v) u) :
    ArmFor flags0 classFile x code maxLocals ret World_1 tables_1 room_1 Calls_1 rest_1 Pre_1 Post := by
  intro l hfl _ _ p e ha hc hk s m args below hf hA hF happ hP
  obtain ⟨hcalls, hrest, hpre⟩ := hP
  obtain ⟨-, -, -, hnamed, -, -, -, hat⟩ := (Spec.applies_iff hf).mp happ
  obtain ⟨hg, hn⟩ := and_e (Cond.before_iff.mp (show (Jvm.Cond.and given_1 narrow_1).before args s = true from hpre))
  obtain ⟨g1, g2⟩ := and_e hg
  obtain ⟨g3, g4⟩ := and_e g2
  obtain ⟨g5, g6⟩ := and_e g4
  obtain ⟨g7, g8⟩ := and_e g6
  obtain ⟨g9, g10⟩ := and_e g8
  obtain ⟨g11, g12⟩ := and_e g10
  obtain ⟨w0, w1, w2, w3, w4, w5, rfl⟩ : ∃ w0 w1 w2 w3 w4 w5 : Value, args = #[w0, w1, w2, w3, w4, w5] := by
    have hs : args.size = 6 := by simpa [Cond.value, given_1] using g1
    obtain ⟨L⟩ := args
    match L, hs with
    | [w0, w1, w2, w3, w4, w5], _ => exact ⟨w0, w1, w2, w3, w4, w5, rfl⟩
  have hw := fun d (hd : d ∈ tables_1) => atoms_spec (ws := Jvm.Cond.code x code maxLocals ret :: tables_1) hat d (List.mem_cons_of_mem _ hd)
  have hfit : Fit s := fun {y c} hc i hi => by
    obtain ⟨ha, rfl⟩ := Array.getElem?_eq_some_iff.mp hc
    have q := List.all_eq_true.mp ((Array.all_eq_true_iff_forall_mem.mp hF) _ (Array.getElem_mem ha)) i (List.mem_range.mpr hi)
    simpa [Array.getElem?_eq_getElem hi] using q
  obtain ⟨hsets, hown0⟩ := atoms_of _ (rest_1_c_eq ▸ (show rest_1_c.before _ s = true from hrest))
  have hr0 := Cond.before_iff.mp hown0
  obtain ⟨i0, ei0⟩ := is_v g3
  obtain rfl : w0 = (.int i0) := Option.some.inj ei0
  obtain ⟨i1, ei1⟩ := isL_v g5
  obtain rfl : w1 = (.long i1) := Option.some.inj ei1
  obtain ⟨i2, ei2⟩ := is_v g7
  obtain rfl : w2 = (.int i2) := Option.some.inj ei2
  obtain ⟨i3, ei3⟩ := is_v g9
  obtain rfl : w3 = (.int i3) := Option.some.inj ei3
  obtain ⟨i4, ei4⟩ := is_v g11
  obtain rfl : w4 = (.int i4) := Option.some.inj ei4
  obtain ⟨i5, ei5⟩ := is_v g12
  obtain rfl : w5 = (.int i5) := Option.some.inj ei5
  have S8 : Sta s s.heap "java/util/BitSet" "$assertionsDisabled" "Z" (.int (1 : Int32)) := Sta.start (eqv_i (Term.int_eval (1)) (Cond.before_iff.mp (hsets _ (List.mem_of_getElem? (i := 2) rfl)))) (Or.inl (hsets _ (List.mem_of_getElem? (i := 1) rfl)))
  obtain ⟨n, o, h1, h2, h3, _, L, rfl, ⟨rfl, N⟩, hq⟩ := rm0 l s _ hw tables_1 i0 i1 i2 i3 i4 i5  s.heap s.heap.size (Nat.le_refl _) S8 (Old.start s) p e ha hc hk s m _ below hf ((Spec.applies_iff_loose hf).mp happ).1 ⟨rfl, State.Warmed39.refl s, rfl⟩ trivial
  refine ⟨n, _, h1, h2, h3, hpost _ _ _ _ _ _ ⟨Cond.after_iff.mpr rfl, Cond.after_iff.mpr (eq_i res_at (Term.int_eval (1)) rfl), trivial⟩ ⟨hq.1, hq.2.1, (hq.2.2.sift fun y hy => Or.inr (N y hy)).mono (by decide) (by decide)⟩⟩
theorem main_1_1 : Claimed_1_1 := comes_1 fun _ _ _ _ _ _ h hF => ⟨h.1, hF⟩
theorem main_1_2 : Claimed_1_2 := comes_1 fun _ _ _ _ _ _ h hF => ⟨h.2.1, hF⟩
end Jvm.Pilot.@@N@@
namespace Jvm.Pilot.@@N@@
open Jvm Jvm.ClassFile Sem Op Lib Jvm.Free Jvm.Stand Jvm.Pilot.@@N@@.Jvm.D
/-! MADE BY PROGRAM (witnessworld.py) out of the Statement's table words and the real class files: 15 classes; the members and pool entries that the words name. The judged class is class 1, her method 2. -/
namespace start1
open Jvm.ClassFile
def u (s : String) : CpInfo := .utf8 (stringToUtf16 s)
/-- a pool by its gaps: so many unusable entries, then the entry; so many at the end -/
def gap : Nat → List CpInfo → List CpInfo
  | 0, r => r
  | n + 1, r => .unusable :: gap n r
def poolList (es : List (Nat × CpInfo)) (last : Nat) : List CpInfo := es.foldr (fun e r => gap e.1 (e.2 :: r)) (gap last [])
def pool (es : List (Nat × CpInfo)) (last : Nat) : Array CpInfo := ⟨poolList es last⟩
def fileOf (pool : Array CpInfo) (this : Nat) (attrs : Array Attribute := #[]) (ms : Array MethodInfo := #[]) (fl : Nat := 33) (sup : Nat := 0) (ifs : Array Nat := #[]) (fds : Array FieldInfo := #[]) : ClassFile where
  minorVersion := 0
  majorVersion := 65
  constantPool := pool
  accessFlags := fl
  thisClass := this
  superClass := sup
  interfaces := ifs
  fields := fds
  methods := ms
  attributes := attrs
def plain (name : String) (sup : Option ClassId) : Class where
  name := name
  kind := .ordinary
  loader := none
  accessFlags := 33
  super := sup
  interfaces := #[]
  cf := none
  fields := #[]
  methods := #[]
  instanceTypes := #[]
  staticTypes := #[]
  resolved := #[]
  callSites := []
  init := .initialized
  statics := none
  mirror := none

def pool0 : Array CpInfo := pool [(5, u "<init>"), (0, u "()V"), (1, .class_ 10), (1, u "java/lang/Object"), (85, u "clone"), (0, u "()Ljava/lang/Object;")] 26

def k0c0 : Code := { maxStack := 0, maxLocals := 1, code := object_method_1_code, exceptionTable := #[], attributes := #[] }
def k0m0 : Method := { name := "<init>", desc := "()V", sig := { parameters := [], returnType := none }, accessFlags := 1, code := some k0c0 }
def k0m1 : Method := { name := "clone", desc := "()Ljava/lang/Object;", sig := { parameters := [], returnType := some (.object "java/lang/Object") }, accessFlags := 260, code := none }
/-- java/lang/Object -/
def k0 : Class := { plain "java/lang/Object" none with
  accessFlags := 33
  interfaces := #[]
  cf := some (fileOf pool0 8 #[] #[{ accessFlags := 1, nameIndex := 5, descriptorIndex := 6, attributes := #[] }, { accessFlags := 260, nameIndex := 96, descriptorIndex := 97, attributes := #[] }] 33 0 #[] #[])
  fields := #[]
  methods := #[k0m0, k0m1]
  instanceTypes := #[]
  staticTypes := #[]
  resolved := Array.replicate 124 none
  statics := none }

def pool1 : Array CpInfo := pool [(2, .class_ 4), (1, u "java/lang/Object"), (0, u "<init>"), (0, u "()V"), (0, .long 65535), (1, .methodref 10 11), (0, .class_ 12), (0, .nameAndType 13 14), (0, u "com/example/tapeline/tapeline/GlyphRunLengthPinLaw"), (0, u "fill"), (0, u "([IIJ)V"), (0, .class_ 16), (0, u "com/example/tapeline/tapeline/OpenTypeLayout$GlyphRun"), (0, .methodref 15 18), (0, .nameAndType 5 19), (0, u "([I)V"), (0, .methodref 15 21), (0, .nameAndType 22 23), (0, u "length"), (0, u "()I"), (0, .integer 2147483647), (0, .integer 65535), (0, .methodref 15 27), (0, .nameAndType 28 29), (0, u "replace"), (0, u "(III)V"), (3, u "law"), (0, u "(IJIIII)Z")] 8

def k1m0 : Method := { name := "<init>", desc := "()V", sig := { parameters := [], returnType := none }, accessFlags := 1, code := none }
def k1c1 : Code := { maxStack := 6, maxLocals := 4, code := method_2_code, exceptionTable := #[], attributes := #[] }
def k1m1 : Method := { name := "fill", desc := "([IIJ)V", sig := { parameters := [(.array .int), .int, .long], returnType := none }, accessFlags := 10, code := some k1c1 }
def k1c2 : Code := { maxStack := 5, maxLocals := 16, code := code, exceptionTable := #[], attributes := #[] }
def k1m2 : Method := { name := "law", desc := "(IJIIII)Z", sig := { parameters := [.int, .long, .int, .int, .int, .int], returnType := some .boolean }, accessFlags := 9, code := some k1c2 }
/-- com/example/tapeline/tapeline/GlyphRunLengthPinLaw -/
def k1 : Class := { plain "com/example/tapeline/tapeline/GlyphRunLengthPinLaw" (some 0) with
  accessFlags := 49
  interfaces := #[]
  cf := some (fileOf pool1 10 #[] #[{ accessFlags := 1, nameIndex := 5, descriptorIndex := 6, attributes := #[] }, { accessFlags := 10, nameIndex := 13, descriptorIndex := 14, attributes := #[] }, { accessFlags := 9, nameIndex := 33, descriptorIndex := 34, attributes := #[] }] 49 2 #[] #[])
  fields := #[]
  methods := #[k1m0, k1m1, k1m2]
  instanceTypes := #[]
  staticTypes := #[]
  resolved := Array.replicate 43 none
  statics := none }

def pool2 : Array CpInfo := pool [(1, .methodref 2 3), (0, .class_ 4), (0, .nameAndType 5 6), (0, u "java/lang/Object"), (0, u "<init>"), (0, u "()V"), (0, .class_ 8), (0, u "java/util/BitSet"), (0, .methodref 7 3), (0, .fieldref 11 12), (0, .class_ 13), (0, .nameAndType 14 15), (0, u "com/example/tapeline/tapeline/OpenTypeLayout$GlyphRun"), (0, u "held"), (0, u "Ljava/util/BitSet;"), (0, .methodref 17 18), (0, .class_ 19), (0, .nameAndType 20 21), (0, u "[I"), (0, u "clone"), (0, u "()Ljava/lang/Object;"), (0, .fieldref 11 23), (0, .nameAndType 24 19), (0, u "glyphs"), (0, .fieldref 11 26), (0, .nameAndType 27 28), (0, u "gapStart"), (0, u "I"), (0, .fieldref 11 30), (0, .nameAndType 31 28), (0, u "gapEnd"), (0, .methodref 7 33), (0, .nameAndType 34 35), (0, u "set"), (0, u "(I)V"), (0, .methodref 11 37), (0, .nameAndType 38 39), (0, u "index"), (0, u "(I)I"), (0, .methodref 11 41), (0, .nameAndType 42 35), (0, u "moveGap"), (9, .methodref 53 54), (0, .class_ 55), (0, .nameAndType 56 57), (0, u "java/lang/System"), (0, u "arraycopy"), (0, u "(Ljava/lang/Object;ILjava/lang/Object;II)V"), (2, u "adjustment"), (0, u "J"), (0, u "([I)V"), (3, u "length"), (0, u "()I"), (1, u "replace"), (0, u "(III)V"), (7, .class_ 79), (0, u "com/example/tapeline/tapeline/OpenTypeLayout")] 2

def k2c0 : Code := { maxStack := 3, maxLocals := 6, code := prog_50_method_1_code, exceptionTable := #[], attributes := #[] }
def k2m0 : Method := { name := "<init>", desc := "([I)V", sig := { parameters := [(.array .int)], returnType := none }, accessFlags := 0, code := some k2c0 }
def k2c1 : Code := { maxStack := 3, maxLocals := 1, code := prog_50_method_2_code, exceptionTable := #[], attributes := #[] }
def k2m1 : Method := { name := "length", desc := "()I", sig := { parameters := [], returnType := some .int }, accessFlags := 0, code := some k2c1 }
def k2c2 : Code := { maxStack := 4, maxLocals := 4, code := prog_50_method_4_code, exceptionTable := #[], attributes := #[] }
def k2m2 : Method := { name := "replace", desc := "(III)V", sig := { parameters := [.int, .int, .int], returnType := none }, accessFlags := 0, code := some k2c2 }
def k2c3 : Code := { maxStack := 2, maxLocals := 2, code := prog_50_method_6_code, exceptionTable := #[], attributes := #[] }
def k2m3 : Method := { name := "index", desc := "(I)I", sig := { parameters := [.int], returnType := some .int }, accessFlags := 2, code := some k2c3 }
def k2c4 : Code := { maxStack := 6, maxLocals := 3, code := prog_50_method_7_code, exceptionTable := #[], attributes := #[] }
def k2m4 : Method := { name := "moveGap", desc := "(I)V", sig := { parameters := [.int], returnType := none }, accessFlags := 2, code := some k2c4 }
/-- com/example/tapeline/tapeline/OpenTypeLayout$GlyphRun -/
def k2 : Class := { plain "com/example/tapeline/tapeline/OpenTypeLayout$GlyphRun" (some 0) with
  accessFlags := 48
  interfaces := #[]
  cf := some (fileOf pool2 11 #[.nestHost 78] #[{ accessFlags := 0, nameIndex := 5, descriptorIndex := 62, attributes := #[] }, { accessFlags := 0, nameIndex := 66, descriptorIndex := 67, attributes := #[] }, { accessFlags := 0, nameIndex := 69, descriptorIndex := 70, attributes := #[] }, { accessFlags := 2, nameIndex := 38, descriptorIndex := 39, attributes := #[] }, { accessFlags := 2, nameIndex := 42, descriptorIndex := 35, attributes := #[] }] 48 2 #[] #[{ accessFlags := 18, nameIndex := 24, descriptorIndex := 19, attributes := #[] }, { accessFlags := 2, nameIndex := 27, descriptorIndex := 28, attributes := #[] }, { accessFlags := 2, nameIndex := 31, descriptorIndex := 28, attributes := #[] }, { accessFlags := 2, nameIndex := 60, descriptorIndex := 61, attributes := #[] }, { accessFlags := 18, nameIndex := 14, descriptorIndex := 15, attributes := #[] }])
  fields := #[{ name := "glyphs", type := (.array .int), accessFlags := 18, slot := 0, constantValue := 0 }, { name := "gapStart", type := .int, accessFlags := 2, slot := 1, constantValue := 0 }, { name := "gapEnd", type := .int, accessFlags := 2, slot := 2, constantValue := 0 }, { name := "adjustment", type := .long, accessFlags := 2, slot := 3, constantValue := 0 }, { name := "held", type := (.object "java/util/BitSet"), accessFlags := 18, slot := 4, constantValue := 0 }]
  methods := #[k2m0, k2m1, k2m2, k2m3, k2m4]
  instanceTypes := #[(.array .int), .int, .int, .long, (.object "java/util/BitSet")]
  staticTypes := #[]
  resolved := Array.replicate 82 none
  statics := none }

def pool3 : Array CpInfo := pool [(1, .class_ 2), (0, u "java/lang/Cloneable"), (0, .class_ 4), (0, u "java/lang/Object")] 2

/-- java/lang/Cloneable -/
def k3 : Class := { plain "java/lang/Cloneable" (some 0) with
  accessFlags := 1537
  interfaces := #[]
  cf := some (fileOf pool3 1 #[] #[] 1537 3 #[] #[])
  fields := #[]
  methods := #[]
  instanceTypes := #[]
  staticTypes := #[]
  resolved := Array.replicate 7 none
  statics := none }

def pool4 : Array CpInfo := pool [(1, .class_ 2), (0, u "java/io/Serializable"), (0, .class_ 4), (0, u "java/lang/Object")] 2

/-- java/io/Serializable -/
def k4 : Class := { plain "java/io/Serializable" (some 0) with
  accessFlags := 1537
  interfaces := #[]
  cf := some (fileOf pool4 1 #[] #[] 1537 3 #[] #[])
  fields := #[]
  methods := #[]
  instanceTypes := #[]
  staticTypes := #[]
  resolved := Array.replicate 7 none
  statics := none }

def pool5 : Array CpInfo := pool [(1, .class_ 2), (0, u "java/util/BitSet"), (0, .fieldref 1 4), (0, .nameAndType 5 6), (0, u "$assertionsDisabled"), (0, u "Z"), (0, .fieldref 1 8), (0, .nameAndType 9 10), (0, u "wordsInUse"), (0, u "I"), (0, .fieldref 1 12), (0, .nameAndType 13 14), (0, u "words"), (0, u "[J"), (3, .nameAndType 19 20), (0, u "<init>"), (0, u "()V"), (0, .methodref 22 18), (0, .class_ 23), (0, u "java/lang/Object"), (0, .fieldref 1 25), (0, .nameAndType 26 6), (0, u "sizeIsSticky"), (0, .methodref 1 28), (0, .nameAndType 29 30), (0, u "initWords"), (0, u "(I)V"), (21, .methodref 1 53), (0, .nameAndType 54 55), (0, u "wordIndex"), (0, u "(I)I"), (0, .methodref 1 57), (0, .nameAndType 58 20), (0, u "checkInvariants"), (0, .methodref 60 61), (0, .class_ 62), (0, .nameAndType 63 64), (0, u "java/util/Arrays"), (0, u "copyOf"), (0, u "([JI)[J"), (68, .methodref 134 135), (0, .class_ 136), (0, .nameAndType 137 138), (0, u "java/lang/Math"), (0, u "max"), (0, u "(II)I"), (0, .methodref 1 140), (0, .nameAndType 141 30), (0, u "ensureCapacity"), (13, .methodref 1 156), (0, .nameAndType 157 30), (0, u "expandTo"), (11, u "set"), (99, .class_ 270), (0, u "java/util/BitSet$1BitSetSpliterator"), (22, u "serialPersistentFields"), (0, u "[Ljava/io/ObjectStreamField;"), (0, .class_ 296), (0, u "java/lang/Cloneable"), (0, .class_ 298), (0, u "java/io/Serializable"), (0, u "ADDRESS_BITS_PER_WORD"), (2, u "BITS_PER_WORD"), (1, u "BIT_INDEX_MASK"), (1, u "WORD_MASK"), (0, u "J"), (0, u "serialVersionUID")] 108

def k5c0 : Code := { maxStack := 2, maxLocals := 1, code := jdk_92_method_1_code, exceptionTable := #[], attributes := #[] }
def k5m0 : Method := { name := "wordIndex", desc := "(I)I", sig := { parameters := [.int], returnType := some .int }, accessFlags := 10, code := some k5c0 }
def k5c1 : Code := { maxStack := 4, maxLocals := 1, code := jdk_92_method_2_code, exceptionTable := #[], attributes := #[] }
def k5m1 : Method := { name := "checkInvariants", desc := "()V", sig := { parameters := [], returnType := none }, accessFlags := 2, code := some k5c1 }
def k5c2 : Code := { maxStack := 2, maxLocals := 1, code := jdk_92_method_4_code, exceptionTable := #[], attributes := #[] }
def k5m2 : Method := { name := "<init>", desc := "()V", sig := { parameters := [], returnType := none }, accessFlags := 1, code := some k5c2 }
def k5c3 : Code := { maxStack := 3, maxLocals := 2, code := jdk_92_method_6_code, exceptionTable := #[], attributes := #[] }
def k5m3 : Method := { name := "initWords", desc := "(I)V", sig := { parameters := [.int], returnType := none }, accessFlags := 2, code := some k5c3 }
def k5c4 : Code := { maxStack := 3, maxLocals := 3, code := jdk_92_method_14_code, exceptionTable := #[], attributes := #[] }
def k5m4 : Method := { name := "ensureCapacity", desc := "(I)V", sig := { parameters := [.int], returnType := none }, accessFlags := 2, code := some k5c4 }
def k5c5 : Code := { maxStack := 2, maxLocals := 3, code := jdk_92_method_15_code, exceptionTable := #[], attributes := #[] }
def k5m5 : Method := { name := "expandTo", desc := "(I)V", sig := { parameters := [.int], returnType := none }, accessFlags := 2, code := some k5c5 }
def k5c6 : Code := { maxStack := 7, maxLocals := 3, code := jdk_92_method_19_code, exceptionTable := #[], attributes := #[] }
def k5m6 : Method := { name := "set", desc := "(I)V", sig := { parameters := [.int], returnType := none }, accessFlags := 1, code := some k5c6 }
/-- java/util/BitSet -/
def k5 : Class := { plain "java/util/BitSet" (some 0) with
  accessFlags := 33
  interfaces := #[3, 4]
  cf := some (fileOf pool5 1 #[.nestMembers #[269]] #[{ accessFlags := 10, nameIndex := 54, descriptorIndex := 55, attributes := #[] }, { accessFlags := 2, nameIndex := 58, descriptorIndex := 20, attributes := #[] }, { accessFlags := 1, nameIndex := 19, descriptorIndex := 20, attributes := #[] }, { accessFlags := 2, nameIndex := 29, descriptorIndex := 30, attributes := #[] }, { accessFlags := 2, nameIndex := 141, descriptorIndex := 30, attributes := #[] }, { accessFlags := 2, nameIndex := 157, descriptorIndex := 30, attributes := #[] }, { accessFlags := 1, nameIndex := 169, descriptorIndex := 30, attributes := #[] }] 33 22 #[295, 297] #[{ accessFlags := 26, nameIndex := 299, descriptorIndex := 10, attributes := #[] }, { accessFlags := 26, nameIndex := 302, descriptorIndex := 10, attributes := #[] }, { accessFlags := 26, nameIndex := 304, descriptorIndex := 10, attributes := #[] }, { accessFlags := 26, nameIndex := 306, descriptorIndex := 307, attributes := #[] }, { accessFlags := 26, nameIndex := 293, descriptorIndex := 294, attributes := #[] }, { accessFlags := 2, nameIndex := 13, descriptorIndex := 14, attributes := #[] }, { accessFlags := 130, nameIndex := 9, descriptorIndex := 10, attributes := #[] }, { accessFlags := 130, nameIndex := 26, descriptorIndex := 6, attributes := #[] }, { accessFlags := 26, nameIndex := 308, descriptorIndex := 307, attributes := #[] }, { accessFlags := 4120, nameIndex := 5, descriptorIndex := 6, attributes := #[] }])
  fields := #[{ name := "ADDRESS_BITS_PER_WORD", type := .int, accessFlags := 26, slot := 0, constantValue := 0 }, { name := "BITS_PER_WORD", type := .int, accessFlags := 26, slot := 1, constantValue := 0 }, { name := "BIT_INDEX_MASK", type := .int, accessFlags := 26, slot := 2, constantValue := 0 }, { name := "WORD_MASK", type := .long, accessFlags := 26, slot := 3, constantValue := 0 }, { name := "serialPersistentFields", type := (.array (.object "java/io/ObjectStreamField")), accessFlags := 26, slot := 4, constantValue := 0 }, { name := "words", type := (.array .long), accessFlags := 2, slot := 0, constantValue := 0 }, { name := "wordsInUse", type := .int, accessFlags := 130, slot := 1, constantValue := 0 }, { name := "sizeIsSticky", type := .boolean, accessFlags := 130, slot := 2, constantValue := 0 }, { name := "serialVersionUID", type := .long, accessFlags := 26, slot := 5, constantValue := 0 }, { name := "$assertionsDisabled", type := .boolean, accessFlags := 4120, slot := 6, constantValue := 0 }]
  methods := #[k5m0, k5m1, k5m2, k5m3, k5m4, k5m5, k5m6]
  instanceTypes := #[(.array .long), .int, .boolean]
  staticTypes := #[.int, .int, .int, .long, (.array (.object "java/io/ObjectStreamField")), .long, .boolean]
  resolved := Array.replicate 417 none
  statics := some 0 }

def pool6 : Array CpInfo := pool [(1, .class_ 2), (0, u "java/lang/Math"), (1, .class_ 6), (1, u "java/lang/Object"), (0, u "<init>"), (0, u "()V"), (89, .class_ 100), (1, u "java/lang/Math$RandomNumberGeneratorHolder"), (71, u "negativeZeroFloatBits"), (0, u "J"), (2, u "negativeZeroDoubleBits"), (21, u "max"), (2, u "min"), (43, u "$assertionsDisabled"), (0, u "Z"), (88, u "(II)I"), (2, u "twoToTheDoubleScaleDown"), (0, u "D"), (4, u "twoToTheDoubleScaleUp"), (9, u "E"), (3, u "PI"), (2, u "TAU"), (2, u "DEGREES_TO_RADIANS"), (0, u "RADIANS_TO_DEGREES")] 94

def k6m0 : Method := { name := "<init>", desc := "()V", sig := { parameters := [], returnType := none }, accessFlags := 2, code := none }
def k6c1 : Code := { maxStack := 2, maxLocals := 2, code := jdk_29_method_65_code, exceptionTable := #[], attributes := #[] }
def k6m1 : Method := { name := "max", desc := "(II)I", sig := { parameters := [.int, .int], returnType := some .int }, accessFlags := 9, code := some k6c1 }
def k6c2 : Code := { maxStack := 2, maxLocals := 2, code := jdk_29_method_69_code, exceptionTable := #[], attributes := #[] }
def k6m2 : Method := { name := "min", desc := "(II)I", sig := { parameters := [.int, .int], returnType := some .int }, accessFlags := 9, code := some k6c2 }
/-- java/lang/Math -/
def k6 : Class := { plain "java/lang/Math" (some 0) with
  accessFlags := 49
  interfaces := #[]
  cf := some (fileOf pool6 1 #[.nestMembers #[98]] #[{ accessFlags := 2, nameIndex := 7, descriptorIndex := 8, attributes := #[] }, { accessFlags := 9, nameIndex := 198, descriptorIndex := 335, attributes := #[] }, { accessFlags := 9, nameIndex := 201, descriptorIndex := 335, attributes := #[] }] 49 4 #[] #[{ accessFlags := 25, nameIndex := 354, descriptorIndex := 339, attributes := #[] }, { accessFlags := 25, nameIndex := 358, descriptorIndex := 339, attributes := #[] }, { accessFlags := 25, nameIndex := 361, descriptorIndex := 339, attributes := #[] }, { accessFlags := 26, nameIndex := 364, descriptorIndex := 339, attributes := #[] }, { accessFlags := 26, nameIndex := 365, descriptorIndex := 339, attributes := #[] }, { accessFlags := 26, nameIndex := 172, descriptorIndex := 173, attributes := #[] }, { accessFlags := 26, nameIndex := 176, descriptorIndex := 173, attributes := #[] }, { accessFlags := 8, nameIndex := 344, descriptorIndex := 339, attributes := #[] }, { accessFlags := 8, nameIndex := 338, descriptorIndex := 339, attributes := #[] }, { accessFlags := 4120, nameIndex := 245, descriptorIndex := 246, attributes := #[] }])
  fields := #[{ name := "E", type := .double, accessFlags := 25, slot := 0, constantValue := 0 }, { name := "PI", type := .double, accessFlags := 25, slot := 1, constantValue := 0 }, { name := "TAU", type := .double, accessFlags := 25, slot := 2, constantValue := 0 }, { name := "DEGREES_TO_RADIANS", type := .double, accessFlags := 26, slot := 3, constantValue := 0 }, { name := "RADIANS_TO_DEGREES", type := .double, accessFlags := 26, slot := 4, constantValue := 0 }, { name := "negativeZeroFloatBits", type := .long, accessFlags := 26, slot := 5, constantValue := 0 }, { name := "negativeZeroDoubleBits", type := .long, accessFlags := 26, slot := 6, constantValue := 0 }, { name := "twoToTheDoubleScaleUp", type := .double, accessFlags := 8, slot := 7, constantValue := 0 }, { name := "twoToTheDoubleScaleDown", type := .double, accessFlags := 8, slot := 8, constantValue := 0 }, { name := "$assertionsDisabled", type := .boolean, accessFlags := 4120, slot := 9, constantValue := 0 }]
  methods := #[k6m0, k6m1, k6m2]
  instanceTypes := #[]
  staticTypes := #[.double, .double, .double, .double, .double, .long, .long, .double, .double, .boolean]
  resolved := Array.replicate 460 none
  statics := none }

def pool7 : Array CpInfo := pool [(2, .class_ 4), (1, u "java/lang/Object"), (0, u "<init>"), (0, u "()V"), (7, .class_ 16), (1, u "java/util/Arrays"), (57, .class_ 76), (1, u "java/util/Arrays$NaturalOrder"), (36, .class_ 115), (1, u "java/util/Arrays$LegacyMergeSort"), (1, u "Z"), (32, .methodref 151 152), (0, .class_ 153), (0, .nameAndType 154 155), (0, u "java/lang/System"), (0, u "arraycopy"), (0, u "(Ljava/lang/Object;ILjava/lang/Object;II)V"), (146, u "copyOf"), (1, .methodref 305 306), (0, .class_ 307), (0, .nameAndType 308 309), (0, u "java/lang/Math"), (0, u "min"), (0, u "(II)I"), (65, .class_ 376), (0, u "java/util/Arrays$ArrayList"), (68, u "$assertionsDisabled"), (269, u "MIN_ARRAY_SORT_GRAN"), (0, u "I"), (2, u "INSERTIONSORT_THRESHOLD"), (152, u "([JI)[J"), (102, .class_ 976), (0, u "java/util/Arrays$ArrayItr")] 52

def k7m0 : Method := { name := "<init>", desc := "()V", sig := { parameters := [], returnType := none }, accessFlags := 2, code := none }
def k7c1 : Code := { maxStack := 6, maxLocals := 3, code := jdk_65_method_124_code, exceptionTable := #[], attributes := #[] }
def k7m1 : Method := { name := "copyOf", desc := "([JI)[J", sig := { parameters := [(.array .long), .int], returnType := some (.array .long) }, accessFlags := 9, code := some k7c1 }
/-- java/util/Arrays -/
def k7 : Class := { plain "java/util/Arrays" (some 0) with
  accessFlags := 49
  interfaces := #[]
  cf := some (fileOf pool7 14 #[.nestMembers #[975, 375, 113, 74]] #[{ accessFlags := 2, nameIndex := 5, descriptorIndex := 6, attributes := #[] }, { accessFlags := 9, nameIndex := 302, descriptorIndex := 872, attributes := #[] }] 49 2 #[] #[{ accessFlags := 26, nameIndex := 715, descriptorIndex := 716, attributes := #[] }, { accessFlags := 26, nameIndex := 719, descriptorIndex := 716, attributes := #[] }, { accessFlags := 4120, nameIndex := 445, descriptorIndex := 117, attributes := #[] }])
  fields := #[{ name := "MIN_ARRAY_SORT_GRAN", type := .int, accessFlags := 26, slot := 0, constantValue := 0 }, { name := "INSERTIONSORT_THRESHOLD", type := .int, accessFlags := 26, slot := 1, constantValue := 0 }, { name := "$assertionsDisabled", type := .boolean, accessFlags := 4120, slot := 2, constantValue := 0 }]
  methods := #[k7m0, k7m1]
  instanceTypes := #[]
  staticTypes := #[.int, .int, .boolean]
  resolved := Array.replicate 1029 none
  statics := none }

def pool8 : Array CpInfo := pool [(2, .class_ 4), (1, u "java/lang/Object"), (0, u "<init>"), (0, u "()V"), (1, .class_ 10), (1, u "java/lang/System"), (0, u "allowSecurityManager"), (0, u "I"), (16, u "cons"), (0, u "Ljava/io/Console;"), (77, .class_ 110), (1, u "java/lang/System$CallersHolder"), (43, u "initialErrStream"), (0, u "Ljava/io/PrintStream;"), (19, u "security"), (0, u "Ljava/lang/SecurityManager;"), (31, .class_ 209), (0, u "java/lang/System$1"), (7, u "props"), (0, u "Ljava/util/Properties;"), (2, u "lineSeparator"), (0, u "Ljava/lang/String;"), (96, .class_ 321), (1, u "java/lang/System$LoggerFinder"), (5, .class_ 328), (0, u "java/lang/System$Logger"), (67, u "err"), (2, u "out"), (91, u "notSupportedJnuEncoding"), (15, u "in"), (17, u "initialIn"), (0, u "Ljava/io/InputStream;"), (35, u "bootLayer"), (0, u "Ljava/lang/ModuleLayer;"), (99, .class_ 664), (0, u "java/lang/System$2"), (9, u "NEVER"), (2, u "MAYBE"), (49, u "arraycopy"), (0, u "(Ljava/lang/Object;ILjava/lang/Object;II)V"), (72, .class_ 802), (0, u "java/lang/System$Logger$Level")] 31

def k8m0 : Method := { name := "<init>", desc := "()V", sig := { parameters := [], returnType := none }, accessFlags := 2, code := none }
def k8m1 : Method := { name := "arraycopy", desc := "(Ljava/lang/Object;ILjava/lang/Object;II)V", sig := { parameters := [(.object "java/lang/Object"), .int, (.object "java/lang/Object"), .int, .int], returnType := none }, accessFlags := 265, code := none }
/-- java/lang/System -/
def k8 : Class := { plain "java/lang/System" (some 0) with
  accessFlags := 49
  interfaces := #[]
  cf := some (fileOf pool8 8 #[.nestMembers #[319, 327, 801, 108, 663, 208]] #[{ accessFlags := 2, nameIndex := 5, descriptorIndex := 6, attributes := #[] }, { accessFlags := 265, nameIndex := 727, descriptorIndex := 728, attributes := #[] }] 49 2 #[] #[{ accessFlags := 25, nameIndex := 507, descriptorIndex := 526, attributes := #[] }, { accessFlags := 25, nameIndex := 399, descriptorIndex := 155, attributes := #[] }, { accessFlags := 25, nameIndex := 396, descriptorIndex := 155, attributes := #[] }, { accessFlags := 10, nameIndex := 525, descriptorIndex := 526, attributes := #[] }, { accessFlags := 26, nameIndex := 674, descriptorIndex := 12, attributes := #[] }, { accessFlags := 26, nameIndex := 677, descriptorIndex := 12, attributes := #[] }, { accessFlags := 10, nameIndex := 11, descriptorIndex := 12, attributes := #[] }, { accessFlags := 74, nameIndex := 175, descriptorIndex := 176, attributes := #[] }, { accessFlags := 10, nameIndex := 491, descriptorIndex := 222, attributes := #[] }, { accessFlags := 74, nameIndex := 29, descriptorIndex := 30, attributes := #[] }, { accessFlags := 74, nameIndex := 154, descriptorIndex := 155, attributes := #[] }, { accessFlags := 10, nameIndex := 217, descriptorIndex := 218, attributes := #[] }, { accessFlags := 10, nameIndex := 221, descriptorIndex := 222, attributes := #[] }, { accessFlags := 8, nameIndex := 562, descriptorIndex := 563, attributes := #[] }])
  fields := #[{ name := "in", type := (.object "java/io/InputStream"), accessFlags := 25, slot := 0, constantValue := 0 }, { name := "out", type := (.object "java/io/PrintStream"), accessFlags := 25, slot := 1, constantValue := 0 }, { name := "err", type := (.object "java/io/PrintStream"), accessFlags := 25, slot := 2, constantValue := 0 }, { name := "initialIn", type := (.object "java/io/InputStream"), accessFlags := 10, slot := 3, constantValue := 0 }, { name := "NEVER", type := .int, accessFlags := 26, slot := 4, constantValue := 0 }, { name := "MAYBE", type := .int, accessFlags := 26, slot := 5, constantValue := 0 }, { name := "allowSecurityManager", type := .int, accessFlags := 10, slot := 6, constantValue := 0 }, { name := "security", type := (.object "java/lang/SecurityManager"), accessFlags := 74, slot := 7, constantValue := 0 }, { name := "notSupportedJnuEncoding", type := (.object "java/lang/String"), accessFlags := 10, slot := 8, constantValue := 0 }, { name := "cons", type := (.object "java/io/Console"), accessFlags := 74, slot := 9, constantValue := 0 }, { name := "initialErrStream", type := (.object "java/io/PrintStream"), accessFlags := 74, slot := 10, constantValue := 0 }, { name := "props", type := (.object "java/util/Properties"), accessFlags := 10, slot := 11, constantValue := 0 }, { name := "lineSeparator", type := (.object "java/lang/String"), accessFlags := 10, slot := 12, constantValue := 0 }, { name := "bootLayer", type := (.object "java/lang/ModuleLayer"), accessFlags := 8, slot := 13, constantValue := 0 }]
  methods := #[k8m0, k8m1]
  instanceTypes := #[]
  staticTypes := #[(.object "java/io/InputStream"), (.object "java/io/PrintStream"), (.object "java/io/PrintStream"), (.object "java/io/InputStream"), .int, .int, .int, (.object "java/lang/SecurityManager"), (.object "java/lang/String"), (.object "java/io/Console"), (.object "java/io/PrintStream"), (.object "java/util/Properties"), (.object "java/lang/String"), (.object "java/lang/ModuleLayer")]
  resolved := Array.replicate 834 none
  statics := none }

/-- the primitive byte -/
def k9 : Class := { plain "byte" none with kind := .primitive 'B', accessFlags := 0x411 }
/-- [B -/
def k10 : Class := { plain "[B" (some 0) with kind := .array 9 .byte, interfaces := #[3, 4], accessFlags := 1041 }

/-- the primitive int -/
def k11 : Class := { plain "int" none with kind := .primitive 'I', accessFlags := 0x411 }
/-- [I -/
def k12 : Class := { plain "[I" (some 0) with kind := .array 11 .int, interfaces := #[3, 4], accessFlags := 1041 }

/-- the primitive long -/
def k13 : Class := { plain "long" none with kind := .primitive 'J', accessFlags := 0x411 }
/-- [J -/
def k14 : Class := { plain "[J" (some 0) with kind := .array 13 .long, interfaces := #[3, 4], accessFlags := 1041 }

def heap : Heap := #[{ cls := 5, slots := #[.int 0, .int 0, .int 0, .long 0, .null, .long 0, .int 1], vm := .statics 5 }]
def classes : Array Class := #[k0, k1, k2, k3, k4, k5, k6, k7, k8, k9, k10, k11, k12, k13, k14]
def interned : List (Array UInt16 × Addr) := []
def slotsUsed : Nat := 7
def theMethod : MethodId := ⟨1, 2⟩
def args0 : Array Value := #[.int 5, .long 123456789, .int 3, .int 1114113, .int 2, .int 65537]
def aboutOver (below : List Frame) : State where
  vm := { classes := classes, interned := interned.toArray }
  heap := heap
  slotsUsed := slotsUsed
  threads := #[{ frames := .invoking theMethod args0 :: below }]
def below0 : List Frame := [.native { method := ⟨0, 0⟩, args := #[] }]
def about1 : State := aboutOver below0
def p0 : Program := .bare "" "" ""
def e0 : Env := launch0.env 0 0 0
theorem w_frames : about1.frames = Frame.invoking theMethod args0 :: below0 := rfl
set_option maxRecDepth 65536 in
theorem w_args : argsFit about1.vm theMethod args0 = true := by decide +kernel
set_option maxRecDepth 65536 in
theorem w_heap : heapFits about1 = true := by decide +kernel
set_option maxRecDepth 65536 in
theorem w_runnable : about1.curStatus? = some .runnable := by decide +kernel
set_option maxRecDepth 65536 in
theorem w_alone : about1.alone = true := by decide +kernel
set_option maxRecDepth 65536 in
theorem w_named : about1.methodNamed? x = some theMethod := by decide +kernel
set_option maxRecDepth 65536 in
theorem w_hears : about1.hears theMethod below0 = true := by decide +kernel
set_option maxRecDepth 65536 in
theorem w_ripe : about1.ripe theMethod args0 below0 = true := by decide +kernel
theorem w_running : about1.status = .running := rfl
set_option maxRecDepth 65536 in
theorem w_room : about1.hasRoom e0.platform room_1 = true :=
  launch0.hasRoom_least _ room_1 (by decide +kernel) (by decide +kernel) (by decide +kernel) (by decide +kernel) (by decide +kernel) (by decide +kernel)
theorem allAtoms_all (ts : List Jvm.Cond) (a : Array Jvm.Value) (st : Jvm.State) : (allAtoms ts).before a st = ts.all (fun c => c.before a st) := by
  induction ts with
  | nil => rfl
  | cons c t ih =>
    show (Jvm.Cond.and c (allAtoms t)).before a st = _
    rw [Jvm.Cond.before_and, ih, List.all_cons]
def words1 : List Jvm.Cond := Jvm.Cond.code x code maxLocals ret :: tables_1
/-- a 'code' word, met by the world's own term for the bytes: nothing is compared byte by byte -/
theorem code_word {y : MethodName} {bytes : ByteArray} {mx : Nat} {rt : Option FieldType} {a : Array Value} {s : State} {m : MethodId} {meth : Method} {c : Code} (h1 : s.methodNamed? y = some m) (h2 : s.vm.method? m = some meth) (h3 : meth.code = some c) (h4 : c.code = bytes)
    (h5 : (c.maxLocals == mx && c.exceptionTable.isEmpty && decide (c.maxStack ≤ mostOperands) && decide (meth.sig.returnType = rt) && !meth.locks && decide (parseMethodDescriptor y.desc = some meth.sig)) = true) : (Jvm.Cond.code y bytes mx rt).before a s = true := by
  simp only [Bool.and_eq_true, beq_iff_eq, Bool.not_eq_true', decide_eq_true_eq] at h5
  obtain ⟨⟨⟨⟨⟨g1, g2⟩, g3⟩, g4⟩, g5⟩, g6⟩ := h5
  simp [Cond.before, Cond.holds, Cond.value, h1, h2, h3, h4, g1, g2, g3, g4, g5, g6]
def isCode : Jvm.Cond → Bool
  | .code _ _ _ _ => true
  | _ => false
theorem all_split {L : List Jvm.Cond} {P : Jvm.Cond → Bool} (h1 : L.all (fun c => isCode c || P c) = true) (h2 : ∀ c ∈ L.filter isCode, P c = true) : L.all P = true := by
  refine List.all_eq_true.mpr fun c hc => ?_
  have h := List.all_eq_true.mp h1 c hc
  rcases Bool.eq_false_or_eq_true (isCode c) with hi | hi
  · exact h2 c (List.mem_filter.mpr ⟨hc, hi⟩)
  · simpa [hi] using h
set_option maxRecDepth 65536 in
theorem w_c0 : (Jvm.Cond.code x code maxLocals ret).before args0 about1 = true := code_word (m := ⟨1, 2⟩) (meth := k1m2) (c := k1c2) (by decide +kernel) rfl rfl rfl (by decide +kernel)
set_option maxRecDepth 65536 in
theorem w_c1 : (Jvm.Cond.code ({ cls := "com/example/tapeline/tapeline/GlyphRunLengthPinLaw", name := "fill", desc := "([IIJ)V" } : Jvm.MethodName) method_2_code (4 : Nat) (Option.none : Option Jvm.ClassFile.FieldType)).before args0 about1 = true := code_word (m := ⟨1, 1⟩) (meth := k1m1) (c := k1c1) (by decide +kernel) rfl rfl rfl (by decide +kernel)
set_option maxRecDepth 65536 in
theorem w_c2 : (Jvm.Cond.code ({ cls := "com/example/tapeline/tapeline/OpenTypeLayout$GlyphRun", name := "<init>", desc := "([I)V" } : Jvm.MethodName) prog_50_method_1_code (6 : Nat) (Option.none : Option Jvm.ClassFile.FieldType)).before args0 about1 = true := code_word (m := ⟨2, 0⟩) (meth := k2m0) (c := k2c0) (by decide +kernel) rfl rfl rfl (by decide +kernel)
set_option maxRecDepth 65536 in
theorem w_c3 : (Jvm.Cond.code ({ cls := "java/lang/Object", name := "<init>", desc := "()V" } : Jvm.MethodName) object_method_1_code (1 : Nat) (Option.none : Option Jvm.ClassFile.FieldType)).before args0 about1 = true := code_word (m := ⟨0, 0⟩) (meth := k0m0) (c := k0c0) (by decide +kernel) rfl rfl rfl (by decide +kernel)
set_option maxRecDepth 65536 in
theorem w_c4 : (Jvm.Cond.code ({ cls := "java/util/BitSet", name := "<init>", desc := "()V" } : Jvm.MethodName) jdk_92_method_4_code (1 : Nat) (Option.none : Option Jvm.ClassFile.FieldType)).before args0 about1 = true := code_word (m := ⟨5, 2⟩) (meth := k5m2) (c := k5c2) (by decide +kernel) rfl rfl rfl (by decide +kernel)
set_option maxRecDepth 65536 in
theorem w_c5 : (Jvm.Cond.code ({ cls := "java/util/BitSet", name := "initWords", desc := "(I)V" } : Jvm.MethodName) jdk_92_method_6_code (2 : Nat) (Option.none : Option Jvm.ClassFile.FieldType)).before args0 about1 = true := code_word (m := ⟨5, 3⟩) (meth := k5m3) (c := k5c3) (by decide +kernel) rfl rfl rfl (by decide +kernel)
set_option maxRecDepth 65536 in
theorem w_c6 : (Jvm.Cond.code ({ cls := "java/util/BitSet", name := "wordIndex", desc := "(I)I" } : Jvm.MethodName) jdk_92_method_1_code (1 : Nat) (Option.some Jvm.ClassFile.FieldType.int)).before args0 about1 = true := code_word (m := ⟨5, 0⟩) (meth := k5m0) (c := k5c0) (by decide +kernel) rfl rfl rfl (by decide +kernel)
set_option maxRecDepth 65536 in
theorem w_c7 : (Jvm.Cond.code ({ cls := "com/example/tapeline/tapeline/OpenTypeLayout$GlyphRun", name := "length", desc := "()I" } : Jvm.MethodName) prog_50_method_2_code (1 : Nat) (Option.some Jvm.ClassFile.FieldType.int)).before args0 about1 = true := code_word (m := ⟨2, 1⟩) (meth := k2m1) (c := k2c1) (by decide +kernel) rfl rfl rfl (by decide +kernel)
set_option maxRecDepth 65536 in
theorem w_c8 : (Jvm.Cond.code ({ cls := "java/util/BitSet", name := "set", desc := "(I)V" } : Jvm.MethodName) jdk_92_method_19_code (3 : Nat) (Option.none : Option Jvm.ClassFile.FieldType)).before args0 about1 = true := code_word (m := ⟨5, 6⟩) (meth := k5m6) (c := k5c6) (by decide +kernel) rfl rfl rfl (by decide +kernel)
set_option maxRecDepth 65536 in
theorem w_c9 : (Jvm.Cond.code ({ cls := "java/util/BitSet", name := "expandTo", desc := "(I)V" } : Jvm.MethodName) jdk_92_method_15_code (3 : Nat) (Option.none : Option Jvm.ClassFile.FieldType)).before args0 about1 = true := code_word (m := ⟨5, 5⟩) (meth := k5m5) (c := k5c5) (by decide +kernel) rfl rfl rfl (by decide +kernel)
set_option maxRecDepth 65536 in
theorem w_c10 : (Jvm.Cond.code ({ cls := "java/util/BitSet", name := "ensureCapacity", desc := "(I)V" } : Jvm.MethodName) jdk_92_method_14_code (3 : Nat) (Option.none : Option Jvm.ClassFile.FieldType)).before args0 about1 = true := code_word (m := ⟨5, 4⟩) (meth := k5m4) (c := k5c4) (by decide +kernel) rfl rfl rfl (by decide +kernel)
set_option maxRecDepth 65536 in
theorem w_c11 : (Jvm.Cond.code ({ cls := "java/util/BitSet", name := "checkInvariants", desc := "()V" } : Jvm.MethodName) jdk_92_method_2_code (1 : Nat) (Option.none : Option Jvm.ClassFile.FieldType)).before args0 about1 = true := code_word (m := ⟨5, 1⟩) (meth := k5m1) (c := k5c1) (by decide +kernel) rfl rfl rfl (by decide +kernel)
set_option maxRecDepth 65536 in
theorem w_c12 : (Jvm.Cond.code ({ cls := "com/example/tapeline/tapeline/OpenTypeLayout$GlyphRun", name := "replace", desc := "(III)V" } : Jvm.MethodName) prog_50_method_4_code (4 : Nat) (Option.none : Option Jvm.ClassFile.FieldType)).before args0 about1 = true := code_word (m := ⟨2, 2⟩) (meth := k2m2) (c := k2c2) (by decide +kernel) rfl rfl rfl (by decide +kernel)
set_option maxRecDepth 65536 in
theorem w_c13 : (Jvm.Cond.code ({ cls := "com/example/tapeline/tapeline/OpenTypeLayout$GlyphRun", name := "index", desc := "(I)I" } : Jvm.MethodName) prog_50_method_6_code (2 : Nat) (Option.some Jvm.ClassFile.FieldType.int)).before args0 about1 = true := code_word (m := ⟨2, 3⟩) (meth := k2m3) (c := k2c3) (by decide +kernel) rfl rfl rfl (by decide +kernel)
set_option maxRecDepth 65536 in
theorem w_c14 : (Jvm.Cond.code ({ cls := "java/lang/Math", name := "max", desc := "(II)I" } : Jvm.MethodName) jdk_29_method_65_code (2 : Nat) (Option.some Jvm.ClassFile.FieldType.int)).before args0 about1 = true := code_word (m := ⟨6, 1⟩) (meth := k6m1) (c := k6c1) (by decide +kernel) rfl rfl rfl (by decide +kernel)
set_option maxRecDepth 65536 in
theorem w_c15 : (Jvm.Cond.code ({ cls := "java/util/Arrays", name := "copyOf", desc := "([JI)[J" } : Jvm.MethodName) jdk_65_method_124_code (3 : Nat) (Option.some (Jvm.ClassFile.FieldType.array Jvm.ClassFile.FieldType.long))).before args0 about1 = true := code_word (m := ⟨7, 1⟩) (meth := k7m1) (c := k7c1) (by decide +kernel) rfl rfl rfl (by decide +kernel)
set_option maxRecDepth 65536 in
theorem w_c16 : (Jvm.Cond.code ({ cls := "java/lang/Math", name := "min", desc := "(II)I" } : Jvm.MethodName) jdk_29_method_69_code (2 : Nat) (Option.some Jvm.ClassFile.FieldType.int)).before args0 about1 = true := code_word (m := ⟨6, 2⟩) (meth := k6m2) (c := k6c2) (by decide +kernel) rfl rfl rfl (by decide +kernel)
set_option maxRecDepth 65536 in
theorem w_c17 : (Jvm.Cond.code ({ cls := "com/example/tapeline/tapeline/OpenTypeLayout$GlyphRun", name := "moveGap", desc := "(I)V" } : Jvm.MethodName) prog_50_method_7_code (3 : Nat) (Option.none : Option Jvm.ClassFile.FieldType)).before args0 about1 = true := code_word (m := ⟨2, 4⟩) (meth := k2m4) (c := k2c4) (by decide +kernel) rfl rfl rfl (by decide +kernel)
def codes1 : List Jvm.Cond := [Jvm.Cond.code x code maxLocals ret, Jvm.Cond.code ({ cls := "com/example/tapeline/tapeline/GlyphRunLengthPinLaw", name := "fill", desc := "([IIJ)V" } : Jvm.MethodName) method_2_code (4 : Nat) (Option.none : Option Jvm.ClassFile.FieldType), Jvm.Cond.code ({ cls := "com/example/tapeline/tapeline/OpenTypeLayout$GlyphRun", name := "<init>", desc := "([I)V" } : Jvm.MethodName) prog_50_method_1_code (6 : Nat) (Option.none : Option Jvm.ClassFile.FieldType), Jvm.Cond.code ({ cls := "java/lang/Object", name := "<init>", desc := "()V" } : Jvm.MethodName) object_method_1_code (1 : Nat) (Option.none : Option Jvm.ClassFile.FieldType), Jvm.Cond.code ({ cls := "java/util/BitSet", name := "<init>", desc := "()V" } : Jvm.MethodName) jdk_92_method_4_code (1 : Nat) (Option.none : Option Jvm.ClassFile.FieldType), Jvm.Cond.code ({ cls := "java/util/BitSet", name := "initWords", desc := "(I)V" } : Jvm.MethodName) jdk_92_method_6_code (2 : Nat) (Option.none : Option Jvm.ClassFile.FieldType), Jvm.Cond.code ({ cls := "java/util/BitSet", name := "wordIndex", desc := "(I)I" } : Jvm.MethodName) jdk_92_method_1_code (1 : Nat) (Option.some Jvm.ClassFile.FieldType.int), Jvm.Cond.code ({ cls := "com/example/tapeline/tapeline/OpenTypeLayout$GlyphRun", name := "length", desc := "()I" } : Jvm.MethodName) prog_50_method_2_code (1 : Nat) (Option.some Jvm.ClassFile.FieldType.int), Jvm.Cond.code ({ cls := "java/util/BitSet", name := "set", desc := "(I)V" } : Jvm.MethodName) jdk_92_method_19_code (3 : Nat) (Option.none : Option Jvm.ClassFile.FieldType), Jvm.Cond.code ({ cls := "java/util/BitSet", name := "expandTo", desc := "(I)V" } : Jvm.MethodName) jdk_92_method_15_code (3 : Nat) (Option.none : Option Jvm.ClassFile.FieldType), Jvm.Cond.code ({ cls := "java/util/BitSet", name := "ensureCapacity", desc := "(I)V" } : Jvm.MethodName) jdk_92_method_14_code (3 : Nat) (Option.none : Option Jvm.ClassFile.FieldType), Jvm.Cond.code ({ cls := "java/util/BitSet", name := "checkInvariants", desc := "()V" } : Jvm.MethodName) jdk_92_method_2_code (1 : Nat) (Option.none : Option Jvm.ClassFile.FieldType), Jvm.Cond.code ({ cls := "com/example/tapeline/tapeline/OpenTypeLayout$GlyphRun", name := "replace", desc := "(III)V" } : Jvm.MethodName) prog_50_method_4_code (4 : Nat) (Option.none : Option Jvm.ClassFile.FieldType), Jvm.Cond.code ({ cls := "com/example/tapeline/tapeline/OpenTypeLayout$GlyphRun", name := "index", desc := "(I)I" } : Jvm.MethodName) prog_50_method_6_code (2 : Nat) (Option.some Jvm.ClassFile.FieldType.int), Jvm.Cond.code ({ cls := "java/lang/Math", name := "max", desc := "(II)I" } : Jvm.MethodName) jdk_29_method_65_code (2 : Nat) (Option.some Jvm.ClassFile.FieldType.int), Jvm.Cond.code ({ cls := "java/util/Arrays", name := "copyOf", desc := "([JI)[J" } : Jvm.MethodName) jdk_65_method_124_code (3 : Nat) (Option.some (Jvm.ClassFile.FieldType.array Jvm.ClassFile.FieldType.long)), Jvm.Cond.code ({ cls := "java/lang/Math", name := "min", desc := "(II)I" } : Jvm.MethodName) jdk_29_method_69_code (2 : Nat) (Option.some Jvm.ClassFile.FieldType.int), Jvm.Cond.code ({ cls := "com/example/tapeline/tapeline/OpenTypeLayout$GlyphRun", name := "moveGap", desc := "(I)V" } : Jvm.MethodName) prog_50_method_7_code (3 : Nat) (Option.none : Option Jvm.ClassFile.FieldType)]
set_option maxRecDepth 65536 in
theorem codes_eq : words1.filter isCode = codes1 := rfl
theorem w_codes : ∀ c ∈ words1.filter isCode, c.before args0 about1 = true := by
  rw [codes_eq]
  intro c hc
  simp only [codes1, List.mem_cons, List.not_mem_nil, or_false] at hc
  rcases hc with rfl | rfl | rfl | rfl | rfl | rfl | rfl | rfl | rfl | rfl | rfl | rfl | rfl | rfl | rfl | rfl | rfl | rfl
  · exact w_c0
  · exact w_c1
  · exact w_c2
  · exact w_c3
  · exact w_c4
  · exact w_c5
  · exact w_c6
  · exact w_c7
  · exact w_c8
  · exact w_c9
  · exact w_c10
  · exact w_c11
  · exact w_c12
  · exact w_c13
  · exact w_c14
  · exact w_c15
  · exact w_c16
  · exact w_c17
set_option maxRecDepth 65536 in
theorem w_t1 : (words1.take 24).all (fun c => isCode c || c.before args0 about1) = true := by decide +kernel
set_option maxRecDepth 65536 in
theorem w_t2 : ((words1.drop 24).take 24).all (fun c => isCode c || c.before args0 about1) = true := by decide +kernel
set_option maxRecDepth 65536 in
theorem w_t3 : (((words1.drop 24).drop 24).take 24).all (fun c => isCode c || c.before args0 about1) = true := by decide +kernel
set_option maxRecDepth 65536 in
theorem w_t4 : ((((words1.drop 24).drop 24).drop 24).take 24).all (fun c => isCode c || c.before args0 about1) = true := by decide +kernel
set_option maxRecDepth 65536 in
theorem w_t5 : ((((words1.drop 24).drop 24).drop 24).drop 24).all (fun c => isCode c || c.before args0 about1) = true := by decide +kernel
theorem w_tables : (allAtoms (Jvm.Cond.code x code maxLocals ret :: tables_1)).before args0 about1 = true := by
  rw [allAtoms_all]
  show words1.all (fun c => c.before args0 about1) = true
  refine all_split ?_ w_codes
  rw [← List.take_append_drop 24 words1, List.all_append, w_t1, ← List.take_append_drop 24 (words1.drop 24), List.all_append, w_t2, ← List.take_append_drop 24 ((words1.drop 24).drop 24), List.all_append, w_t3, ← List.take_append_drop 24 (((words1.drop 24).drop 24).drop 24), List.all_append, w_t4, w_t5]
  rfl
set_option maxRecDepth 65536 in
theorem w_rest : rest_1_c.before args0 about1 = true := by decide +kernel
set_option maxRecDepth 65536 in
theorem w_case : (Jvm.Cond.and given_1 narrow_1).before args0 about1 = true := by decide +kernel
theorem w_applies : (headSpec (Jvm.Cond.code x code maxLocals ret :: tables_1) room_1).applies x e0.platform about1 = true :=
  (Spec.applies_iff w_frames).mpr ⟨w_running, w_runnable, w_alone, w_named, w_hears, w_ripe, w_room, w_tables⟩
theorem atStart : AtStart classFile x code maxLocals ret World_1 tables_1 room_1 Calls_1 rest_1 Pre_1 launch0 p0 e0 about1 theMethod args0 below0 :=
  ⟨lists_1, trivial, launch0.admits_env _ _ _, launch0.least_env, fairChoices_fair.cas, fairChoices_fair.clock, w_frames, w_args, w_heap, w_applies, trivial, w_rest, w_case⟩
end start1
theorem witness_1 : WitnessClaimed_1 := ⟨start1.p0, start1.e0, start1.about1, start1.theMethod, start1.args0, start1.below0, start1.atStart⟩
end Jvm.Pilot.@@N@@
