import JvmDerived
import JvmDerived.Pilot.@@N@@Statement
import JvmDerived.Pilot.@@N@@Code
set_option linter.unusedVariables false
set_option linter.unusedSimpArgs false
namespace Jvm.RoadKit
open Sem ClassFile Op Lib Jvm.Stand Jvm.Free Jvm.LawKit
section New
variable {p : Program} {l : Launch} {e : Env} {R : Room} {s : State} {m : MethodId} {args : Array Value} {below : List Frame} {meth : Method} {c : Code} {T : State} {locs : List Loc} {cells slots : Nat}
theorem retI (X : Stand p l e R s m args below meth c T locs cells slots) (hx : p.tables.exec = Jvm.exec) {pc : Nat} {Ls : Array Slot} {z : Int32} {rest : List Value} (hret : meth.sig.returnType = some .int) (hd : decode c.code pc = .ok (.ireturn, 1)) {fs : List Frame}
    (hl : ∀ (f : JFrame) (acts : List Action), f.method = m → f.locked = none → f.entered = [] → (doReturn e (T.setTop f) acts (some (.int z))).1 = T.setFrames fs) : Steps p.tables e below (T.setTop (mkF m pc Ls (.int z :: rest))) (T.setFrames fs) := by
  have hm' : T.vm.method? m = some meth := X.method'
  have hn : narrow .int (.int z) = .int z := rfl
  show Steps p.tables e below (T.setTop { method := m, pc := pc, locals := Ls, stack := _ :: rest, locked := none }) _
  jvm_step X.here [X.here.top, hx, hd, hm', hret, hn]
  first | (intro acts; rw [hl _ acts rfl rfl rfl]) | rw [hl _ _ rfl rfl rfl]
  exact Steps.refl _
theorem own_miss {k : Int32} (q : Int32) {a : Int} (hq : q.toInt = a) (h : ¬ k = q) : a ≠ k.toInt := fun e => h (Int32.toInt_inj.mp (e.symm.trans hq.symm))
end New
end Jvm.RoadKit
namespace Jvm.RoadKit
open Sem ClassFile Op Lib Jvm.Stand Jvm.Free Jvm.LawKit
section OwnArrs
variable {p : Program} {l : Launch} {e : Env} {R : Room} {s : State} {m : MethodId} {args : Array Value} {below : List Frame} {meth : Method} {c : Code} {T : State} {locs : List Loc} {cells slots : Nat} {Z : State} {h : Heap} {a : Addr} {k : ClassId} {n : Int32} {vs : List Value} {d : Value} {n0 : Nat}
theorem own_caload (X : Stand p l e R s m args below meth c T locs cells slots) (hx : p.tables.exec = Jvm.exec) (hZ : Z.Warmed39 s.vm) (eT : T.heap = h) (F : Arv Z h a k .char n vs d) {j : Int32} (hj : ¬ j < 0 ∧ j < n) {v : Value} (hv : vs.getD j.toNatClampNeg d = v) {g : JFrame} (hg : g.method = m) {rest : List Value} (hs : g.stack = .int j :: .ref a :: rest) (hd : decode c.code g.pc = .ok (.caload, 1)) (target : State) (hr : Steps p.tables e below (T.setTop { g with pc := g.pc + 1, stack := v :: rest }) target) : Steps p.tables e below (T.setTop g) target := by
  obtain ⟨cl, A, -, S, -, H, -⟩ := F
  have hin := inb_of S hj
  exact X.caload hx (by rw [eT]; exact A.1) (State.isArrayOf_alike hZ.alike A.2.1) A.2.2 hin (Has.at H hin hv) hg hs hd target hr
theorem own_iaload (X : Stand p l e R s m args below meth c T locs cells slots) (hx : p.tables.exec = Jvm.exec) (hZ : Z.Warmed39 s.vm) (eT : T.heap = h) (F : Arv Z h a k .int n vs d) {j : Int32} (hj : ¬ j < 0 ∧ j < n) {v : Value} (hv : vs.getD j.toNatClampNeg d = v) {g : JFrame} (hg : g.method = m) {rest : List Value} (hs : g.stack = .int j :: .ref a :: rest) (hd : decode c.code g.pc = .ok (.iaload, 1)) (target : State) (hr : Steps p.tables e below (T.setTop { g with pc := g.pc + 1, stack := v :: rest }) target) : Steps p.tables e below (T.setTop g) target := by
  obtain ⟨cl, A, -, S, -, H, -⟩ := F
  have hin := inb_of S hj
  exact X.iaload hx (by rw [eT]; exact A.1) (State.isArrayOf_alike hZ.alike A.2.1) A.2.2 hin (Has.at H hin hv) hg hs hd target hr
theorem own_stC (X : Stand p l e R s m args below meth c T locs cells slots) (hx : p.tables.exec = Jvm.exec) (hZ : Z.Warmed39 s.vm) (eT : T.heap = h) (F : Arv Z h a k .char n vs d) {j x : Int32} (hj : ¬ j < 0 ∧ j < n) (i : Nat) (hi : j.toNatClampNeg = i) (hl : i < vs.length) (N : Fr n0 locs) (ga : n0 ≤ a) {g : JFrame} (hg : g.method = m) {rest : List Value} (hs : g.stack = .int x :: .int j :: .ref a :: rest) (hd : decode c.code g.pc = .ok (.castore, 1)) :
    ∃ T' h' L', Stand p l e R s m args below meth c T' L' cells slots ∧ T'.heap = h' ∧ Fr n0 L' ∧ Wr h h' a j.toNatClampNeg (.int (nar .char x)) ∧ Arv Z h' a k .char n (vs.set i (.int (nar .char x))) d ∧ ∀ target, Steps p.tables e below (T'.setTop { g with pc := g.pc + 1, stack := rest }) target → Steps p.tables e below (T.setTop g) target := by
  obtain ⟨cl, A, q, S, M, H, G⟩ := F
  obtain ⟨T', h', X', e', W, st⟩ := stC X hx hZ eT A (inb_of S hj) hg hs hd
  exact ⟨T', h', _, X', e', Fr.snoc X' N ga, W, Arv.set A q S M H G (fits_nar_char _) W i hi hl, st⟩
theorem own_stI (X : Stand p l e R s m args below meth c T locs cells slots) (hx : p.tables.exec = Jvm.exec) (hZ : Z.Warmed39 s.vm) (eT : T.heap = h) (F : Arv Z h a k .int n vs d) {j x : Int32} (hj : ¬ j < 0 ∧ j < n) (i : Nat) (hi : j.toNatClampNeg = i) (hl : i < vs.length) (N : Fr n0 locs) (ga : n0 ≤ a) {g : JFrame} (hg : g.method = m) {rest : List Value} (hs : g.stack = .int x :: .int j :: .ref a :: rest) (hd : decode c.code g.pc = .ok (.iastore, 1)) :
    ∃ T' h' L', Stand p l e R s m args below meth c T' L' cells slots ∧ T'.heap = h' ∧ Fr n0 L' ∧ Wr h h' a j.toNatClampNeg (.int x) ∧ Arv Z h' a k .int n (vs.set i (.int x)) d ∧ ∀ target, Steps p.tables e below (T'.setTop { g with pc := g.pc + 1, stack := rest }) target → Steps p.tables e below (T.setTop g) target := by
  obtain ⟨cl, A, q, S, M, H, G⟩ := F
  obtain ⟨T', h', X', e', W, st⟩ := stI X hx hZ eT A (inb_of S hj) hg hs hd
  exact ⟨T', h', _, X', e', Fr.snoc X' N ga, W, Arv.set A q S M H G rfl W i hi hl, st⟩
end OwnArrs
end Jvm.RoadKit
namespace Jvm.Pilot.@@N@@
open Jvm Jvm.ClassFile Sem Op Lib Jvm.Free Jvm.Stand Jvm.LawKit Jvm.RoadKit Bundle Jvm.Pilot.@@N@@.Jvm.D
def own_M (Z : State) (h : Heap) (a : Addr) (x y : Int64) : Prop := Exa Z h a "com/example/callbook/callbook/engine/Midpoint" ∧ Fld Z h a "com/example/callbook/callbook/engine/Midpoint" "bestBid" "J" (.long x) ∧ Fld Z h a "com/example/callbook/callbook/engine/Midpoint" "bestAsk" "J" (.long y)
def own_eq (x y u v : Int64) : Int32 := if x = u then (if y = v then 1 else 0) else 0
theorem own_eq1 {x y u v : Int64} (h1 : x = u) (h2 : y = v) : own_eq x y u v = 1 := by unfold own_eq; rw [if_pos h1, if_pos h2]
theorem own_eq2 {x y u v : Int64} (h2 : ¬ y = v) : own_eq x y u v = 0 := by unfold own_eq; rw [if_neg h2]; split <;> rfl
theorem own_eq3 {x y u v : Int64} (h1 : ¬ x = u) : own_eq x y u v = 0 := by unfold own_eq; rw [if_neg h1]
theorem own_no {Z : State} {a0 : Array Value} (hw : ∀ d ∈ tables_1, d.before a0 Z = true) : ∃ c t, Z.vm.findClass "java/lang/Long" = some c ∧ Z.vm.findClass "com/example/callbook/callbook/engine/Midpoint" = some t ∧ Z.vm.assignable c t = false := by
  have w1 : (Jvm.Cond.superclass "java/lang/Long" "java/lang/Number").before a0 Z = true := hw _ (List.mem_of_getElem? (i := 28) rfl)
  have w2 : (Jvm.Cond.superclass "java/lang/Number" "java/lang/Object").before a0 Z = true := hw _ (List.mem_of_getElem? (i := 29) rfl)
  have w3 : (Jvm.Cond.noSuperclass "java/lang/Object").before a0 Z = true := hw _ (List.mem_of_getElem? (i := 30) rfl)
  have w4 : (Jvm.Cond.instantiable "com/example/callbook/callbook/engine/Midpoint" 2).before a0 Z = true := hw _ (List.mem_of_getElem? (i := 1) rfl)
  obtain ⟨t, kt, t1, t2, t3, t4, -⟩ := Cond.instantiable_spec w4
  have n0 : NS Z "java/lang/Object" "com/example/callbook/callbook/engine/Midpoint" := by
    obtain ⟨c, k, h1, h2, h3, -, -⟩ := Cond.noSuperclass_spec w3
    have ne := ids_ne h1 t1 (by decide)
    refine ⟨c, t, h1, t1, fun fuel => ?_⟩
    cases fuel with
    | zero => rfl
    | succ f => simp [Vm.isSubclassAux, ne, h2, h3]
  have n1 : NS Z "java/lang/Number" "com/example/callbook/callbook/engine/Midpoint" := NS.step w2 n0 (by decide)
  have n2 : NS Z "java/lang/Long" "com/example/callbook/callbook/engine/Midpoint" := NS.step w1 n1 (by decide)
  obtain ⟨c, t', h0, g0, n3⟩ := n2
  cases t1.symm.trans g0
  obtain ⟨p, k, kp, h1, h2, h3, h4, h5, -, h7⟩ := Cond.superclass_spec h0 w1
  have ne := ids_ne h0 t1 (by decide)
  have t5 : kt.isInterface = false := by cases hi : kt.isInterface <;> simp [hi] at t4 ⊢
  refine ⟨c, t, h0, t1, ?_⟩
  show Z.vm.assignableAux (255 + 1) c t = false
  simp [Vm.assignableAux, ne, h2, t2, h5, t3, t5, Vm.isSubclass, n3]
theorem own_idx {a : Int64} (h1 : ¬ a < (-128 : Int64)) (h2 : ¬ (127 : Int64) < a) : (a.toInt32 + (128 : Int32)).toInt = a.toInt + 128 ∧ -128 ≤ a.toInt ∧ a.toInt ≤ 127 := by
  rw [Int64.lt_iff_toInt_lt] at h1 h2
  have e1 : (-128 : Int64).toInt = -128 := rfl
  have e2 : (127 : Int64).toInt = 127 := rfl
  have e3 : (128 : Int32).toInt = 128 := rfl
  have q : a.toInt32.toInt = a.toInt := by
    rw [Int64.toInt_toInt32]
    exact Int.bmod_eq_of_le (by omega) (by omega)
  refine ⟨?_, by omega, by omega⟩
  rw [Int32.toInt_add, q, e3]
  exact Int.bmod_eq_of_le (by omega) (by omega)
theorem own_cin {a : Int64} {cl : Cell} (h1 : ¬ a < (-128 : Int64)) (h2 : ¬ (127 : Int64) < a) (h : cl.slots.size = 256) : ¬ ((a.toInt32 + (128 : Int32)) < 0 ∨ cl.slots.size ≤ (a.toInt32 + (128 : Int32)).toNatClampNeg) := by
  obtain ⟨q, r, t⟩ := own_idx h1 h2
  have e0 : (0 : Int32).toInt = 0 := rfl
  rw [h, Int32.lt_iff_toInt_lt, e0]
  intro z
  rcases z with z | z
  · omega
  · simp only [Int32.toNatClampNeg] at z; omega
theorem own_clt {a : Int64} (h1 : ¬ a < (-128 : Int64)) (h2 : ¬ (127 : Int64) < a) : (a.toInt32 + (128 : Int32)).toNatClampNeg < 256 := by
  obtain ⟨q, r, t⟩ := own_idx h1 h2
  simp only [Int32.toNatClampNeg]; omega
theorem own_len {t : Term} {args : Array Value} {s : State} {a : Addr} {cl : Cell} {x : Int32} (ev : t.eval args s none [] s = some (.ref a)) (ha : s.arrayAt? a = some cl) (el : (Term.length t).eval args s none [] s = some (.int x)) : cl.slots.size < 2 ^ 31 ∧ cl.slots.size.toInt32 = x := by
  simp only [Term.eval, ev, Option.bind_eq_bind, Option.bind_some, ha] at el
  split at el
  · rename_i h31; exact ⟨h31, by simpa using el⟩
  · simp at el
theorem own_subat {args : Array Value} {s : State} {idx : List Nat} {a b : Term} {x y : Int32} (ha : a.eval args s none idx s = some (.int x)) (hb : b.eval args s none idx s = some (.int y)) : (Term.sub a b).eval args s none idx s = some (.int (x - y)) := by simp [Term.eval, ha, hb]
theorem d1_0 : decode prog_43_method_1_code 0 = .ok (.aload_n 0, 1) := by decide +kernel
theorem d1_1 : decode prog_43_method_1_code 1 = .ok (.invokespecial 3, 3) := by decide +kernel
theorem d1_4 : decode prog_43_method_1_code 4 = .ok (.aload_n 0, 1) := by decide +kernel
theorem d1_5 : decode prog_43_method_1_code 5 = .ok (.lload_n 1, 1) := by decide +kernel
theorem d1_6 : decode prog_43_method_1_code 6 = .ok (.putfield 9, 3) := by decide +kernel
theorem d1_9 : decode prog_43_method_1_code 9 = .ok (.aload_n 0, 1) := by decide +kernel
theorem d1_10 : decode prog_43_method_1_code 10 = .ok (.lload_n 3, 1) := by decide +kernel
theorem d1_11 : decode prog_43_method_1_code 11 = .ok (.putfield 15, 3) := by decide +kernel
theorem d1_14 : decode prog_43_method_1_code 14 = .ok (.return_, 1) := by decide +kernel
theorem pn_0 : plainName "com/example/callbook/callbook/engine/Midpoint" = true := by first | (simp [plainName, overriddenIn]; done) | decide +kernel
theorem ef_rm1 (m : MethodId) (x0 : Addr) (x1 : Int64) (x2 : Int64) : entryFrame m #[(.ref x0), (.long x1), (.long x2)] 5 = mkF m 0 #[.val (.ref x0), .val (.long x1), .second, .val (.long x2), .second] [] := by first | (simp [entryFrame, mkF, argsToLocals, Value.category]; done) | rfl
def Q_rm1 (Z : State) (o0 : Addr) (q1 : Int64) (q2 : Int64) (h0 : Heap) (n0 : Nat) (v : Option Value) (h : Heap) (L : List Loc) : Prop := v = none ∧ Fr n0 L ∧ Keep h0 h [o0] ∧ own_M Z h o0 q1 q2
set_option maxRecDepth 65536 in
set_option maxHeartbeats 40000000 in
theorem rm1 (l : Launch) (Z : State) (a0 : Array Value) (hw : ∀ d ∈ tables_1, d.before a0 Z = true) (ws : List Jvm.Cond) (o0 : Addr) (q1 : Int64) (q2 : Int64) (h0 : Heap) (n0 : Nat) (Z0 : n0 ≤ h0.size) (E : Exa Z h0 o0 "com/example/callbook/callbook/engine/Midpoint") (F1 : Fld Z h0 o0 "com/example/callbook/callbook/engine/Midpoint" "bestBid" "J" (.long 0)) (F2 : Fld Z h0 o0 "com/example/callbook/callbook/engine/Midpoint" "bestAsk" "J" (.long 0)) (g0 : n0 ≤ o0) :
    MetFree l (⟨"com/example/callbook/callbook/engine/Midpoint", "<init>", "(JJ)V"⟩ : MethodName) (head1 (Jvm.Cond.code (⟨"com/example/callbook/callbook/engine/Midpoint", "<init>", "(JJ)V"⟩ : MethodName) prog_43_method_1_code 5 none :: ws) ({ frames := 1, cells := 0, slots := 0, locals := 12 } : Room)) (fun a U => a = #[(.ref o0), (.long q1), (.long q2)] ∧ Z.Warmed39 U.vm ∧ U.heap = h0) (fun _ _ _ _ _ => True) (fun _ U o U' => ∃ v L, o = .returned v ∧ Q_rm1 Z o0 q1 q2 h0 n0 v U'.heap L ∧ FrameEnd U o U' L ({ frames := 1, cells := 0, slots := 0, locals := 12 } : Room).cells ({ frames := 1, cells := 0, slots := 0, locals := 12 } : Room).slots) := by
  refine MetFree.of_bodySF (plainFor_of_name pn_0) hisR ?_
  intro p e s m args below meth c s₁ Bd hml0 hP hK
  obtain ⟨rfl, hZ, hh⟩ := hP
  have hx := Bd.exec
  have hby := Bd.bytes
  have hml : c.maxLocals = 5 := hml0
  have hown : s.vm.findClass "com/example/callbook/callbook/engine/Midpoint" = some m.cls := findClass_of_methodNamed Bd.named
  have hnm := (name_of_methodNamed Bd.named Bd.method).1
  have X0 : Stand p l e ({ frames := 1, cells := 0, slots := 0, locals := 12 } : Room) s m #[(.ref o0), (.long q1), (.long q2)] below meth c s₁ [] 0 0 := Stand.of_body Bd
  have e0 : s₁.heap = h0 := by rw [← hh, Bd.state]; rfl
  have N0 := Fr.nil n0
  have c0 : ∀ τ, Steps p.tables e below (s₁.setTop (mkF m 0 #[.val (.ref o0), .val (.long q1), .second, .val (.long q2), .second] [])) τ → Steps p.tables e below (s₁.setTop (entryFrame m #[(.ref o0), (.long q1), (.long q2)] 5)) τ := fun τ κ => castTop (ef_rm1 m o0 q1 q2) κ
  have c1 : ∀ τ, Steps p.tables e below (s₁.setTop (mkF m 1 #[.val (.ref o0), .val (.long q1), .second, .val (.long q2), .second] [(.ref o0)])) τ → Steps p.tables e below (s₁.setTop (entryFrame m #[(.ref o0), (.long q1), (.long q2)] 5)) τ := fun τ κ => c0 τ (by
      show Steps p.tables e below (s₁.setTop (mkF m 0 #[.val (.ref o0), .val (.long q1), .second, .val (.long q2), .second] [])) _
      refine XS.aloadN X0.here hx rfl (hb hby d1_0) rfl rfl ?_
      exact κ)
  obtain ⟨T2, X2, e2, st2⟩ := initO X0 hx hZ hown (hw _ (List.mem_of_getElem? (i := 6) rfl)) (hw _ (List.mem_of_getElem? (i := 7) rfl)) (hw _ (List.mem_of_getElem? (i := 8) rfl)) e0 (g := (mkF m 1 #[.val (.ref o0), .val (.long q1), .second, .val (.long q2), .second] [(.ref o0)])) rfl (by rw [hml]; rfl) rfl (hb hby d1_1) (by decide) (W := 0) (by show 2 * 0 + _ ≤ _; exact Nat.le_of_eq rfl) (by decide)
  have c3 : ∀ τ, Steps p.tables e below (T2.setTop (mkF m 4 #[.val (.ref o0), .val (.long q1), .second, .val (.long q2), .second] [])) τ → Steps p.tables e below (s₁.setTop (entryFrame m #[(.ref o0), (.long q1), (.long q2)] 5)) τ := fun τ κ => c1 τ (st2 τ κ)
  have c4 : ∀ τ, Steps p.tables e below (T2.setTop (mkF m 6 #[.val (.ref o0), .val (.long q1), .second, .val (.long q2), .second] [(.long q1), (.ref o0)])) τ → Steps p.tables e below (s₁.setTop (entryFrame m #[(.ref o0), (.long q1), (.long q2)] 5)) τ := fun τ κ => c3 τ (by
      show Steps p.tables e below (T2.setTop (mkF m 4 #[.val (.ref o0), .val (.long q1), .second, .val (.long q2), .second] [])) _
      refine XS.aloadN X2.here hx rfl (hb hby d1_4) rfl rfl ?_
      show Steps p.tables e below (T2.setTop (mkF m 5 #[.val (.ref o0), .val (.long q1), .second, .val (.long q2), .second] [(.ref o0)])) _
      refine XS.lloadN X2.here hx rfl (hb hby d1_5) rfl ?_
      exact κ)
  obtain ⟨T5, h5, X5, e5, W5, st5⟩ := putF X2 hx hZ hown (host := "") (Or.inl (hw _ (List.mem_of_getElem? (i := 9) rfl))) Via.refl e2 F1 E (Or.inr ⟨(hw _ (List.mem_of_getElem? (i := 10) rfl)), rfl, hnm⟩) (hw _ (List.mem_of_getElem? (i := 1) rfl)) (ty := .long) (by decide) rfl rfl (g := (mkF m 6 #[.val (.ref o0), .val (.long q1), .second, .val (.long q2), .second] [(.long q1), (.ref o0)])) rfl rfl (hb hby d1_6)
  have F5 := F1.same W5
  have N5 := Fr.snoc X5 N0 g0
  have Z5 : n0 ≤ h5.size := Nat.le_trans Z0 (Keep.of_wr W5).1
  have K5 : Keep h0 h5 [o0] := (Keep.refl h0 [o0]).wr W5 (Or.inl (List.mem_of_getElem? (i := 0) rfl))
  have c6 : ∀ τ, Steps p.tables e below (T5.setTop (mkF m 9 #[.val (.ref o0), .val (.long q1), .second, .val (.long q2), .second] [])) τ → Steps p.tables e below (s₁.setTop (entryFrame m #[(.ref o0), (.long q1), (.long q2)] 5)) τ := fun τ κ => c4 τ (st5 τ κ)
  have c7 : ∀ τ, Steps p.tables e below (T5.setTop (mkF m 11 #[.val (.ref o0), .val (.long q1), .second, .val (.long q2), .second] [(.long q2), (.ref o0)])) τ → Steps p.tables e below (s₁.setTop (entryFrame m #[(.ref o0), (.long q1), (.long q2)] 5)) τ := fun τ κ => c6 τ (by
      show Steps p.tables e below (T5.setTop (mkF m 9 #[.val (.ref o0), .val (.long q1), .second, .val (.long q2), .second] [])) _
      refine XS.aloadN X5.here hx rfl (hb hby d1_9) rfl rfl ?_
      show Steps p.tables e below (T5.setTop (mkF m 10 #[.val (.ref o0), .val (.long q1), .second, .val (.long q2), .second] [(.ref o0)])) _
      refine XS.lloadN X5.here hx rfl (hb hby d1_10) rfl ?_
      exact κ)
  have f9 := (F2.other W5 (Or.inr (slot_ne (Or.inr (hw _ (List.mem_of_getElem? (i := 12) rfl))) (Or.inr (hw _ (List.mem_of_getElem? (i := 10) rfl))) (by decide) (t := .long) (t' := .long) (by decide) (by decide))))
  have f10 := (E.wr W5)
  obtain ⟨T8, h8, X8, e8, W8, st8⟩ := putF X5 hx hZ hown (host := "") (Or.inl (hw _ (List.mem_of_getElem? (i := 11) rfl))) Via.refl e5 f9 f10 (Or.inr ⟨(hw _ (List.mem_of_getElem? (i := 12) rfl)), rfl, hnm⟩) (hw _ (List.mem_of_getElem? (i := 1) rfl)) (ty := .long) (by decide) rfl rfl (g := (mkF m 11 #[.val (.ref o0), .val (.long q1), .second, .val (.long q2), .second] [(.long q2), (.ref o0)])) rfl rfl (hb hby d1_11)
  have F8 := f9.same W8
  have N8 := Fr.snoc X8 N5 g0
  have Z8 : n0 ≤ h8.size := Nat.le_trans Z5 (Keep.of_wr W8).1
  have K8 : Keep h0 h8 [o0] := K5.wr W8 (Or.inl (List.mem_of_getElem? (i := 0) rfl))
  have c11 : ∀ τ, Steps p.tables e below (T8.setTop (mkF m 14 #[.val (.ref o0), .val (.long q1), .second, .val (.long q2), .second] [])) τ → Steps p.tables e below (s₁.setTop (entryFrame m #[(.ref o0), (.long q1), (.long q2)] 5)) τ := fun τ κ => c7 τ (st8 τ κ)
  have f12 := (f10.wr W8)
  have f13 := (F5.other W8 (Or.inr (slot_ne (Or.inr (hw _ (List.mem_of_getElem? (i := 10) rfl))) (Or.inr (hw _ (List.mem_of_getElem? (i := 12) rfl))) (by decide) (t := .long) (t' := .long) (by decide) (by decide))))
  obtain ⟨fs, hr, hrun, hended, hW, hsame⟩ := X8.leave (v := none) (fun _ => rfl)
  refine ⟨_, _, c11 _ (X8.returnOut hx Bd.returns (hb hby d1_14) hr), hrun, hended, _, _, rfl, ?_, ⟨_, rfl⟩, hW, hsame.mono (by decide) (by decide)⟩
  show Q_rm1 Z o0 q1 q2 h0 n0 _ T8.heap _
  rw [e8]
  exact ⟨rfl, N8, K8, ⟨f12, f13, F8⟩⟩
theorem d3_0 : decode prog_43_method_9_code 0 = .ok (.aload_n 1, 1) := by decide +kernel
theorem d3_1 : decode prog_43_method_9_code 1 = .ok (.instanceof 10, 3) := by decide +kernel
theorem d3_4 : decode prog_43_method_9_code 4 = .ok (.ifCond .eq 36, 3) := by decide +kernel
theorem d3_7 : decode prog_43_method_9_code 7 = .ok (.aload_n 1, 1) := by decide +kernel
theorem d3_8 : decode prog_43_method_9_code 8 = .ok (.checkcast 10, 3) := by decide +kernel
theorem d3_11 : decode prog_43_method_9_code 11 = .ok (.astore_n 2, 1) := by decide +kernel
theorem d3_12 : decode prog_43_method_9_code 12 = .ok (.aload_n 0, 1) := by decide +kernel
theorem d3_13 : decode prog_43_method_9_code 13 = .ok (.getfield 9, 3) := by decide +kernel
theorem d3_16 : decode prog_43_method_9_code 16 = .ok (.aload_n 2, 1) := by decide +kernel
theorem d3_17 : decode prog_43_method_9_code 17 = .ok (.getfield 9, 3) := by decide +kernel
theorem d3_20 : decode prog_43_method_9_code 20 = .ok (.lcmp, 1) := by decide +kernel
theorem d3_21 : decode prog_43_method_9_code 21 = .ok (.ifCond .ne 19, 3) := by decide +kernel
theorem d3_24 : decode prog_43_method_9_code 24 = .ok (.aload_n 0, 1) := by decide +kernel
theorem d3_25 : decode prog_43_method_9_code 25 = .ok (.getfield 15, 3) := by decide +kernel
theorem d3_28 : decode prog_43_method_9_code 28 = .ok (.aload_n 2, 1) := by decide +kernel
theorem d3_29 : decode prog_43_method_9_code 29 = .ok (.getfield 15, 3) := by decide +kernel
theorem d3_32 : decode prog_43_method_9_code 32 = .ok (.lcmp, 1) := by decide +kernel
theorem d3_33 : decode prog_43_method_9_code 33 = .ok (.ifCond .ne 7, 3) := by decide +kernel
theorem d3_36 : decode prog_43_method_9_code 36 = .ok (.iconst 1, 1) := by decide +kernel
theorem d3_37 : decode prog_43_method_9_code 37 = .ok (.goto 4, 3) := by decide +kernel
theorem d3_40 : decode prog_43_method_9_code 40 = .ok (.iconst 0, 1) := by decide +kernel
theorem d3_41 : decode prog_43_method_9_code 41 = .ok (.ireturn, 1) := by decide +kernel
theorem ef_rm3 (m : MethodId) (x0 : Addr) (x1 : Addr) : entryFrame m #[(.ref x0), (.ref x1)] 3 = mkF m 0 #[.val (.ref x0), .val (.ref x1), .unset] [] := by first | (simp [entryFrame, mkF, argsToLocals, Value.category]; done) | rfl
def Q_rm3 (Z : State) (o0 : Addr) (o1 : Addr) (x y u vv : Int64) (h0 : Heap) (n0 : Nat) (v : Option Value) (h : Heap) (L : List Loc) : Prop := v = some (.int (own_eq x y u vv)) ∧ Fr n0 L ∧ h = h0
set_option maxRecDepth 65536 in
set_option maxHeartbeats 40000000 in
theorem rm3 (l : Launch) (Z : State) (a0 : Array Value) (hw : ∀ d ∈ tables_1, d.before a0 Z = true) (ws : List Jvm.Cond) (o0 : Addr) (o1 : Addr) (x y u vv : Int64) (h0 : Heap) (n0 : Nat) (Z0 : n0 ≤ h0.size) (M0 : own_M Z h0 o0 x y) (M1 : own_M Z h0 o1 u vv) :
    MetFree l (⟨"com/example/callbook/callbook/engine/Midpoint", "equals", "(Ljava/lang/Object;)Z"⟩ : MethodName) (head1 (Jvm.Cond.code (⟨"com/example/callbook/callbook/engine/Midpoint", "equals", "(Ljava/lang/Object;)Z"⟩ : MethodName) prog_43_method_9_code 3 (some .boolean) :: ws) ({ frames := 0, cells := 0, slots := 0, locals := 0 } : Room)) (fun a U => a = #[(.ref o0), (.ref o1)] ∧ Z.Warmed39 U.vm ∧ U.heap = h0) (fun _ _ _ _ _ => True) (fun _ U o U' => ∃ v L, o = .returned v ∧ Q_rm3 Z o0 o1 x y u vv h0 n0 v U'.heap L ∧ FrameEnd U o U' L ({ frames := 0, cells := 0, slots := 0, locals := 0 } : Room).cells ({ frames := 0, cells := 0, slots := 0, locals := 0 } : Room).slots) := by
  refine MetFree.of_bodySF (plainFor_of_name pn_0) hisR ?_
  intro p e s m args below meth c s₁ Bd hml0 hP hK
  obtain ⟨rfl, hZ, hh⟩ := hP
  have hx := Bd.exec
  have hby := Bd.bytes
  have hml : c.maxLocals = 3 := hml0
  have hown : s.vm.findClass "com/example/callbook/callbook/engine/Midpoint" = some m.cls := findClass_of_methodNamed Bd.named
  have hnm := (name_of_methodNamed Bd.named Bd.method).1
  have X0 : Stand p l e ({ frames := 0, cells := 0, slots := 0, locals := 0 } : Room) s m #[(.ref o0), (.ref o1)] below meth c s₁ [] 0 0 := Stand.of_body Bd
  have e0 : s₁.heap = h0 := by rw [← hh, Bd.state]; rfl
  have N0 := Fr.nil n0
  have c0 : ∀ τ, Steps p.tables e below (s₁.setTop (mkF m 0 #[.val (.ref o0), .val (.ref o1), .unset] [])) τ → Steps p.tables e below (s₁.setTop (entryFrame m #[(.ref o0), (.ref o1)] 3)) τ := fun τ κ => castTop (ef_rm3 m o0 o1) κ
  obtain ⟨E0, F0x, F0y⟩ := M0
  obtain ⟨E1, F1x, F1y⟩ := M1
  have c1 : ∀ τ, Steps p.tables e below (s₁.setTop (mkF m 1 #[.val (.ref o0), .val (.ref o1), .unset] [(.ref o1)])) τ → Steps p.tables e below (s₁.setTop (entryFrame m #[(.ref o0), (.ref o1)] 3)) τ := fun τ κ => c0 τ (by
      show Steps p.tables e below (s₁.setTop (mkF m 0 #[.val (.ref o0), .val (.ref o1), .unset] [])) _
      refine XS.aloadN X0.here hx rfl (hb hby d3_0) rfl rfl ?_
      exact κ)
  obtain ⟨T2, X2, e2, st2⟩ := instY X0 hx hZ hown (hw _ (List.mem_of_getElem? (i := 18) rfl)) e0 (Ins.self E1) (g := (mkF m 1 #[.val (.ref o0), .val (.ref o1), .unset] [(.ref o1)])) rfl rfl (hb hby d3_1)
  have c3 : ∀ τ, Steps p.tables e below (T2.setTop (mkF m 4 #[.val (.ref o0), .val (.ref o1), .unset] [(.int (1 : Int32))])) τ → Steps p.tables e below (s₁.setTop (entryFrame m #[(.ref o0), (.ref o1)] 3)) τ := fun τ κ => c1 τ (st2 τ κ)
  have c4 : ∀ τ, Steps p.tables e below (T2.setTop (mkF m 8 #[.val (.ref o0), .val (.ref o1), .unset] [(.ref o1)])) τ → Steps p.tables e below (s₁.setTop (entryFrame m #[(.ref o0), (.ref o1)] 3)) τ := fun τ κ => c3 τ (by
      show Steps p.tables e below (T2.setTop (mkF m 4 #[.val (.ref o0), .val (.ref o1), .unset] [(.int (1 : Int32))])) _
      refine XS.ifNo X2.here hx rfl (hb hby d3_4) rfl ((if0 _ _).trans (feq (by decide)).1) ?_
      show Steps p.tables e below (T2.setTop (mkF m 7 #[.val (.ref o0), .val (.ref o1), .unset] [])) _
      refine XS.aloadN X2.here hx rfl (hb hby d3_7) rfl rfl ?_
      exact κ)
  obtain ⟨T5, X5, e5, st5⟩ := castY X2 hx hZ hown (hw _ (List.mem_of_getElem? (i := 18) rfl)) e2 (Ins.self E1) (g := (mkF m 8 #[.val (.ref o0), .val (.ref o1), .unset] [(.ref o1)])) rfl rfl (hb hby d3_8)
  have c6 : ∀ τ, Steps p.tables e below (T5.setTop (mkF m 11 #[.val (.ref o0), .val (.ref o1), .unset] [(.ref o1)])) τ → Steps p.tables e below (s₁.setTop (entryFrame m #[(.ref o0), (.ref o1)] 3)) τ := fun τ κ => c4 τ (st5 τ κ)
  have c7 : ∀ τ, Steps p.tables e below (T5.setTop (mkF m 13 #[.val (.ref o0), .val (.ref o1), .val (.ref o1)] [(.ref o0)])) τ → Steps p.tables e below (s₁.setTop (entryFrame m #[(.ref o0), (.ref o1)] 3)) τ := fun τ κ => c6 τ (by
      show Steps p.tables e below (T5.setTop (mkF m 11 #[.val (.ref o0), .val (.ref o1), .unset] [(.ref o1)])) _
      refine XS.astoreN X5.here hx rfl (hb hby d3_11) rfl rfl (l' := #[.val (.ref o0), .val (.ref o1), .val (.ref o1)]) rfl ?_
      show Steps p.tables e below (T5.setTop (mkF m 12 #[.val (.ref o0), .val (.ref o1), .val (.ref o1)] [])) _
      refine XS.aloadN X5.here hx rfl (hb hby d3_12) rfl rfl ?_
      exact κ)
  obtain ⟨T8, X8, e8, st8⟩ := getF X5 hx hZ hown (host := "") (Or.inl (hw _ (List.mem_of_getElem? (i := 9) rfl))) Via.refl e5 F0x (g := (mkF m 13 #[.val (.ref o0), .val (.ref o1), .val (.ref o1)] [(.ref o0)])) rfl rfl (hb hby d3_13)
  have c9 : ∀ τ, Steps p.tables e below (T8.setTop (mkF m 16 #[.val (.ref o0), .val (.ref o1), .val (.ref o1)] [(.long x)])) τ → Steps p.tables e below (s₁.setTop (entryFrame m #[(.ref o0), (.ref o1)] 3)) τ := fun τ κ => c7 τ (st8 τ κ)
  have c10 : ∀ τ, Steps p.tables e below (T8.setTop (mkF m 17 #[.val (.ref o0), .val (.ref o1), .val (.ref o1)] [(.ref o1), (.long x)])) τ → Steps p.tables e below (s₁.setTop (entryFrame m #[(.ref o0), (.ref o1)] 3)) τ := fun τ κ => c9 τ (by
      show Steps p.tables e below (T8.setTop (mkF m 16 #[.val (.ref o0), .val (.ref o1), .val (.ref o1)] [(.long x)])) _
      refine XS.aloadN X8.here hx rfl (hb hby d3_16) rfl rfl ?_
      exact κ)
  obtain ⟨T11, X11, e11, st11⟩ := getF X8 hx hZ hown (host := "") (Or.inl (hw _ (List.mem_of_getElem? (i := 9) rfl))) Via.refl e8 F1x (g := (mkF m 17 #[.val (.ref o0), .val (.ref o1), .val (.ref o1)] [(.ref o1), (.long x)])) rfl rfl (hb hby d3_17)
  have c12 : ∀ τ, Steps p.tables e below (T11.setTop (mkF m 20 #[.val (.ref o0), .val (.ref o1), .val (.ref o1)] [(.long u), (.long x)])) τ → Steps p.tables e below (s₁.setTop (entryFrame m #[(.ref o0), (.ref o1)] 3)) τ := fun τ κ => c10 τ (st11 τ κ)
  have c13 : ∀ τ, Steps p.tables e below (T11.setTop (mkF m 21 #[.val (.ref o0), .val (.ref o1), .val (.ref o1)] [(.int (lcmpW x u))])) τ → Steps p.tables e below (s₁.setTop (entryFrame m #[(.ref o0), (.ref o1)] 3)) τ := fun τ κ => c12 τ (by
      show Steps p.tables e below (T11.setTop (mkF m 20 #[.val (.ref o0), .val (.ref o1), .val (.ref o1)] [(.long u), (.long x)])) _
      refine XS.lcmp X11.here hx rfl (hb hby d3_20) rfl ?_
      exact κ)
  by_cases h1 : x = u
  · have c14 : ∀ τ, Steps p.tables e below (T11.setTop (mkF m 25 #[.val (.ref o0), .val (.ref o1), .val (.ref o1)] [(.ref o0)])) τ → Steps p.tables e below (s₁.setTop (entryFrame m #[(.ref o0), (.ref o1)] 3)) τ := fun τ κ => c13 τ (by
        show Steps p.tables e below (T11.setTop (mkF m 21 #[.val (.ref o0), .val (.ref o1), .val (.ref o1)] [(.int (lcmpW x u))])) _
        refine XS.ifNo X11.here hx rfl (hb hby d3_21) rfl ((if0 _ _).trans (teq ((lw_eq x u).mpr h1)).2) ?_
        show Steps p.tables e below (T11.setTop (mkF m 24 #[.val (.ref o0), .val (.ref o1), .val (.ref o1)] [])) _
        refine XS.aloadN X11.here hx rfl (hb hby d3_24) rfl rfl ?_
        exact κ)
    obtain ⟨T15, X15, e15, st15⟩ := getF X11 hx hZ hown (host := "") (Or.inl (hw _ (List.mem_of_getElem? (i := 11) rfl))) Via.refl e11 F0y (g := (mkF m 25 #[.val (.ref o0), .val (.ref o1), .val (.ref o1)] [(.ref o0)])) rfl rfl (hb hby d3_25)
    have c16 : ∀ τ, Steps p.tables e below (T15.setTop (mkF m 28 #[.val (.ref o0), .val (.ref o1), .val (.ref o1)] [(.long y)])) τ → Steps p.tables e below (s₁.setTop (entryFrame m #[(.ref o0), (.ref o1)] 3)) τ := fun τ κ => c14 τ (st15 τ κ)
    have c17 : ∀ τ, Steps p.tables e below (T15.setTop (mkF m 29 #[.val (.ref o0), .val (.ref o1), .val (.ref o1)] [(.ref o1), (.long y)])) τ → Steps p.tables e below (s₁.setTop (entryFrame m #[(.ref o0), (.ref o1)] 3)) τ := fun τ κ => c16 τ (by
        show Steps p.tables e below (T15.setTop (mkF m 28 #[.val (.ref o0), .val (.ref o1), .val (.ref o1)] [(.long y)])) _
        refine XS.aloadN X15.here hx rfl (hb hby d3_28) rfl rfl ?_
        exact κ)
    obtain ⟨T18, X18, e18, st18⟩ := getF X15 hx hZ hown (host := "") (Or.inl (hw _ (List.mem_of_getElem? (i := 11) rfl))) Via.refl e15 F1y (g := (mkF m 29 #[.val (.ref o0), .val (.ref o1), .val (.ref o1)] [(.ref o1), (.long y)])) rfl rfl (hb hby d3_29)
    have c19 : ∀ τ, Steps p.tables e below (T18.setTop (mkF m 32 #[.val (.ref o0), .val (.ref o1), .val (.ref o1)] [(.long vv), (.long y)])) τ → Steps p.tables e below (s₁.setTop (entryFrame m #[(.ref o0), (.ref o1)] 3)) τ := fun τ κ => c17 τ (st18 τ κ)
    have c20 : ∀ τ, Steps p.tables e below (T18.setTop (mkF m 33 #[.val (.ref o0), .val (.ref o1), .val (.ref o1)] [(.int (lcmpW y vv))])) τ → Steps p.tables e below (s₁.setTop (entryFrame m #[(.ref o0), (.ref o1)] 3)) τ := fun τ κ => c19 τ (by
        show Steps p.tables e below (T18.setTop (mkF m 32 #[.val (.ref o0), .val (.ref o1), .val (.ref o1)] [(.long vv), (.long y)])) _
        refine XS.lcmp X18.here hx rfl (hb hby d3_32) rfl ?_
        exact κ)
    by_cases h2 : y = vv
    · have c21 : ∀ τ, Steps p.tables e below (T18.setTop (mkF m 41 #[.val (.ref o0), .val (.ref o1), .val (.ref o1)] [(.int (1 : Int32))])) τ → Steps p.tables e below (s₁.setTop (entryFrame m #[(.ref o0), (.ref o1)] 3)) τ := fun τ κ => c20 τ (by
          show Steps p.tables e below (T18.setTop (mkF m 33 #[.val (.ref o0), .val (.ref o1), .val (.ref o1)] [(.int (lcmpW y vv))])) _
          refine XS.ifNo X18.here hx rfl (hb hby d3_33) rfl ((if0 _ _).trans (teq ((lw_eq y vv).mpr h2)).2) ?_
          show Steps p.tables e below (T18.setTop (mkF m 36 #[.val (.ref o0), .val (.ref o1), .val (.ref o1)] [])) _
          refine XS.iconst X18.here hx rfl (hb hby d3_36) ?_
          show Steps p.tables e below (T18.setTop (mkF m 37 #[.val (.ref o0), .val (.ref o1), .val (.ref o1)] [(.int (1 : Int32))])) _
          refine XS.goto X18.here hx rfl (pc0 := 37) (pc' := 41) rfl (hb hby d3_37) (by decide) (by decide) ?_
          exact κ)
      obtain ⟨fs, hr, hrun, hended, hW, hsame⟩ := X18.leave (v := some (.int (own_eq x y u vv))) (fun h => by rw [Bd.returns] at h; cases h)
      refine ⟨_, _, c21 _ (retN X18 hx (t := .boolean) Bd.returns (by simp) (hb hby d3_41) (by rw [show nar .boolean (1 : Int32) = own_eq x y u vv from (own_eq1 h1 h2).symm]; exact hr)), hrun, hended, _, _, rfl, ?_, ⟨_, rfl⟩, hW, hsame.mono (by decide) (by decide)⟩
      show Q_rm3 Z o0 o1 x y u vv h0 n0 _ T18.heap _
      rw [e18]
      exact ⟨rfl, N0, rfl⟩
    · have c21 : ∀ τ, Steps p.tables e below (T18.setTop (mkF m 41 #[.val (.ref o0), .val (.ref o1), .val (.ref o1)] [(.int (0 : Int32))])) τ → Steps p.tables e below (s₁.setTop (entryFrame m #[(.ref o0), (.ref o1)] 3)) τ := fun τ κ => c20 τ (by
          show Steps p.tables e below (T18.setTop (mkF m 33 #[.val (.ref o0), .val (.ref o1), .val (.ref o1)] [(.int (lcmpW y vv))])) _
          refine XS.ifYes X18.here hx rfl (pc0 := 33) (pc' := 40) rfl (hb hby d3_33) rfl ((if0 _ _).trans (feq (mt (lw_eq y vv).mp h2)).2) (by decide) (by decide) ?_
          show Steps p.tables e below (T18.setTop (mkF m 40 #[.val (.ref o0), .val (.ref o1), .val (.ref o1)] [])) _
          refine XS.iconst X18.here hx rfl (hb hby d3_40) ?_
          exact κ)
      obtain ⟨fs, hr, hrun, hended, hW, hsame⟩ := X18.leave (v := some (.int (own_eq x y u vv))) (fun h => by rw [Bd.returns] at h; cases h)
      refine ⟨_, _, c21 _ (retN X18 hx (t := .boolean) Bd.returns (by simp) (hb hby d3_41) (by rw [show nar .boolean (0 : Int32) = own_eq x y u vv from (own_eq2 h2).symm]; exact hr)), hrun, hended, _, _, rfl, ?_, ⟨_, rfl⟩, hW, hsame.mono (by decide) (by decide)⟩
      show Q_rm3 Z o0 o1 x y u vv h0 n0 _ T18.heap _
      rw [e18]
      exact ⟨rfl, N0, rfl⟩
  · have c14 : ∀ τ, Steps p.tables e below (T11.setTop (mkF m 41 #[.val (.ref o0), .val (.ref o1), .val (.ref o1)] [(.int (0 : Int32))])) τ → Steps p.tables e below (s₁.setTop (entryFrame m #[(.ref o0), (.ref o1)] 3)) τ := fun τ κ => c13 τ (by
        show Steps p.tables e below (T11.setTop (mkF m 21 #[.val (.ref o0), .val (.ref o1), .val (.ref o1)] [(.int (lcmpW x u))])) _
        refine XS.ifYes X11.here hx rfl (pc0 := 21) (pc' := 40) rfl (hb hby d3_21) rfl ((if0 _ _).trans (feq (mt (lw_eq x u).mp h1)).2) (by decide) (by decide) ?_
        show Steps p.tables e below (T11.setTop (mkF m 40 #[.val (.ref o0), .val (.ref o1), .val (.ref o1)] [])) _
        refine XS.iconst X11.here hx rfl (hb hby d3_40) ?_
        exact κ)
    obtain ⟨fs, hr, hrun, hended, hW, hsame⟩ := X11.leave (v := some (.int (own_eq x y u vv))) (fun h => by rw [Bd.returns] at h; cases h)
    refine ⟨_, _, c14 _ (retN X11 hx (t := .boolean) Bd.returns (by simp) (hb hby d3_41) (by rw [show nar .boolean (0 : Int32) = own_eq x y u vv from (own_eq3 h1).symm]; exact hr)), hrun, hended, _, _, rfl, ?_, ⟨_, rfl⟩, hW, hsame.mono (by decide) (by decide)⟩
    show Q_rm3 Z o0 o1 x y u vv h0 n0 _ T11.heap _
    rw [e11]
    exact ⟨rfl, N0, rfl⟩
theorem ef_rm3n (m : MethodId) (x0 : Addr) : entryFrame m #[(.ref x0), .null] 3 = mkF m 0 #[.val (.ref x0), .val .null, .unset] [] := by first | (simp [entryFrame, mkF, argsToLocals, Value.category]; done) | rfl
def Q_rm3n (Z : State) (o0 : Addr) (h0 : Heap) (n0 : Nat) (v : Option Value) (h : Heap) (L : List Loc) : Prop := v = some (.int (0 : Int32)) ∧ Fr n0 L ∧ h = h0
set_option maxRecDepth 65536 in
set_option maxHeartbeats 40000000 in
theorem rm3n (l : Launch) (Z : State) (a0 : Array Value) (hw : ∀ d ∈ tables_1, d.before a0 Z = true) (ws : List Jvm.Cond) (o0 : Addr) (h0 : Heap) (n0 : Nat) (Z0 : n0 ≤ h0.size) :
    MetFree l (⟨"com/example/callbook/callbook/engine/Midpoint", "equals", "(Ljava/lang/Object;)Z"⟩ : MethodName) (head1 (Jvm.Cond.code (⟨"com/example/callbook/callbook/engine/Midpoint", "equals", "(Ljava/lang/Object;)Z"⟩ : MethodName) prog_43_method_9_code 3 (some .boolean) :: ws) ({ frames := 0, cells := 0, slots := 0, locals := 0 } : Room)) (fun a U => a = #[(.ref o0), .null] ∧ Z.Warmed39 U.vm ∧ U.heap = h0) (fun _ _ _ _ _ => True) (fun _ U o U' => ∃ v L, o = .returned v ∧ Q_rm3n Z o0 h0 n0 v U'.heap L ∧ FrameEnd U o U' L ({ frames := 0, cells := 0, slots := 0, locals := 0 } : Room).cells ({ frames := 0, cells := 0, slots := 0, locals := 0 } : Room).slots) := by
  refine MetFree.of_bodySF (plainFor_of_name pn_0) hisR ?_
  intro p e s m args below meth c s₁ Bd hml0 hP hK
  obtain ⟨rfl, hZ, hh⟩ := hP
  have hx := Bd.exec
  have hby := Bd.bytes
  have hml : c.maxLocals = 3 := hml0
  have hown : s.vm.findClass "com/example/callbook/callbook/engine/Midpoint" = some m.cls := findClass_of_methodNamed Bd.named
  have hnm := (name_of_methodNamed Bd.named Bd.method).1
  have X0 : Stand p l e ({ frames := 0, cells := 0, slots := 0, locals := 0 } : Room) s m #[(.ref o0), .null] below meth c s₁ [] 0 0 := Stand.of_body Bd
  have e0 : s₁.heap = h0 := by rw [← hh, Bd.state]; rfl
  have N0 := Fr.nil n0
  have c0 : ∀ τ, Steps p.tables e below (s₁.setTop (mkF m 0 #[.val (.ref o0), .val .null, .unset] [])) τ → Steps p.tables e below (s₁.setTop (entryFrame m #[(.ref o0), .null] 3)) τ := fun τ κ => castTop (ef_rm3n m o0) κ
  have c1 : ∀ τ, Steps p.tables e below (s₁.setTop (mkF m 1 #[.val (.ref o0), .val .null, .unset] [.null])) τ → Steps p.tables e below (s₁.setTop (entryFrame m #[(.ref o0), .null] 3)) τ := fun τ κ => c0 τ (by
      show Steps p.tables e below (s₁.setTop (mkF m 0 #[.val (.ref o0), .val .null, .unset] [])) _
      refine XS.aloadN X0.here hx rfl (hb hby d3_0) rfl rfl ?_
      exact κ)
  have c2 : ∀ τ, Steps p.tables e below (s₁.setTop (mkF m 4 #[.val (.ref o0), .val .null, .unset] [(.int (0 : Int32))])) τ → Steps p.tables e below (s₁.setTop (entryFrame m #[(.ref o0), .null] 3)) τ := fun τ κ => c1 τ (X0.instanceofNull hx (g := (mkF m 1 #[.val (.ref o0), .val .null, .unset] [.null])) rfl rfl (hb hby d3_1) _ κ)
  have c3 : ∀ τ, Steps p.tables e below (s₁.setTop (mkF m 41 #[.val (.ref o0), .val .null, .unset] [(.int (0 : Int32))])) τ → Steps p.tables e below (s₁.setTop (entryFrame m #[(.ref o0), .null] 3)) τ := fun τ κ => c2 τ (by
      show Steps p.tables e below (s₁.setTop (mkF m 4 #[.val (.ref o0), .val .null, .unset] [(.int (0 : Int32))])) _
      refine XS.ifYes X0.here hx rfl (pc0 := 4) (pc' := 40) rfl (hb hby d3_4) rfl ((if0 _ _).trans (teq rfl).1) (by decide) (by decide) ?_
      show Steps p.tables e below (s₁.setTop (mkF m 40 #[.val (.ref o0), .val .null, .unset] [])) _
      refine XS.iconst X0.here hx rfl (hb hby d3_40) ?_
      exact κ)
  obtain ⟨fs, hr, hrun, hended, hW, hsame⟩ := X0.leave (v := some (.int (0 : Int32))) (fun h => by rw [Bd.returns] at h; cases h)
  refine ⟨_, _, c3 _ (retN X0 hx (t := .boolean) Bd.returns (by simp) (hb hby d3_41) hr), hrun, hended, _, _, rfl, ?_, ⟨_, rfl⟩, hW, hsame.mono (by decide) (by decide)⟩
  show Q_rm3n Z o0 h0 n0 _ s₁.heap _
  rw [e0]
  exact ⟨rfl, N0, rfl⟩
theorem ef_rm3l (m : MethodId) (x0 : Addr) (x1 : Addr) : entryFrame m #[(.ref x0), (.ref x1)] 3 = mkF m 0 #[.val (.ref x0), .val (.ref x1), .unset] [] := by first | (simp [entryFrame, mkF, argsToLocals, Value.category]; done) | rfl
def Q_rm3l (Z : State) (o0 : Addr) (o1 : Addr) (h0 : Heap) (n0 : Nat) (v : Option Value) (h : Heap) (L : List Loc) : Prop := v = some (.int (0 : Int32)) ∧ Fr n0 L ∧ h = h0
set_option maxRecDepth 65536 in
set_option maxHeartbeats 40000000 in
theorem rm3l (l : Launch) (Z : State) (a0 : Array Value) (hw : ∀ d ∈ tables_1, d.before a0 Z = true) (ws : List Jvm.Cond) (o0 : Addr) (o1 : Addr) (h0 : Heap) (n0 : Nat) (Z0 : n0 ≤ h0.size) (E1 : Exa Z h0 o1 "java/lang/Long") :
    MetFree l (⟨"com/example/callbook/callbook/engine/Midpoint", "equals", "(Ljava/lang/Object;)Z"⟩ : MethodName) (head1 (Jvm.Cond.code (⟨"com/example/callbook/callbook/engine/Midpoint", "equals", "(Ljava/lang/Object;)Z"⟩ : MethodName) prog_43_method_9_code 3 (some .boolean) :: ws) ({ frames := 0, cells := 0, slots := 0, locals := 0 } : Room)) (fun a U => a = #[(.ref o0), (.ref o1)] ∧ Z.Warmed39 U.vm ∧ U.heap = h0) (fun _ _ _ _ _ => True) (fun _ U o U' => ∃ v L, o = .returned v ∧ Q_rm3l Z o0 o1 h0 n0 v U'.heap L ∧ FrameEnd U o U' L ({ frames := 0, cells := 0, slots := 0, locals := 0 } : Room).cells ({ frames := 0, cells := 0, slots := 0, locals := 0 } : Room).slots) := by
  refine MetFree.of_bodySF (plainFor_of_name pn_0) hisR ?_
  intro p e s m args below meth c s₁ Bd hml0 hP hK
  obtain ⟨rfl, hZ, hh⟩ := hP
  have hx := Bd.exec
  have hby := Bd.bytes
  have hml : c.maxLocals = 3 := hml0
  have hown : s.vm.findClass "com/example/callbook/callbook/engine/Midpoint" = some m.cls := findClass_of_methodNamed Bd.named
  have hnm := (name_of_methodNamed Bd.named Bd.method).1
  have X0 : Stand p l e ({ frames := 0, cells := 0, slots := 0, locals := 0 } : Room) s m #[(.ref o0), (.ref o1)] below meth c s₁ [] 0 0 := Stand.of_body Bd
  have e0 : s₁.heap = h0 := by rw [← hh, Bd.state]; rfl
  have N0 := Fr.nil n0
  have c0 : ∀ τ, Steps p.tables e below (s₁.setTop (mkF m 0 #[.val (.ref o0), .val (.ref o1), .unset] [])) τ → Steps p.tables e below (s₁.setTop (entryFrame m #[(.ref o0), (.ref o1)] 3)) τ := fun τ κ => castTop (ef_rm3l m o0 o1) κ
  have c1 : ∀ τ, Steps p.tables e below (s₁.setTop (mkF m 1 #[.val (.ref o0), .val (.ref o1), .unset] [(.ref o1)])) τ → Steps p.tables e below (s₁.setTop (entryFrame m #[(.ref o0), (.ref o1)] 3)) τ := fun τ κ => c0 τ (by
      show Steps p.tables e below (s₁.setTop (mkF m 0 #[.val (.ref o0), .val (.ref o1), .unset] [])) _
      refine XS.aloadN X0.here hx rfl (hb hby d3_0) rfl rfl ?_
      exact κ)
  obtain ⟨T2, X2, e2, st2⟩ := instNo X0 hx hZ hown (hw _ (List.mem_of_getElem? (i := 18) rfl)) e0 E1 (own_no hw) (g := (mkF m 1 #[.val (.ref o0), .val (.ref o1), .unset] [(.ref o1)])) rfl rfl (hb hby d3_1)
  have c3 : ∀ τ, Steps p.tables e below (T2.setTop (mkF m 4 #[.val (.ref o0), .val (.ref o1), .unset] [(.int (0 : Int32))])) τ → Steps p.tables e below (s₁.setTop (entryFrame m #[(.ref o0), (.ref o1)] 3)) τ := fun τ κ => c1 τ (st2 τ κ)
  have c4 : ∀ τ, Steps p.tables e below (T2.setTop (mkF m 41 #[.val (.ref o0), .val (.ref o1), .unset] [(.int (0 : Int32))])) τ → Steps p.tables e below (s₁.setTop (entryFrame m #[(.ref o0), (.ref o1)] 3)) τ := fun τ κ => c3 τ (by
      show Steps p.tables e below (T2.setTop (mkF m 4 #[.val (.ref o0), .val (.ref o1), .unset] [(.int (0 : Int32))])) _
      refine XS.ifYes X2.here hx rfl (pc0 := 4) (pc' := 40) rfl (hb hby d3_4) rfl ((if0 _ _).trans (teq rfl).1) (by decide) (by decide) ?_
      show Steps p.tables e below (T2.setTop (mkF m 40 #[.val (.ref o0), .val (.ref o1), .unset] [])) _
      refine XS.iconst X2.here hx rfl (hb hby d3_40) ?_
      exact κ)
  obtain ⟨fs, hr, hrun, hended, hW, hsame⟩ := X2.leave (v := some (.int (0 : Int32))) (fun h => by rw [Bd.returns] at h; cases h)
  refine ⟨_, _, c4 _ (retN X2 hx (t := .boolean) Bd.returns (by simp) (hb hby d3_41) hr), hrun, hended, _, _, rfl, ?_, ⟨_, rfl⟩, hW, hsame.mono (by decide) (by decide)⟩
  show Q_rm3l Z o0 o1 h0 n0 _ T2.heap _
  rw [e2]
  exact ⟨rfl, N0, rfl⟩
theorem d6_0 : decode jdk_18_method_1_code 0 = .ok (.aload_n 0, 1) := by decide +kernel
theorem d6_1 : decode jdk_18_method_1_code 1 = .ok (.invokespecial 1, 3) := by decide +kernel
theorem d6_4 : decode jdk_18_method_1_code 4 = .ok (.return_, 1) := by decide +kernel
theorem pn_3 : plainName "java/lang/Number" = true := by first | (simp [plainName, overriddenIn]; done) | decide +kernel
theorem ef_rm6 (m : MethodId) (x0 : Addr) : entryFrame m #[(.ref x0)] 1 = mkF m 0 #[.val (.ref x0)] [] := by first | (simp [entryFrame, mkF, argsToLocals, Value.category]; done) | rfl
def Q_rm6 (Z : State) (o0 : Addr) (h0 : Heap) (n0 : Nat) (v : Option Value) (h : Heap) (L : List Loc) : Prop := v = none ∧ Fr n0 L ∧ h = h0
set_option maxRecDepth 65536 in
set_option maxHeartbeats 40000000 in
theorem rm6 (l : Launch) (Z : State) (a0 : Array Value) (hw : ∀ d ∈ tables_1, d.before a0 Z = true) (ws : List Jvm.Cond) (o0 : Addr) (h0 : Heap) (n0 : Nat) (Z0 : n0 ≤ h0.size) :
    MetFree l (⟨"java/lang/Number", "<init>", "()V"⟩ : MethodName) (head1 (Jvm.Cond.code (⟨"java/lang/Number", "<init>", "()V"⟩ : MethodName) jdk_18_method_1_code 1 none :: ws) ({ frames := 1, cells := 0, slots := 0, locals := 12 } : Room)) (fun a U => a = #[(.ref o0)] ∧ Z.Warmed39 U.vm ∧ U.heap = h0) (fun _ _ _ _ _ => True) (fun _ U o U' => ∃ v L, o = .returned v ∧ Q_rm6 Z o0 h0 n0 v U'.heap L ∧ FrameEnd U o U' L ({ frames := 1, cells := 0, slots := 0, locals := 12 } : Room).cells ({ frames := 1, cells := 0, slots := 0, locals := 12 } : Room).slots) := by
  refine MetFree.of_bodySF (plainFor_of_name pn_3) hisR ?_
  intro p e s m args below meth c s₁ Bd hml0 hP hK
  obtain ⟨rfl, hZ, hh⟩ := hP
  have hx := Bd.exec
  have hby := Bd.bytes
  have hml : c.maxLocals = 1 := hml0
  have hown : s.vm.findClass "java/lang/Number" = some m.cls := findClass_of_methodNamed Bd.named
  have hnm := (name_of_methodNamed Bd.named Bd.method).1
  have X0 : Stand p l e ({ frames := 1, cells := 0, slots := 0, locals := 12 } : Room) s m #[(.ref o0)] below meth c s₁ [] 0 0 := Stand.of_body Bd
  have e0 : s₁.heap = h0 := by rw [← hh, Bd.state]; rfl
  have N0 := Fr.nil n0
  have c0 : ∀ τ, Steps p.tables e below (s₁.setTop (mkF m 0 #[.val (.ref o0)] [])) τ → Steps p.tables e below (s₁.setTop (entryFrame m #[(.ref o0)] 1)) τ := fun τ κ => castTop (ef_rm6 m o0) κ
  have c1 : ∀ τ, Steps p.tables e below (s₁.setTop (mkF m 1 #[.val (.ref o0)] [(.ref o0)])) τ → Steps p.tables e below (s₁.setTop (entryFrame m #[(.ref o0)] 1)) τ := fun τ κ => c0 τ (by
      show Steps p.tables e below (s₁.setTop (mkF m 0 #[.val (.ref o0)] [])) _
      refine XS.aloadN X0.here hx rfl (hb hby d6_0) rfl rfl ?_
      exact κ)
  obtain ⟨T2, X2, e2, st2⟩ := initO X0 hx hZ hown (hw _ (List.mem_of_getElem? (i := 43) rfl)) (hw _ (List.mem_of_getElem? (i := 7) rfl)) (hw _ (List.mem_of_getElem? (i := 8) rfl)) e0 (g := (mkF m 1 #[.val (.ref o0)] [(.ref o0)])) rfl (by rw [hml]; rfl) rfl (hb hby d6_1) (by decide) (W := 0) (by show 2 * 0 + _ ≤ _; exact Nat.le_of_eq rfl) (by decide)
  have c3 : ∀ τ, Steps p.tables e below (T2.setTop (mkF m 4 #[.val (.ref o0)] [])) τ → Steps p.tables e below (s₁.setTop (entryFrame m #[(.ref o0)] 1)) τ := fun τ κ => c1 τ (st2 τ κ)
  obtain ⟨fs, hr, hrun, hended, hW, hsame⟩ := X2.leave (v := none) (fun _ => rfl)
  refine ⟨_, _, c3 _ (X2.returnOut hx Bd.returns (hb hby d6_4) hr), hrun, hended, _, _, rfl, ?_, ⟨_, rfl⟩, hW, hsame.mono (by decide) (by decide)⟩
  show Q_rm6 Z o0 h0 n0 _ T2.heap _
  rw [e2]
  exact ⟨rfl, N0, rfl⟩
theorem d5_0 : decode jdk_35_method_26_code 0 = .ok (.aload_n 0, 1) := by decide +kernel
theorem d5_1 : decode jdk_35_method_26_code 1 = .ok (.invokespecial 270, 3) := by decide +kernel
theorem d5_4 : decode jdk_35_method_26_code 4 = .ok (.aload_n 0, 1) := by decide +kernel
theorem d5_5 : decode jdk_35_method_26_code 5 = .ok (.lload_n 1, 1) := by decide +kernel
theorem d5_6 : decode jdk_35_method_26_code 6 = .ok (.putfield 273, 3) := by decide +kernel
theorem d5_9 : decode jdk_35_method_26_code 9 = .ok (.return_, 1) := by decide +kernel
theorem pd_0 : parseMethodDescriptor "()V" = some ⟨[], none⟩ := by decide +kernel
theorem pn_2 : plainName "java/lang/Long" = true := by first | (simp [plainName, overriddenIn]; done) | decide +kernel
theorem ef_rm5 (m : MethodId) (x0 : Addr) (x1 : Int64) : entryFrame m #[(.ref x0), (.long x1)] 3 = mkF m 0 #[.val (.ref x0), .val (.long x1), .second] [] := by first | (simp [entryFrame, mkF, argsToLocals, Value.category]; done) | rfl
def Q_rm5 (Z : State) (o0 : Addr) (q1 : Int64) (h0 : Heap) (n0 : Nat) (v : Option Value) (h : Heap) (L : List Loc) : Prop := v = none ∧ Fr n0 L ∧ Keep h0 h [o0] ∧ Exa Z h o0 "java/lang/Long"
set_option maxRecDepth 65536 in
set_option maxHeartbeats 40000000 in
theorem rm5 (l : Launch) (Z : State) (a0 : Array Value) (hw : ∀ d ∈ tables_1, d.before a0 Z = true) (ws : List Jvm.Cond) (o0 : Addr) (q1 : Int64) (h0 : Heap) (n0 : Nat) (Z0 : n0 ≤ h0.size) (E : Exa Z h0 o0 "java/lang/Long") (F : Fld Z h0 o0 "java/lang/Long" "value" "J" (.long 0)) (g0 : n0 ≤ o0) :
    MetFree l (⟨"java/lang/Long", "<init>", "(J)V"⟩ : MethodName) (head1 (Jvm.Cond.code (⟨"java/lang/Long", "<init>", "(J)V"⟩ : MethodName) jdk_35_method_26_code 3 none :: ws) ({ frames := 2, cells := 0, slots := 0, locals := 24 } : Room)) (fun a U => a = #[(.ref o0), (.long q1)] ∧ Z.Warmed39 U.vm ∧ U.heap = h0) (fun _ _ _ _ _ => True) (fun _ U o U' => ∃ v L, o = .returned v ∧ Q_rm5 Z o0 q1 h0 n0 v U'.heap L ∧ FrameEnd U o U' L ({ frames := 2, cells := 0, slots := 0, locals := 24 } : Room).cells ({ frames := 2, cells := 0, slots := 0, locals := 24 } : Room).slots) := by
  refine MetFree.of_bodySF (plainFor_of_name pn_2) hisR ?_
  intro p e s m args below meth c s₁ Bd hml0 hP hK
  obtain ⟨rfl, hZ, hh⟩ := hP
  have hx := Bd.exec
  have hby := Bd.bytes
  have hml : c.maxLocals = 3 := hml0
  have hown : s.vm.findClass "java/lang/Long" = some m.cls := findClass_of_methodNamed Bd.named
  have hnm := (name_of_methodNamed Bd.named Bd.method).1
  have X0 : Stand p l e ({ frames := 2, cells := 0, slots := 0, locals := 24 } : Room) s m #[(.ref o0), (.long q1)] below meth c s₁ [] 0 0 := Stand.of_body Bd
  have e0 : s₁.heap = h0 := by rw [← hh, Bd.state]; rfl
  have N0 := Fr.nil n0
  have c0 : ∀ τ, Steps p.tables e below (s₁.setTop (mkF m 0 #[.val (.ref o0), .val (.long q1), .second] [])) τ → Steps p.tables e below (s₁.setTop (entryFrame m #[(.ref o0), (.long q1)] 3)) τ := fun τ κ => castTop (ef_rm5 m o0 q1) κ
  have c1 : ∀ τ, Steps p.tables e below (s₁.setTop (mkF m 1 #[.val (.ref o0), .val (.long q1), .second] [(.ref o0)])) τ → Steps p.tables e below (s₁.setTop (entryFrame m #[(.ref o0), (.long q1)] 3)) τ := fun τ κ => c0 τ (by
      show Steps p.tables e below (s₁.setTop (mkF m 0 #[.val (.ref o0), .val (.long q1), .second] [])) _
      refine XS.aloadN X0.here hx rfl (hb hby d5_0) rfl rfl ?_
      exact κ)
  obtain ⟨_, _, ⟨T2, L2, k2, n2⟩, -, X2, ⟨Lc2, hQ2, l2, y2, z2⟩, st2⟩ := X0.specialBack hx (y := (⟨"java/lang/Number", "<init>", "()V"⟩ : MethodName)) rfl hown (mvT hZ (hw _ (List.mem_of_getElem? (i := 37) rfl))) (mvT hZ (hw _ (List.mem_of_getElem? (i := 38) rfl))) (mvT hZ (hw _ (List.mem_of_getElem? (i := 42) rfl))) (by decide) (backOf (W := 0) (rm6 l Z a0 hw [] o0 h0 n0 Z0) hZ (hw _ (List.mem_of_getElem? (i := 42) rfl)) (hw _ (List.mem_of_getElem? (i := 41) rfl)) (by decide) (by decide)) (g := (mkF m 1 #[.val (.ref o0), .val (.long q1), .second] [(.ref o0)])) rfl (by rw [hml]; rfl) (Steps.refl _) (a := o0) (argsL := []) (rest := []) (lenOf pd_0 rfl) rfl (by show 2 * 0 + _ ≤ _; exact Nat.le_of_eq rfl) (hb hby d5_1) (fun _ _ => ⟨rfl, e0, (by decide : 0 + 0 ≤ _), (by decide : 0 + 0 ≤ _)⟩)
  dsimp only [Pt.U, Pt.locs, Pt.cells, Pt.slots] at X2 l2 y2 z2 st2 hQ2
  subst l2 y2 z2
  obtain ⟨rfl, N2q, e2⟩ := hQ2
  have N2 := Fr.app N0 N2q
  have c3 : ∀ τ, Steps p.tables e below (T2.setTop (mkF m 4 #[.val (.ref o0), .val (.long q1), .second] [])) τ → Steps p.tables e below (s₁.setTop (entryFrame m #[(.ref o0), (.long q1)] 3)) τ := fun τ κ => c1 τ (st2.trans κ)
  have c4 : ∀ τ, Steps p.tables e below (T2.setTop (mkF m 6 #[.val (.ref o0), .val (.long q1), .second] [(.long q1), (.ref o0)])) τ → Steps p.tables e below (s₁.setTop (entryFrame m #[(.ref o0), (.long q1)] 3)) τ := fun τ κ => c3 τ (by
      show Steps p.tables e below (T2.setTop (mkF m 4 #[.val (.ref o0), .val (.long q1), .second] [])) _
      refine XS.aloadN X2.here hx rfl (hb hby d5_4) rfl rfl ?_
      show Steps p.tables e below (T2.setTop (mkF m 5 #[.val (.ref o0), .val (.long q1), .second] [(.ref o0)])) _
      refine XS.lloadN X2.here hx rfl (hb hby d5_5) rfl ?_
      exact κ)
  obtain ⟨T5, h5, X5, e5, W5, st5⟩ := putF X2 hx hZ hown (host := "") (Or.inl (hw _ (List.mem_of_getElem? (i := 44) rfl))) Via.refl e2 F E (Or.inr ⟨(hw _ (List.mem_of_getElem? (i := 45) rfl)), rfl, hnm⟩) (hw _ (List.mem_of_getElem? (i := 32) rfl)) (ty := .long) (by decide) rfl rfl (g := (mkF m 6 #[.val (.ref o0), .val (.long q1), .second] [(.long q1), (.ref o0)])) rfl rfl (hb hby d5_6)
  have F5 := F.same W5
  have N5 := Fr.snoc X5 N2 g0
  have Z5 : n0 ≤ h5.size := Nat.le_trans Z0 (Keep.of_wr W5).1
  have K5 : Keep h0 h5 [o0] := (Keep.refl h0 [o0]).wr W5 (Or.inl (List.mem_of_getElem? (i := 0) rfl))
  have c6 : ∀ τ, Steps p.tables e below (T5.setTop (mkF m 9 #[.val (.ref o0), .val (.long q1), .second] [])) τ → Steps p.tables e below (s₁.setTop (entryFrame m #[(.ref o0), (.long q1)] 3)) τ := fun τ κ => c4 τ (st5 τ κ)
  have f7 := (E.wr W5)
  obtain ⟨fs, hr, hrun, hended, hW, hsame⟩ := X5.leave (v := none) (fun _ => rfl)
  refine ⟨_, _, c6 _ (X5.returnOut hx Bd.returns (hb hby d5_9) hr), hrun, hended, _, _, rfl, ?_, ⟨_, rfl⟩, hW, hsame.mono (by decide) (by decide)⟩
  show Q_rm5 Z o0 q1 h0 n0 _ T5.heap _
  rw [e5]
  exact ⟨rfl, N5, K5, f7⟩
theorem d4_0 : decode jdk_35_method_24_code 0 = .ok (.sipush 128, 3) := by decide +kernel
theorem d4_3 : decode jdk_35_method_24_code 3 = .ok (.istore_n 2, 1) := by decide +kernel
theorem d4_4 : decode jdk_35_method_24_code 4 = .ok (.lload_n 0, 1) := by decide +kernel
theorem d4_5 : decode jdk_35_method_24_code 5 = .ok (.ldc2_w 230, 3) := by decide +kernel
theorem d4_8 : decode jdk_35_method_24_code 8 = .ok (.lcmp, 1) := by decide +kernel
theorem d4_9 : decode jdk_35_method_24_code 9 = .ok (.ifCond .lt 22, 3) := by decide +kernel
theorem d4_12 : decode jdk_35_method_24_code 12 = .ok (.lload_n 0, 1) := by decide +kernel
theorem d4_13 : decode jdk_35_method_24_code 13 = .ok (.ldc2_w 232, 3) := by decide +kernel
theorem d4_16 : decode jdk_35_method_24_code 16 = .ok (.lcmp, 1) := by decide +kernel
theorem d4_17 : decode jdk_35_method_24_code 17 = .ok (.ifCond .gt 14, 3) := by decide +kernel
theorem d4_20 : decode jdk_35_method_24_code 20 = .ok (.getstatic 234, 3) := by decide +kernel
theorem d4_23 : decode jdk_35_method_24_code 23 = .ok (.lload_n 0, 1) := by decide +kernel
theorem d4_24 : decode jdk_35_method_24_code 24 = .ok (.l2i, 1) := by decide +kernel
theorem d4_25 : decode jdk_35_method_24_code 25 = .ok (.sipush 128, 3) := by decide +kernel
theorem d4_28 : decode jdk_35_method_24_code 28 = .ok (.iadd, 1) := by decide +kernel
theorem d4_29 : decode jdk_35_method_24_code 29 = .ok (.aaload, 1) := by decide +kernel
theorem d4_30 : decode jdk_35_method_24_code 30 = .ok (.areturn, 1) := by decide +kernel
theorem d4_31 : decode jdk_35_method_24_code 31 = .ok (.new 1, 3) := by decide +kernel
theorem d4_34 : decode jdk_35_method_24_code 34 = .ok (.dup, 1) := by decide +kernel
theorem d4_35 : decode jdk_35_method_24_code 35 = .ok (.lload_n 0, 1) := by decide +kernel
theorem d4_36 : decode jdk_35_method_24_code 36 = .ok (.invokespecial 240, 3) := by decide +kernel
theorem d4_39 : decode jdk_35_method_24_code 39 = .ok (.areturn, 1) := by decide +kernel
theorem ef_rm4c (m : MethodId) (x0 : Int64) : entryFrame m #[(.long x0)] 3 = mkF m 0 #[.val (.long x0), .second, .unset] [] := by first | (simp [entryFrame, mkF, argsToLocals, Value.category]; done) | rfl
def Q_rm4c (Z : State) (q0 : Int64) (cc : Addr) (cl : Cell) (bb : Addr) (h0 : Heap) (n0 : Nat) (v : Option Value) (h : Heap) (L : List Loc) : Prop := v = some (.ref bb) ∧ Fr n0 L ∧ h = h0
set_option maxRecDepth 65536 in
set_option maxHeartbeats 40000000 in
theorem rm4c (l : Launch) (Z : State) (a0 : Array Value) (hw : ∀ d ∈ tables_1, d.before a0 Z = true) (ws : List Jvm.Cond) (q0 : Int64) (cc : Addr) (cl : Cell) (bb : Addr) (h0 : Heap) (n0 : Nat) (Z0 : n0 ≤ h0.size) (S : Sta Z h0 "java/lang/Long$LongCache" "cache" "[Ljava/lang/Long;" (.ref cc)) (Ar : Arr Z h0 cc cl (.object "java/lang/Long")) (hlo : ¬ q0 < (-128 : Int64)) (hhi : ¬ (127 : Int64) < q0) (hin : ¬ ((q0.toInt32 + (128 : Int32)) < 0 ∨ cl.slots.size ≤ (q0.toInt32 + (128 : Int32)).toNatClampNeg)) (hat : cl.slots[(q0.toInt32 + (128 : Int32)).toNatClampNeg]? = some (.ref bb)) :
    MetFree l (⟨"java/lang/Long", "valueOf", "(J)Ljava/lang/Long;"⟩ : MethodName) (head1 (Jvm.Cond.code (⟨"java/lang/Long", "valueOf", "(J)Ljava/lang/Long;"⟩ : MethodName) jdk_35_method_24_code 3 (some (.object "java/lang/Long")) :: ws) ({ frames := 0, cells := 0, slots := 0, locals := 0 } : Room)) (fun a U => a = #[(.long q0)] ∧ Z.Warmed39 U.vm ∧ U.heap = h0) (fun _ _ _ _ _ => True) (fun _ U o U' => ∃ v L, o = .returned v ∧ Q_rm4c Z q0 cc cl bb h0 n0 v U'.heap L ∧ FrameEnd U o U' L ({ frames := 0, cells := 0, slots := 0, locals := 0 } : Room).cells ({ frames := 0, cells := 0, slots := 0, locals := 0 } : Room).slots) := by
  refine MetFree.of_bodySF (plainFor_of_name pn_2) hisR ?_
  intro p e s m args below meth c s₁ Bd hml0 hP hK
  obtain ⟨rfl, hZ, hh⟩ := hP
  have hx := Bd.exec
  have hby := Bd.bytes
  have hml : c.maxLocals = 3 := hml0
  have hown : s.vm.findClass "java/lang/Long" = some m.cls := findClass_of_methodNamed Bd.named
  have hnm := (name_of_methodNamed Bd.named Bd.method).1
  have X0 : Stand p l e ({ frames := 0, cells := 0, slots := 0, locals := 0 } : Room) s m #[(.long q0)] below meth c s₁ [] 0 0 := Stand.of_body Bd
  have e0 : s₁.heap = h0 := by rw [← hh, Bd.state]; rfl
  have N0 := Fr.nil n0
  have c0 : ∀ τ, Steps p.tables e below (s₁.setTop (mkF m 0 #[.val (.long q0), .second, .unset] [])) τ → Steps p.tables e below (s₁.setTop (entryFrame m #[(.long q0)] 3)) τ := fun τ κ => castTop (ef_rm4c m q0) κ
  have c1 : ∀ τ, Steps p.tables e below (s₁.setTop (mkF m 20 #[.val (.long q0), .second, .val (.int (128 : Int32))] [])) τ → Steps p.tables e below (s₁.setTop (entryFrame m #[(.long q0)] 3)) τ := fun τ κ => c0 τ (by
      show Steps p.tables e below (s₁.setTop (mkF m 0 #[.val (.long q0), .second, .unset] [])) _
      refine XS.sipush X0.here hx rfl (hb hby d4_0) ?_
      show Steps p.tables e below (s₁.setTop (mkF m 3 #[.val (.long q0), .second, .unset] [(.int (128 : Int32))])) _
      refine XS.istoreN X0.here hx rfl (hb hby d4_3) rfl (l' := #[.val (.long q0), .second, .val (.int (128 : Int32))]) rfl ?_
      show Steps p.tables e below (s₁.setTop (mkF m 4 #[.val (.long q0), .second, .val (.int (128 : Int32))] [])) _
      refine XS.lloadN X0.here hx rfl (hb hby d4_4) rfl ?_
      show Steps p.tables e below (s₁.setTop (mkF m 5 #[.val (.long q0), .second, .val (.int (128 : Int32))] [(.long q0)])) _
      refine X0.ldc2Long hx hown (mvT hZ (hw _ (List.mem_of_getElem? (i := 24) rfl))) (g := (mkF m 5 #[.val (.long q0), .second, .val (.int (128 : Int32))] [(.long q0)])) rfl (hb hby d4_5) _ ?_
      show Steps p.tables e below (s₁.setTop (mkF m 8 #[.val (.long q0), .second, .val (.int (128 : Int32))] [(.long (-128 : Int64)), (.long q0)])) _
      refine XS.lcmp X0.here hx rfl (hb hby d4_8) rfl ?_
      show Steps p.tables e below (s₁.setTop (mkF m 9 #[.val (.long q0), .second, .val (.int (128 : Int32))] [(.int (lcmpW q0 (-128 : Int64)))])) _
      refine XS.ifNo X0.here hx rfl (hb hby d4_9) rfl ((if0 _ _).trans (flt (mt (lw_lt q0 (-128 : Int64)).mp hlo)).1) ?_
      show Steps p.tables e below (s₁.setTop (mkF m 12 #[.val (.long q0), .second, .val (.int (128 : Int32))] [])) _
      refine XS.lloadN X0.here hx rfl (hb hby d4_12) rfl ?_
      show Steps p.tables e below (s₁.setTop (mkF m 13 #[.val (.long q0), .second, .val (.int (128 : Int32))] [(.long q0)])) _
      refine X0.ldc2Long hx hown (mvT hZ (hw _ (List.mem_of_getElem? (i := 25) rfl))) (g := (mkF m 13 #[.val (.long q0), .second, .val (.int (128 : Int32))] [(.long q0)])) rfl (hb hby d4_13) _ ?_
      show Steps p.tables e below (s₁.setTop (mkF m 16 #[.val (.long q0), .second, .val (.int (128 : Int32))] [(.long (127 : Int64)), (.long q0)])) _
      refine XS.lcmp X0.here hx rfl (hb hby d4_16) rfl ?_
      show Steps p.tables e below (s₁.setTop (mkF m 17 #[.val (.long q0), .second, .val (.int (128 : Int32))] [(.int (lcmpW q0 (127 : Int64)))])) _
      refine XS.ifNo X0.here hx rfl (hb hby d4_17) rfl ((if0 _ _).trans (flt (mt (lw_gt q0 (127 : Int64)).mp hhi)).2.2.1) ?_
      exact κ)
  obtain ⟨T2, X2, e2, st2⟩ := getS2 X0 hx hZ hown (host := "") (Or.inl (hw _ (List.mem_of_getElem? (i := 26) rfl))) Via.refl e0 S (g := (mkF m 20 #[.val (.long q0), .second, .val (.int (128 : Int32))] [])) rfl (hb hby d4_20)
  have c3 : ∀ τ, Steps p.tables e below (T2.setTop (mkF m 23 #[.val (.long q0), .second, .val (.int (128 : Int32))] [(.ref cc)])) τ → Steps p.tables e below (s₁.setTop (entryFrame m #[(.long q0)] 3)) τ := fun τ κ => c1 τ (st2 τ κ)
  have c4 : ∀ τ, Steps p.tables e below (T2.setTop (mkF m 29 #[.val (.long q0), .second, .val (.int (128 : Int32))] [(.int ((q0.toInt32) + (128 : Int32))), (.ref cc)])) τ → Steps p.tables e below (s₁.setTop (entryFrame m #[(.long q0)] 3)) τ := fun τ κ => c3 τ (by
      show Steps p.tables e below (T2.setTop (mkF m 23 #[.val (.long q0), .second, .val (.int (128 : Int32))] [(.ref cc)])) _
      refine XS.lloadN X2.here hx rfl (hb hby d4_23) rfl ?_
      show Steps p.tables e below (T2.setTop (mkF m 24 #[.val (.long q0), .second, .val (.int (128 : Int32))] [(.long q0), (.ref cc)])) _
      refine XS.l2i X2.here hx rfl (hb hby d4_24) rfl ?_
      show Steps p.tables e below (T2.setTop (mkF m 25 #[.val (.long q0), .second, .val (.int (128 : Int32))] [(.int (q0.toInt32)), (.ref cc)])) _
      refine XS.sipush X2.here hx rfl (hb hby d4_25) ?_
      show Steps p.tables e below (T2.setTop (mkF m 28 #[.val (.long q0), .second, .val (.int (128 : Int32))] [(.int (128 : Int32)), (.int (q0.toInt32)), (.ref cc)])) _
      refine XS.iadd X2.here hx rfl (hb hby d4_28) rfl ?_
      exact κ)
  have c5 : ∀ τ, Steps p.tables e below (T2.setTop (mkF m 30 #[.val (.long q0), .second, .val (.int (128 : Int32))] [(.ref bb)])) τ → Steps p.tables e below (s₁.setTop (entryFrame m #[(.long q0)] 3)) τ := fun τ κ => c4 τ (X2.aaload hx (j := ((q0.toInt32) + (128 : Int32))) (v := (.ref bb)) (by rw [e2]; exact Ar.1) (State.isArrayOf_alike hZ.alike Ar.2.1) rfl Ar.2.2 hin hat (g := (mkF m 29 #[.val (.long q0), .second, .val (.int (128 : Int32))] [(.int ((q0.toInt32) + (128 : Int32))), (.ref cc)])) rfl rfl (hb hby d4_29) _ κ)
  obtain ⟨fs, hr, hrun, hended, hW, hsame⟩ := X2.leave (v := some (.ref bb)) (fun h => by rw [Bd.returns] at h; cases h)
  refine ⟨_, _, c5 _ (retOut X2 hx Bd.returns rfl (Or.inr (Or.inr (Or.inr (Or.inr ⟨rfl, rfl, rfl⟩)))) (hb hby d4_30) hr), hrun, hended, _, _, rfl, ?_, ⟨_, rfl⟩, hW, hsame.mono (by decide) (by decide)⟩
  show Q_rm4c Z q0 cc cl bb h0 n0 _ T2.heap _
  rw [e2]
  exact ⟨rfl, N0, rfl⟩
theorem pd_2 : parseMethodDescriptor "(J)V" = some ⟨[.long], none⟩ := by decide +kernel
theorem ef_rm4a (m : MethodId) (x0 : Int64) : entryFrame m #[(.long x0)] 3 = mkF m 0 #[.val (.long x0), .second, .unset] [] := by first | (simp [entryFrame, mkF, argsToLocals, Value.category]; done) | rfl
def Q_rm4a (Z : State) (q0 : Int64) (h0 : Heap) (n0 : Nat) (v : Option Value) (h : Heap) (L : List Loc) : Prop := v = some (.ref h0.size) ∧ Fr n0 L ∧ Keep h0 h [] ∧ Exa Z h h0.size "java/lang/Long"
set_option maxRecDepth 65536 in
set_option maxHeartbeats 40000000 in
theorem rm4a (l : Launch) (Z : State) (a0 : Array Value) (hw : ∀ d ∈ tables_1, d.before a0 Z = true) (ws : List Jvm.Cond) (q0 : Int64) (h0 : Heap) (n0 : Nat) (Z0 : n0 ≤ h0.size) (hlo : q0 < (-128 : Int64)) :
    MetFree l (⟨"java/lang/Long", "valueOf", "(J)Ljava/lang/Long;"⟩ : MethodName) (head1 (Jvm.Cond.code (⟨"java/lang/Long", "valueOf", "(J)Ljava/lang/Long;"⟩ : MethodName) jdk_35_method_24_code 3 (some (.object "java/lang/Long")) :: ws) ({ frames := 3, cells := 1, slots := 1, locals := 39 } : Room)) (fun a U => a = #[(.long q0)] ∧ Z.Warmed39 U.vm ∧ U.heap = h0) (fun _ _ _ _ _ => True) (fun _ U o U' => ∃ v L, o = .returned v ∧ Q_rm4a Z q0 h0 n0 v U'.heap L ∧ FrameEnd U o U' L ({ frames := 3, cells := 1, slots := 1, locals := 39 } : Room).cells ({ frames := 3, cells := 1, slots := 1, locals := 39 } : Room).slots) := by
  refine MetFree.of_bodySF (plainFor_of_name pn_2) hisR ?_
  intro p e s m args below meth c s₁ Bd hml0 hP hK
  obtain ⟨rfl, hZ, hh⟩ := hP
  have hx := Bd.exec
  have hby := Bd.bytes
  have hml : c.maxLocals = 3 := hml0
  have hown : s.vm.findClass "java/lang/Long" = some m.cls := findClass_of_methodNamed Bd.named
  have hnm := (name_of_methodNamed Bd.named Bd.method).1
  have X0 : Stand p l e ({ frames := 3, cells := 1, slots := 1, locals := 39 } : Room) s m #[(.long q0)] below meth c s₁ [] 0 0 := Stand.of_body Bd
  have e0 : s₁.heap = h0 := by rw [← hh, Bd.state]; rfl
  have N0 := Fr.nil n0
  have c0 : ∀ τ, Steps p.tables e below (s₁.setTop (mkF m 0 #[.val (.long q0), .second, .unset] [])) τ → Steps p.tables e below (s₁.setTop (entryFrame m #[(.long q0)] 3)) τ := fun τ κ => castTop (ef_rm4a m q0) κ
  have c1 : ∀ τ, Steps p.tables e below (s₁.setTop (mkF m 31 #[.val (.long q0), .second, .val (.int (128 : Int32))] [])) τ → Steps p.tables e below (s₁.setTop (entryFrame m #[(.long q0)] 3)) τ := fun τ κ => c0 τ (by
      show Steps p.tables e below (s₁.setTop (mkF m 0 #[.val (.long q0), .second, .unset] [])) _
      refine XS.sipush X0.here hx rfl (hb hby d4_0) ?_
      show Steps p.tables e below (s₁.setTop (mkF m 3 #[.val (.long q0), .second, .unset] [(.int (128 : Int32))])) _
      refine XS.istoreN X0.here hx rfl (hb hby d4_3) rfl (l' := #[.val (.long q0), .second, .val (.int (128 : Int32))]) rfl ?_
      show Steps p.tables e below (s₁.setTop (mkF m 4 #[.val (.long q0), .second, .val (.int (128 : Int32))] [])) _
      refine XS.lloadN X0.here hx rfl (hb hby d4_4) rfl ?_
      show Steps p.tables e below (s₁.setTop (mkF m 5 #[.val (.long q0), .second, .val (.int (128 : Int32))] [(.long q0)])) _
      refine X0.ldc2Long hx hown (mvT hZ (hw _ (List.mem_of_getElem? (i := 24) rfl))) (g := (mkF m 5 #[.val (.long q0), .second, .val (.int (128 : Int32))] [(.long q0)])) rfl (hb hby d4_5) _ ?_
      show Steps p.tables e below (s₁.setTop (mkF m 8 #[.val (.long q0), .second, .val (.int (128 : Int32))] [(.long (-128 : Int64)), (.long q0)])) _
      refine XS.lcmp X0.here hx rfl (hb hby d4_8) rfl ?_
      show Steps p.tables e below (s₁.setTop (mkF m 9 #[.val (.long q0), .second, .val (.int (128 : Int32))] [(.int (lcmpW q0 (-128 : Int64)))])) _
      refine XS.ifYes X0.here hx rfl (pc0 := 9) (pc' := 31) rfl (hb hby d4_9) rfl ((if0 _ _).trans (tlt ((lw_lt q0 (-128 : Int64)).mpr hlo)).1) (by decide) (by decide) ?_
      exact κ)
  obtain ⟨T2, h2, X2, e2, E2, A2, D2, -, st2⟩ := newO X0 hx hZ hown (hw _ (List.mem_of_getElem? (i := 31) rfl)) (hw _ (List.mem_of_getElem? (i := 32) rfl)) (hw _ (List.mem_of_getElem? (i := 22) rfl)) e0 (g := (mkF m 31 #[.val (.long q0), .second, .val (.int (128 : Int32))] [])) rfl (hb hby d4_31) (by decide) (by decide)
  obtain ⟨b2, g2⟩ : ∃ z, z = h0.size := ⟨_, rfl⟩
  rw [← g2] at A2 D2 st2
  have gb2 : n0 ≤ b2 := Nat.le_trans Z0 (Nat.le_of_eq g2.symm)
  have Z2 : n0 ≤ h2.size := Nat.le_trans Z0 E2.1
  have sz2 : h0.size ≤ b2 := Nat.le_trans (Keep.refl h0 []).1 (Nat.le_of_eq g2.symm)
  have K2 : Keep h0 h2 [] := (Keep.refl h0 []).ext E2
  have F2_value : Fld Z h2 b2 "java/lang/Long" "value" "J" (.long (0 : Int64)) := D2 (Or.inr (hw _ (List.mem_of_getElem? (i := 45) rfl))) (ty := .long) (by decide)
  have c3 : ∀ τ, Steps p.tables e below (T2.setTop (mkF m 34 #[.val (.long q0), .second, .val (.int (128 : Int32))] [(.ref b2)])) τ → Steps p.tables e below (s₁.setTop (entryFrame m #[(.long q0)] 3)) τ := fun τ κ => c1 τ (st2 τ κ)
  have c4 : ∀ τ, Steps p.tables e below (T2.setTop (mkF m 36 #[.val (.long q0), .second, .val (.int (128 : Int32))] [(.long q0), (.ref b2), (.ref b2)])) τ → Steps p.tables e below (s₁.setTop (entryFrame m #[(.long q0)] 3)) τ := fun τ κ => c3 τ (by
      show Steps p.tables e below (T2.setTop (mkF m 34 #[.val (.long q0), .second, .val (.int (128 : Int32))] [(.ref b2)])) _
      refine XS.dup X2.here hx rfl (hb hby d4_34) rfl rfl ?_
      show Steps p.tables e below (T2.setTop (mkF m 35 #[.val (.long q0), .second, .val (.int (128 : Int32))] [(.ref b2), (.ref b2)])) _
      refine XS.lloadN X2.here hx rfl (hb hby d4_35) rfl ?_
      exact κ)
  obtain ⟨_, _, ⟨T5, L5, k5, n5⟩, -, X5, ⟨Lc5, hQ5, l5, y5, z5⟩, st5⟩ := X2.specialBack hx (y := (⟨"java/lang/Long", "<init>", "(J)V"⟩ : MethodName)) rfl hown (mvT hZ (hw _ (List.mem_of_getElem? (i := 33) rfl))) (mvT hZ (hw _ (List.mem_of_getElem? (i := 34) rfl))) (mvT hZ (hw _ (List.mem_of_getElem? (i := 36) rfl))) (by decide) (backOf (W := 1) (rm5 l Z a0 hw [] b2 q0 h2 n0 Z2 A2 F2_value gb2) hZ (hw _ (List.mem_of_getElem? (i := 36) rfl)) (hw _ (List.mem_of_getElem? (i := 22) rfl)) (by decide) (by decide)) (g := (mkF m 36 #[.val (.long q0), .second, .val (.int (128 : Int32))] [(.long q0), (.ref b2), (.ref b2)])) rfl (by rw [hml]; rfl) (Steps.refl _) (a := b2) (argsL := [(.long q0)]) (rest := [(.ref b2)]) (lenOf pd_2 rfl) rfl (by show 2 * 0 + _ ≤ _; exact Nat.le_of_eq rfl) (hb hby d4_36) (fun _ _ => ⟨rfl, e2, (by decide : 1 + 0 ≤ _), (by decide : 1 + 0 ≤ _)⟩)
  dsimp only [Pt.U, Pt.locs, Pt.cells, Pt.slots] at X5 l5 y5 z5 st5 hQ5
  subst l5 y5 z5
  obtain ⟨rfl, N5q, K5q, Ex5⟩ := hQ5
  have N5 := Fr.app N0 N5q
  have Z5 : n0 ≤ T5.heap.size := Nat.le_trans Z2 K5q.1
  have K5 : Keep h0 T5.heap [] := K2.trans K5q (allS (Or.inr sz2) all0)
  have c6 : ∀ τ, Steps p.tables e below (T5.setTop (mkF m 39 #[.val (.long q0), .second, .val (.int (128 : Int32))] [(.ref b2)])) τ → Steps p.tables e below (s₁.setTop (entryFrame m #[(.long q0)] 3)) τ := fun τ κ => c4 τ (st5.trans κ)
  have gE := g2
  have f7 := (A2.keep K5q)
  obtain ⟨fs, hr, hrun, hended, hW, hsame⟩ := X5.leave (v := some (.ref h0.size)) (fun h => by rw [Bd.returns] at h; cases h)
  refine ⟨_, _, c6 _ (by rw [← g2] at hr; exact retOut X5 hx Bd.returns rfl (Or.inr (Or.inr (Or.inr (Or.inr ⟨rfl, rfl, rfl⟩)))) (hb hby d4_39) hr), hrun, hended, _, _, rfl, ?_, ⟨_, rfl⟩, hW, hsame.mono (by decide) (by decide)⟩
  show Q_rm4a Z q0 h0 n0 _ T5.heap _
  exact ⟨rfl, N5, K5, by rw [← g2]; exact f7⟩
theorem ef_rm4b (m : MethodId) (x0 : Int64) : entryFrame m #[(.long x0)] 3 = mkF m 0 #[.val (.long x0), .second, .unset] [] := by first | (simp [entryFrame, mkF, argsToLocals, Value.category]; done) | rfl
def Q_rm4b (Z : State) (q0 : Int64) (h0 : Heap) (n0 : Nat) (v : Option Value) (h : Heap) (L : List Loc) : Prop := v = some (.ref h0.size) ∧ Fr n0 L ∧ Keep h0 h [] ∧ Exa Z h h0.size "java/lang/Long"
set_option maxRecDepth 65536 in
set_option maxHeartbeats 40000000 in
theorem rm4b (l : Launch) (Z : State) (a0 : Array Value) (hw : ∀ d ∈ tables_1, d.before a0 Z = true) (ws : List Jvm.Cond) (q0 : Int64) (h0 : Heap) (n0 : Nat) (Z0 : n0 ≤ h0.size) (hlo : ¬ q0 < (-128 : Int64)) (hhi : (127 : Int64) < q0) :
    MetFree l (⟨"java/lang/Long", "valueOf", "(J)Ljava/lang/Long;"⟩ : MethodName) (head1 (Jvm.Cond.code (⟨"java/lang/Long", "valueOf", "(J)Ljava/lang/Long;"⟩ : MethodName) jdk_35_method_24_code 3 (some (.object "java/lang/Long")) :: ws) ({ frames := 3, cells := 1, slots := 1, locals := 39 } : Room)) (fun a U => a = #[(.long q0)] ∧ Z.Warmed39 U.vm ∧ U.heap = h0) (fun _ _ _ _ _ => True) (fun _ U o U' => ∃ v L, o = .returned v ∧ Q_rm4b Z q0 h0 n0 v U'.heap L ∧ FrameEnd U o U' L ({ frames := 3, cells := 1, slots := 1, locals := 39 } : Room).cells ({ frames := 3, cells := 1, slots := 1, locals := 39 } : Room).slots) := by
  refine MetFree.of_bodySF (plainFor_of_name pn_2) hisR ?_
  intro p e s m args below meth c s₁ Bd hml0 hP hK
  obtain ⟨rfl, hZ, hh⟩ := hP
  have hx := Bd.exec
  have hby := Bd.bytes
  have hml : c.maxLocals = 3 := hml0
  have hown : s.vm.findClass "java/lang/Long" = some m.cls := findClass_of_methodNamed Bd.named
  have hnm := (name_of_methodNamed Bd.named Bd.method).1
  have X0 : Stand p l e ({ frames := 3, cells := 1, slots := 1, locals := 39 } : Room) s m #[(.long q0)] below meth c s₁ [] 0 0 := Stand.of_body Bd
  have e0 : s₁.heap = h0 := by rw [← hh, Bd.state]; rfl
  have N0 := Fr.nil n0
  have c0 : ∀ τ, Steps p.tables e below (s₁.setTop (mkF m 0 #[.val (.long q0), .second, .unset] [])) τ → Steps p.tables e below (s₁.setTop (entryFrame m #[(.long q0)] 3)) τ := fun τ κ => castTop (ef_rm4b m q0) κ
  have c1 : ∀ τ, Steps p.tables e below (s₁.setTop (mkF m 31 #[.val (.long q0), .second, .val (.int (128 : Int32))] [])) τ → Steps p.tables e below (s₁.setTop (entryFrame m #[(.long q0)] 3)) τ := fun τ κ => c0 τ (by
      show Steps p.tables e below (s₁.setTop (mkF m 0 #[.val (.long q0), .second, .unset] [])) _
      refine XS.sipush X0.here hx rfl (hb hby d4_0) ?_
      show Steps p.tables e below (s₁.setTop (mkF m 3 #[.val (.long q0), .second, .unset] [(.int (128 : Int32))])) _
      refine XS.istoreN X0.here hx rfl (hb hby d4_3) rfl (l' := #[.val (.long q0), .second, .val (.int (128 : Int32))]) rfl ?_
      show Steps p.tables e below (s₁.setTop (mkF m 4 #[.val (.long q0), .second, .val (.int (128 : Int32))] [])) _
      refine XS.lloadN X0.here hx rfl (hb hby d4_4) rfl ?_
      show Steps p.tables e below (s₁.setTop (mkF m 5 #[.val (.long q0), .second, .val (.int (128 : Int32))] [(.long q0)])) _
      refine X0.ldc2Long hx hown (mvT hZ (hw _ (List.mem_of_getElem? (i := 24) rfl))) (g := (mkF m 5 #[.val (.long q0), .second, .val (.int (128 : Int32))] [(.long q0)])) rfl (hb hby d4_5) _ ?_
      show Steps p.tables e below (s₁.setTop (mkF m 8 #[.val (.long q0), .second, .val (.int (128 : Int32))] [(.long (-128 : Int64)), (.long q0)])) _
      refine XS.lcmp X0.here hx rfl (hb hby d4_8) rfl ?_
      show Steps p.tables e below (s₁.setTop (mkF m 9 #[.val (.long q0), .second, .val (.int (128 : Int32))] [(.int (lcmpW q0 (-128 : Int64)))])) _
      refine XS.ifNo X0.here hx rfl (hb hby d4_9) rfl ((if0 _ _).trans (flt (mt (lw_lt q0 (-128 : Int64)).mp hlo)).1) ?_
      show Steps p.tables e below (s₁.setTop (mkF m 12 #[.val (.long q0), .second, .val (.int (128 : Int32))] [])) _
      refine XS.lloadN X0.here hx rfl (hb hby d4_12) rfl ?_
      show Steps p.tables e below (s₁.setTop (mkF m 13 #[.val (.long q0), .second, .val (.int (128 : Int32))] [(.long q0)])) _
      refine X0.ldc2Long hx hown (mvT hZ (hw _ (List.mem_of_getElem? (i := 25) rfl))) (g := (mkF m 13 #[.val (.long q0), .second, .val (.int (128 : Int32))] [(.long q0)])) rfl (hb hby d4_13) _ ?_
      show Steps p.tables e below (s₁.setTop (mkF m 16 #[.val (.long q0), .second, .val (.int (128 : Int32))] [(.long (127 : Int64)), (.long q0)])) _
      refine XS.lcmp X0.here hx rfl (hb hby d4_16) rfl ?_
      show Steps p.tables e below (s₁.setTop (mkF m 17 #[.val (.long q0), .second, .val (.int (128 : Int32))] [(.int (lcmpW q0 (127 : Int64)))])) _
      refine XS.ifYes X0.here hx rfl (pc0 := 17) (pc' := 31) rfl (hb hby d4_17) rfl ((if0 _ _).trans (tlt ((lw_gt q0 (127 : Int64)).mpr hhi)).2.2.1) (by decide) (by decide) ?_
      exact κ)
  obtain ⟨T2, h2, X2, e2, E2, A2, D2, -, st2⟩ := newO X0 hx hZ hown (hw _ (List.mem_of_getElem? (i := 31) rfl)) (hw _ (List.mem_of_getElem? (i := 32) rfl)) (hw _ (List.mem_of_getElem? (i := 22) rfl)) e0 (g := (mkF m 31 #[.val (.long q0), .second, .val (.int (128 : Int32))] [])) rfl (hb hby d4_31) (by decide) (by decide)
  obtain ⟨b2, g2⟩ : ∃ z, z = h0.size := ⟨_, rfl⟩
  rw [← g2] at A2 D2 st2
  have gb2 : n0 ≤ b2 := Nat.le_trans Z0 (Nat.le_of_eq g2.symm)
  have Z2 : n0 ≤ h2.size := Nat.le_trans Z0 E2.1
  have sz2 : h0.size ≤ b2 := Nat.le_trans (Keep.refl h0 []).1 (Nat.le_of_eq g2.symm)
  have K2 : Keep h0 h2 [] := (Keep.refl h0 []).ext E2
  have F2_value : Fld Z h2 b2 "java/lang/Long" "value" "J" (.long (0 : Int64)) := D2 (Or.inr (hw _ (List.mem_of_getElem? (i := 45) rfl))) (ty := .long) (by decide)
  have c3 : ∀ τ, Steps p.tables e below (T2.setTop (mkF m 34 #[.val (.long q0), .second, .val (.int (128 : Int32))] [(.ref b2)])) τ → Steps p.tables e below (s₁.setTop (entryFrame m #[(.long q0)] 3)) τ := fun τ κ => c1 τ (st2 τ κ)
  have c4 : ∀ τ, Steps p.tables e below (T2.setTop (mkF m 36 #[.val (.long q0), .second, .val (.int (128 : Int32))] [(.long q0), (.ref b2), (.ref b2)])) τ → Steps p.tables e below (s₁.setTop (entryFrame m #[(.long q0)] 3)) τ := fun τ κ => c3 τ (by
      show Steps p.tables e below (T2.setTop (mkF m 34 #[.val (.long q0), .second, .val (.int (128 : Int32))] [(.ref b2)])) _
      refine XS.dup X2.here hx rfl (hb hby d4_34) rfl rfl ?_
      show Steps p.tables e below (T2.setTop (mkF m 35 #[.val (.long q0), .second, .val (.int (128 : Int32))] [(.ref b2), (.ref b2)])) _
      refine XS.lloadN X2.here hx rfl (hb hby d4_35) rfl ?_
      exact κ)
  obtain ⟨_, _, ⟨T5, L5, k5, n5⟩, -, X5, ⟨Lc5, hQ5, l5, y5, z5⟩, st5⟩ := X2.specialBack hx (y := (⟨"java/lang/Long", "<init>", "(J)V"⟩ : MethodName)) rfl hown (mvT hZ (hw _ (List.mem_of_getElem? (i := 33) rfl))) (mvT hZ (hw _ (List.mem_of_getElem? (i := 34) rfl))) (mvT hZ (hw _ (List.mem_of_getElem? (i := 36) rfl))) (by decide) (backOf (W := 1) (rm5 l Z a0 hw [] b2 q0 h2 n0 Z2 A2 F2_value gb2) hZ (hw _ (List.mem_of_getElem? (i := 36) rfl)) (hw _ (List.mem_of_getElem? (i := 22) rfl)) (by decide) (by decide)) (g := (mkF m 36 #[.val (.long q0), .second, .val (.int (128 : Int32))] [(.long q0), (.ref b2), (.ref b2)])) rfl (by rw [hml]; rfl) (Steps.refl _) (a := b2) (argsL := [(.long q0)]) (rest := [(.ref b2)]) (lenOf pd_2 rfl) rfl (by show 2 * 0 + _ ≤ _; exact Nat.le_of_eq rfl) (hb hby d4_36) (fun _ _ => ⟨rfl, e2, (by decide : 1 + 0 ≤ _), (by decide : 1 + 0 ≤ _)⟩)
  dsimp only [Pt.U, Pt.locs, Pt.cells, Pt.slots] at X5 l5 y5 z5 st5 hQ5
  subst l5 y5 z5
  obtain ⟨rfl, N5q, K5q, Ex5⟩ := hQ5
  have N5 := Fr.app N0 N5q
  have Z5 : n0 ≤ T5.heap.size := Nat.le_trans Z2 K5q.1
  have K5 : Keep h0 T5.heap [] := K2.trans K5q (allS (Or.inr sz2) all0)
  have c6 : ∀ τ, Steps p.tables e below (T5.setTop (mkF m 39 #[.val (.long q0), .second, .val (.int (128 : Int32))] [(.ref b2)])) τ → Steps p.tables e below (s₁.setTop (entryFrame m #[(.long q0)] 3)) τ := fun τ κ => c4 τ (st5.trans κ)
  have gE := g2
  have f7 := (A2.keep K5q)
  obtain ⟨fs, hr, hrun, hended, hW, hsame⟩ := X5.leave (v := some (.ref h0.size)) (fun h => by rw [Bd.returns] at h; cases h)
  refine ⟨_, _, c6 _ (by rw [← g2] at hr; exact retOut X5 hx Bd.returns rfl (Or.inr (Or.inr (Or.inr (Or.inr ⟨rfl, rfl, rfl⟩)))) (hb hby d4_39) hr), hrun, hended, _, _, rfl, ?_, ⟨_, rfl⟩, hW, hsame.mono (by decide) (by decide)⟩
  show Q_rm4b Z q0 h0 n0 _ T5.heap _
  exact ⟨rfl, N5, K5, by rw [← g2]; exact f7⟩
def g1_0_t0 (j0 : Int64) (j4 : Int64) (i8 : Int32) : Int64 := if (i8 &&& (1 : Int32)) = (0 : Int32) then j4 else j0
set_option maxRecDepth 65536 in
set_option maxHeartbeats 40000000 in
theorem g1_0 {p : Program} {l : Launch} {e : Env} {R : Room} {s : State} {m : MethodId} {args : Array Value} {below : List Frame} {meth : Method} {c : Code} {T : State} {locs : List Loc} {cells slots : Nat} {Z : State} {a0 : Array Value} {target : State} (j0 : Int64) (j2 : Int64) (j4 : Int64) (j6 : Int64) (i8 : Int32) (X : Stand p l e R s m args below meth c T locs cells slots) (hx : p.tables.exec = Jvm.exec) (hZ : Z.Warmed39 s.vm) (hw : ∀ d ∈ tables_1, d.before a0 Z = true) (hby : c.code = code) (hown : s.vm.findClass "com/example/callbook/callbook/engine/MidpointEqualsPinLaw" = some m.cls) (k : Steps p.tables e below (T.setTop (mkF m 13 #[.val (.long j0), .second, .val (.long j2), .second, .val (.long j4), .second, .val (.long j6), .second, .val (.int i8), .unset, .unset, .unset, .unset, .unset, .unset, .unset, .unset, .unset] [(.long (g1_0_t0 j0 j4 i8))])) target) :
    Steps p.tables e below (T.setTop (mkF m 0 #[.val (.long j0), .second, .val (.long j2), .second, .val (.long j4), .second, .val (.long j6), .second, .val (.int i8), .unset, .unset, .unset, .unset, .unset, .unset, .unset, .unset, .unset] [])) target := by
  show Steps p.tables e below (T.setTop (mkF m 0 #[.val (.long j0), .second, .val (.long j2), .second, .val (.long j4), .second, .val (.long j6), .second, .val (.int i8), .unset, .unset, .unset, .unset, .unset, .unset, .unset, .unset, .unset] [])) _
  refine XS.iload X.here hx rfl (hb hby at_0) rfl ?_
  show Steps p.tables e below (T.setTop (mkF m 2 #[.val (.long j0), .second, .val (.long j2), .second, .val (.long j4), .second, .val (.long j6), .second, .val (.int i8), .unset, .unset, .unset, .unset, .unset, .unset, .unset, .unset, .unset] [(.int i8)])) _
  refine XS.iconst X.here hx rfl (hb hby at_2) ?_
  show Steps p.tables e below (T.setTop (mkF m 3 #[.val (.long j0), .second, .val (.long j2), .second, .val (.long j4), .second, .val (.long j6), .second, .val (.int i8), .unset, .unset, .unset, .unset, .unset, .unset, .unset, .unset, .unset] [(.int (1 : Int32)), (.int i8)])) _
  refine XS.iand X.here hx rfl (hb hby at_3) rfl ?_
  show Steps p.tables e below (T.setTop (mkF m 4 #[.val (.long j0), .second, .val (.long j2), .second, .val (.long j4), .second, .val (.long j6), .second, .val (.int i8), .unset, .unset, .unset, .unset, .unset, .unset, .unset, .unset, .unset] [(.int (i8 &&& (1 : Int32)))])) _
  by_cases q4 : (i8 &&& (1 : Int32)) = (0 : Int32)
  · refine XS.ifYes X.here hx rfl (pc0 := 4) (pc' := 11) rfl (hb hby at_4) rfl ((if0 _ _).trans (teq q4).1) (by decide) (by decide) ?_
    show Steps p.tables e below (T.setTop (mkF m 11 #[.val (.long j0), .second, .val (.long j2), .second, .val (.long j4), .second, .val (.long j6), .second, .val (.int i8), .unset, .unset, .unset, .unset, .unset, .unset, .unset, .unset, .unset] [])) _
    refine XS.lload X.here hx rfl (hb hby at_11) rfl ?_
    have e_t0 : (g1_0_t0 j0 j4 i8) = j4 := by unfold g1_0_t0; rw [if_pos q4]
    rw [e_t0] at k
    exact k
  · refine XS.ifNo X.here hx rfl (hb hby at_4) rfl ((if0 _ _).trans (feq q4).1) ?_
    show Steps p.tables e below (T.setTop (mkF m 7 #[.val (.long j0), .second, .val (.long j2), .second, .val (.long j4), .second, .val (.long j6), .second, .val (.int i8), .unset, .unset, .unset, .unset, .unset, .unset, .unset, .unset, .unset] [])) _
    refine XS.lloadN X.here hx rfl (hb hby at_7) rfl ?_
    show Steps p.tables e below (T.setTop (mkF m 8 #[.val (.long j0), .second, .val (.long j2), .second, .val (.long j4), .second, .val (.long j6), .second, .val (.int i8), .unset, .unset, .unset, .unset, .unset, .unset, .unset, .unset, .unset] [(.long j0)])) _
    refine XS.goto X.here hx rfl (pc0 := 8) (pc' := 13) rfl (hb hby at_8) (by decide) (by decide) ?_
    have e_t0 : (g1_0_t0 j0 j4 i8) = j0 := by unfold g1_0_t0; rw [if_neg q4]
    rw [e_t0] at k
    exact k
def g2_15_t0 (j2 : Int64) (j6 : Int64) (i8 : Int32) : Int64 := if (i8 &&& (2 : Int32)) = (0 : Int32) then j6 else j2
set_option maxRecDepth 65536 in
set_option maxHeartbeats 40000000 in
theorem g2_15 {p : Program} {l : Launch} {e : Env} {R : Room} {s : State} {m : MethodId} {args : Array Value} {below : List Frame} {meth : Method} {c : Code} {T : State} {locs : List Loc} {cells slots : Nat} {Z : State} {a0 : Array Value} {target : State} (j0 : Int64) (j2 : Int64) (j4 : Int64) (j6 : Int64) (i8 : Int32) (j9 : Int64) (X : Stand p l e R s m args below meth c T locs cells slots) (hx : p.tables.exec = Jvm.exec) (hZ : Z.Warmed39 s.vm) (hw : ∀ d ∈ tables_1, d.before a0 Z = true) (hby : c.code = code) (hown : s.vm.findClass "com/example/callbook/callbook/engine/MidpointEqualsPinLaw" = some m.cls) (k : Steps p.tables e below (T.setTop (mkF m 28 #[.val (.long j0), .second, .val (.long j2), .second, .val (.long j4), .second, .val (.long j6), .second, .val (.int i8), .val (.long j9), .second, .unset, .unset, .unset, .unset, .unset, .unset, .unset] [(.long (g2_15_t0 j2 j6 i8))])) target) :
    Steps p.tables e below (T.setTop (mkF m 15 #[.val (.long j0), .second, .val (.long j2), .second, .val (.long j4), .second, .val (.long j6), .second, .val (.int i8), .val (.long j9), .second, .unset, .unset, .unset, .unset, .unset, .unset, .unset] [])) target := by
  show Steps p.tables e below (T.setTop (mkF m 15 #[.val (.long j0), .second, .val (.long j2), .second, .val (.long j4), .second, .val (.long j6), .second, .val (.int i8), .val (.long j9), .second, .unset, .unset, .unset, .unset, .unset, .unset, .unset] [])) _
  refine XS.iload X.here hx rfl (hb hby at_15) rfl ?_
  show Steps p.tables e below (T.setTop (mkF m 17 #[.val (.long j0), .second, .val (.long j2), .second, .val (.long j4), .second, .val (.long j6), .second, .val (.int i8), .val (.long j9), .second, .unset, .unset, .unset, .unset, .unset, .unset, .unset] [(.int i8)])) _
  refine XS.iconst X.here hx rfl (hb hby at_17) ?_
  show Steps p.tables e below (T.setTop (mkF m 18 #[.val (.long j0), .second, .val (.long j2), .second, .val (.long j4), .second, .val (.long j6), .second, .val (.int i8), .val (.long j9), .second, .unset, .unset, .unset, .unset, .unset, .unset, .unset] [(.int (2 : Int32)), (.int i8)])) _
  refine XS.iand X.here hx rfl (hb hby at_18) rfl ?_
  show Steps p.tables e below (T.setTop (mkF m 19 #[.val (.long j0), .second, .val (.long j2), .second, .val (.long j4), .second, .val (.long j6), .second, .val (.int i8), .val (.long j9), .second, .unset, .unset, .unset, .unset, .unset, .unset, .unset] [(.int (i8 &&& (2 : Int32)))])) _
  by_cases q19 : (i8 &&& (2 : Int32)) = (0 : Int32)
  · refine XS.ifYes X.here hx rfl (pc0 := 19) (pc' := 26) rfl (hb hby at_19) rfl ((if0 _ _).trans (teq q19).1) (by decide) (by decide) ?_
    show Steps p.tables e below (T.setTop (mkF m 26 #[.val (.long j0), .second, .val (.long j2), .second, .val (.long j4), .second, .val (.long j6), .second, .val (.int i8), .val (.long j9), .second, .unset, .unset, .unset, .unset, .unset, .unset, .unset] [])) _
    refine XS.lload X.here hx rfl (hb hby at_26) rfl ?_
    have e_t0 : (g2_15_t0 j2 j6 i8) = j6 := by unfold g2_15_t0; rw [if_pos q19]
    rw [e_t0] at k
    exact k
  · refine XS.ifNo X.here hx rfl (hb hby at_19) rfl ((if0 _ _).trans (feq q19).1) ?_
    show Steps p.tables e below (T.setTop (mkF m 22 #[.val (.long j0), .second, .val (.long j2), .second, .val (.long j4), .second, .val (.long j6), .second, .val (.int i8), .val (.long j9), .second, .unset, .unset, .unset, .unset, .unset, .unset, .unset] [])) _
    refine XS.lloadN X.here hx rfl (hb hby at_22) rfl ?_
    show Steps p.tables e below (T.setTop (mkF m 23 #[.val (.long j0), .second, .val (.long j2), .second, .val (.long j4), .second, .val (.long j6), .second, .val (.int i8), .val (.long j9), .second, .unset, .unset, .unset, .unset, .unset, .unset, .unset] [(.long j2)])) _
    refine XS.goto X.here hx rfl (pc0 := 23) (pc' := 28) rfl (hb hby at_23) (by decide) (by decide) ?_
    have e_t0 : (g2_15_t0 j2 j6 i8) = j2 := by unfold g2_15_t0; rw [if_neg q19]
    rw [e_t0] at k
    exact k
theorem pd_3 : parseMethodDescriptor "(JJ)V" = some ⟨[.long, .long], none⟩ := by decide +kernel
def g3_83_t0  : Int32 := (0 : Int32)
def g3_65_t0 (j0 : Int64) (j2 : Int64) (j9 : Int64) (j11 : Int64) : Int32 := if j0 = j9 then (if j2 = j11 then (1 : Int32) else g3_83_t0) else g3_83_t0
set_option maxRecDepth 65536 in
set_option maxHeartbeats 40000000 in
theorem g3_83 {p : Program} {l : Launch} {e : Env} {R : Room} {s : State} {m : MethodId} {args : Array Value} {below : List Frame} {meth : Method} {c : Code} {T : State} {locs : List Loc} {cells slots : Nat} {Z : State} {a0 : Array Value} {target : State} (j0 : Int64) (j2 : Int64) (j4 : Int64) (j6 : Int64) (i8 : Int32) (j9 : Int64) (j11 : Int64) (o13 : Addr) (o14 : Addr) (o15 : Addr) (X : Stand p l e R s m args below meth c T locs cells slots) (hx : p.tables.exec = Jvm.exec) (hZ : Z.Warmed39 s.vm) (hw : ∀ d ∈ tables_1, d.before a0 Z = true) (hby : c.code = code) (hown : s.vm.findClass "com/example/callbook/callbook/engine/MidpointEqualsPinLaw" = some m.cls) (k : Steps p.tables e below (T.setTop (mkF m 84 #[.val (.long j0), .second, .val (.long j2), .second, .val (.long j4), .second, .val (.long j6), .second, .val (.int i8), .val (.long j9), .second, .val (.long j11), .second, .val (.ref o13), .val (.ref o14), .val (.ref o15), .unset, .unset] [(.int (g3_83_t0))])) target) :
    Steps p.tables e below (T.setTop (mkF m 83 #[.val (.long j0), .second, .val (.long j2), .second, .val (.long j4), .second, .val (.long j6), .second, .val (.int i8), .val (.long j9), .second, .val (.long j11), .second, .val (.ref o13), .val (.ref o14), .val (.ref o15), .unset, .unset] [])) target := by
  show Steps p.tables e below (T.setTop (mkF m 83 #[.val (.long j0), .second, .val (.long j2), .second, .val (.long j4), .second, .val (.long j6), .second, .val (.int i8), .val (.long j9), .second, .val (.long j11), .second, .val (.ref o13), .val (.ref o14), .val (.ref o15), .unset, .unset] [])) _
  refine XS.iconst X.here hx rfl (hb hby at_83) ?_
  have e_t0 : (g3_83_t0) = (0 : Int32) := by rfl
  rw [e_t0] at k
  exact k
set_option maxRecDepth 65536 in
set_option maxHeartbeats 40000000 in
theorem g3_65 {p : Program} {l : Launch} {e : Env} {R : Room} {s : State} {m : MethodId} {args : Array Value} {below : List Frame} {meth : Method} {c : Code} {T : State} {locs : List Loc} {cells slots : Nat} {Z : State} {a0 : Array Value} {target : State} (j0 : Int64) (j2 : Int64) (j4 : Int64) (j6 : Int64) (i8 : Int32) (j9 : Int64) (j11 : Int64) (o13 : Addr) (o14 : Addr) (o15 : Addr) (X : Stand p l e R s m args below meth c T locs cells slots) (hx : p.tables.exec = Jvm.exec) (hZ : Z.Warmed39 s.vm) (hw : ∀ d ∈ tables_1, d.before a0 Z = true) (hby : c.code = code) (hown : s.vm.findClass "com/example/callbook/callbook/engine/MidpointEqualsPinLaw" = some m.cls) (k : Steps p.tables e below (T.setTop (mkF m 84 #[.val (.long j0), .second, .val (.long j2), .second, .val (.long j4), .second, .val (.long j6), .second, .val (.int i8), .val (.long j9), .second, .val (.long j11), .second, .val (.ref o13), .val (.ref o14), .val (.ref o15), .unset, .unset] [(.int (g3_65_t0 j0 j2 j9 j11))])) target) :
    Steps p.tables e below (T.setTop (mkF m 65 #[.val (.long j0), .second, .val (.long j2), .second, .val (.long j4), .second, .val (.long j6), .second, .val (.int i8), .val (.long j9), .second, .val (.long j11), .second, .val (.ref o13), .val (.ref o14), .val (.ref o15), .unset, .unset] [])) target := by
  show Steps p.tables e below (T.setTop (mkF m 65 #[.val (.long j0), .second, .val (.long j2), .second, .val (.long j4), .second, .val (.long j6), .second, .val (.int i8), .val (.long j9), .second, .val (.long j11), .second, .val (.ref o13), .val (.ref o14), .val (.ref o15), .unset, .unset] [])) _
  refine XS.lloadN X.here hx rfl (hb hby at_65) rfl ?_
  show Steps p.tables e below (T.setTop (mkF m 66 #[.val (.long j0), .second, .val (.long j2), .second, .val (.long j4), .second, .val (.long j6), .second, .val (.int i8), .val (.long j9), .second, .val (.long j11), .second, .val (.ref o13), .val (.ref o14), .val (.ref o15), .unset, .unset] [(.long j0)])) _
  refine XS.lload X.here hx rfl (hb hby at_66) rfl ?_
  show Steps p.tables e below (T.setTop (mkF m 68 #[.val (.long j0), .second, .val (.long j2), .second, .val (.long j4), .second, .val (.long j6), .second, .val (.int i8), .val (.long j9), .second, .val (.long j11), .second, .val (.ref o13), .val (.ref o14), .val (.ref o15), .unset, .unset] [(.long j9), (.long j0)])) _
  refine XS.lcmp X.here hx rfl (hb hby at_68) rfl ?_
  show Steps p.tables e below (T.setTop (mkF m 69 #[.val (.long j0), .second, .val (.long j2), .second, .val (.long j4), .second, .val (.long j6), .second, .val (.int i8), .val (.long j9), .second, .val (.long j11), .second, .val (.ref o13), .val (.ref o14), .val (.ref o15), .unset, .unset] [(.int (lcmpW j0 j9))])) _
  by_cases q69 : j0 = j9
  · refine XS.ifNo X.here hx rfl (hb hby at_69) rfl ((if0 _ _).trans (teq ((lw_eq j0 j9).mpr q69)).2) ?_
    show Steps p.tables e below (T.setTop (mkF m 72 #[.val (.long j0), .second, .val (.long j2), .second, .val (.long j4), .second, .val (.long j6), .second, .val (.int i8), .val (.long j9), .second, .val (.long j11), .second, .val (.ref o13), .val (.ref o14), .val (.ref o15), .unset, .unset] [])) _
    refine XS.lloadN X.here hx rfl (hb hby at_72) rfl ?_
    show Steps p.tables e below (T.setTop (mkF m 73 #[.val (.long j0), .second, .val (.long j2), .second, .val (.long j4), .second, .val (.long j6), .second, .val (.int i8), .val (.long j9), .second, .val (.long j11), .second, .val (.ref o13), .val (.ref o14), .val (.ref o15), .unset, .unset] [(.long j2)])) _
    refine XS.lload X.here hx rfl (hb hby at_73) rfl ?_
    show Steps p.tables e below (T.setTop (mkF m 75 #[.val (.long j0), .second, .val (.long j2), .second, .val (.long j4), .second, .val (.long j6), .second, .val (.int i8), .val (.long j9), .second, .val (.long j11), .second, .val (.ref o13), .val (.ref o14), .val (.ref o15), .unset, .unset] [(.long j11), (.long j2)])) _
    refine XS.lcmp X.here hx rfl (hb hby at_75) rfl ?_
    show Steps p.tables e below (T.setTop (mkF m 76 #[.val (.long j0), .second, .val (.long j2), .second, .val (.long j4), .second, .val (.long j6), .second, .val (.int i8), .val (.long j9), .second, .val (.long j11), .second, .val (.ref o13), .val (.ref o14), .val (.ref o15), .unset, .unset] [(.int (lcmpW j2 j11))])) _
    by_cases q76 : j2 = j11
    · refine XS.ifNo X.here hx rfl (hb hby at_76) rfl ((if0 _ _).trans (teq ((lw_eq j2 j11).mpr q76)).2) ?_
      show Steps p.tables e below (T.setTop (mkF m 79 #[.val (.long j0), .second, .val (.long j2), .second, .val (.long j4), .second, .val (.long j6), .second, .val (.int i8), .val (.long j9), .second, .val (.long j11), .second, .val (.ref o13), .val (.ref o14), .val (.ref o15), .unset, .unset] [])) _
      refine XS.iconst X.here hx rfl (hb hby at_79) ?_
      show Steps p.tables e below (T.setTop (mkF m 80 #[.val (.long j0), .second, .val (.long j2), .second, .val (.long j4), .second, .val (.long j6), .second, .val (.int i8), .val (.long j9), .second, .val (.long j11), .second, .val (.ref o13), .val (.ref o14), .val (.ref o15), .unset, .unset] [(.int (1 : Int32))])) _
      refine XS.goto X.here hx rfl (pc0 := 80) (pc' := 84) rfl (hb hby at_80) (by decide) (by decide) ?_
      have e_t0 : (g3_65_t0 j0 j2 j9 j11) = (1 : Int32) := by unfold g3_65_t0; rw [if_pos q69, if_pos q76]
      rw [e_t0] at k
      exact k
    · refine XS.ifYes X.here hx rfl (pc0 := 76) (pc' := 83) rfl (hb hby at_76) rfl ((if0 _ _).trans (feq (mt (lw_eq j2 j11).mp q76)).2) (by decide) (by decide) ?_
      have e_t0 : (g3_65_t0 j0 j2 j9 j11) = g3_83_t0 := by unfold g3_65_t0; rw [if_pos q69, if_neg q76]
      rw [e_t0] at k
      exact g3_83 j0 j2 j4 j6 i8 j9 j11 o13 o14 o15 X hx hZ hw hby hown k
  · refine XS.ifYes X.here hx rfl (pc0 := 69) (pc' := 83) rfl (hb hby at_69) rfl ((if0 _ _).trans (feq (mt (lw_eq j0 j9).mp q69)).2) (by decide) (by decide) ?_
    have e_t0 : (g3_65_t0 j0 j2 j9 j11) = g3_83_t0 := by unfold g3_65_t0; rw [if_neg q69]
    rw [e_t0] at k
    exact g3_83 j0 j2 j4 j6 i8 j9 j11 o13 o14 o15 X hx hZ hw hby hown k
theorem pd_4 : parseMethodDescriptor "(Ljava/lang/Object;)Z" = some ⟨[(.object "java/lang/Object")], some .boolean⟩ := by decide +kernel
def g4_163_t1 (j0 : Int64) (j2 : Int64) : Int32 := if j0 = j2 then (1 : Int32) else (0 : Int32)
set_option maxRecDepth 65536 in
set_option maxHeartbeats 40000000 in
theorem g4_163 {p : Program} {l : Launch} {e : Env} {R : Room} {s : State} {m : MethodId} {args : Array Value} {below : List Frame} {meth : Method} {c : Code} {T : State} {locs : List Loc} {cells slots : Nat} {Z : State} {a0 : Array Value} {target : State} (j0 : Int64) (j2 : Int64) (j4 : Int64) (j6 : Int64) (i8 : Int32) (j9 : Int64) (j11 : Int64) (o13 : Addr) (o14 : Addr) (o15 : Addr) (i16 : Int32) (i17 : Int32) (t0 : Int32) (X : Stand p l e R s m args below meth c T locs cells slots) (hx : p.tables.exec = Jvm.exec) (hZ : Z.Warmed39 s.vm) (hw : ∀ d ∈ tables_1, d.before a0 Z = true) (hby : c.code = code) (hown : s.vm.findClass "com/example/callbook/callbook/engine/MidpointEqualsPinLaw" = some m.cls) (k : Steps p.tables e below (T.setTop (mkF m 174 #[.val (.long j0), .second, .val (.long j2), .second, .val (.long j4), .second, .val (.long j6), .second, .val (.int i8), .val (.long j9), .second, .val (.long j11), .second, .val (.ref o13), .val (.ref o14), .val (.ref o15), .val (.int i16), .val (.int i17)] [(.int (g4_163_t1 j0 j2)), (.int t0)])) target) :
    Steps p.tables e below (T.setTop (mkF m 163 #[.val (.long j0), .second, .val (.long j2), .second, .val (.long j4), .second, .val (.long j6), .second, .val (.int i8), .val (.long j9), .second, .val (.long j11), .second, .val (.ref o13), .val (.ref o14), .val (.ref o15), .val (.int i16), .val (.int i17)] [(.int t0)])) target := by
  show Steps p.tables e below (T.setTop (mkF m 163 #[.val (.long j0), .second, .val (.long j2), .second, .val (.long j4), .second, .val (.long j6), .second, .val (.int i8), .val (.long j9), .second, .val (.long j11), .second, .val (.ref o13), .val (.ref o14), .val (.ref o15), .val (.int i16), .val (.int i17)] [(.int t0)])) _
  refine XS.lloadN X.here hx rfl (hb hby at_163) rfl ?_
  show Steps p.tables e below (T.setTop (mkF m 164 #[.val (.long j0), .second, .val (.long j2), .second, .val (.long j4), .second, .val (.long j6), .second, .val (.int i8), .val (.long j9), .second, .val (.long j11), .second, .val (.ref o13), .val (.ref o14), .val (.ref o15), .val (.int i16), .val (.int i17)] [(.long j0), (.int t0)])) _
  refine XS.lloadN X.here hx rfl (hb hby at_164) rfl ?_
  show Steps p.tables e below (T.setTop (mkF m 165 #[.val (.long j0), .second, .val (.long j2), .second, .val (.long j4), .second, .val (.long j6), .second, .val (.int i8), .val (.long j9), .second, .val (.long j11), .second, .val (.ref o13), .val (.ref o14), .val (.ref o15), .val (.int i16), .val (.int i17)] [(.long j2), (.long j0), (.int t0)])) _
  refine XS.lcmp X.here hx rfl (hb hby at_165) rfl ?_
  show Steps p.tables e below (T.setTop (mkF m 166 #[.val (.long j0), .second, .val (.long j2), .second, .val (.long j4), .second, .val (.long j6), .second, .val (.int i8), .val (.long j9), .second, .val (.long j11), .second, .val (.ref o13), .val (.ref o14), .val (.ref o15), .val (.int i16), .val (.int i17)] [(.int (lcmpW j0 j2)), (.int t0)])) _
  by_cases q166 : j0 = j2
  · refine XS.ifNo X.here hx rfl (hb hby at_166) rfl ((if0 _ _).trans (teq ((lw_eq j0 j2).mpr q166)).2) ?_
    show Steps p.tables e below (T.setTop (mkF m 169 #[.val (.long j0), .second, .val (.long j2), .second, .val (.long j4), .second, .val (.long j6), .second, .val (.int i8), .val (.long j9), .second, .val (.long j11), .second, .val (.ref o13), .val (.ref o14), .val (.ref o15), .val (.int i16), .val (.int i17)] [(.int t0)])) _
    refine XS.iconst X.here hx rfl (hb hby at_169) ?_
    show Steps p.tables e below (T.setTop (mkF m 170 #[.val (.long j0), .second, .val (.long j2), .second, .val (.long j4), .second, .val (.long j6), .second, .val (.int i8), .val (.long j9), .second, .val (.long j11), .second, .val (.ref o13), .val (.ref o14), .val (.ref o15), .val (.int i16), .val (.int i17)] [(.int (1 : Int32)), (.int t0)])) _
    refine XS.goto X.here hx rfl (pc0 := 170) (pc' := 174) rfl (hb hby at_170) (by decide) (by decide) ?_
    have e_t1 : (g4_163_t1 j0 j2) = (1 : Int32) := by unfold g4_163_t1; rw [if_pos q166]
    rw [e_t1] at k
    exact k
  · refine XS.ifYes X.here hx rfl (pc0 := 166) (pc' := 173) rfl (hb hby at_166) rfl ((if0 _ _).trans (feq (mt (lw_eq j0 j2).mp q166)).2) (by decide) (by decide) ?_
    show Steps p.tables e below (T.setTop (mkF m 173 #[.val (.long j0), .second, .val (.long j2), .second, .val (.long j4), .second, .val (.long j6), .second, .val (.int i8), .val (.long j9), .second, .val (.long j11), .second, .val (.ref o13), .val (.ref o14), .val (.ref o15), .val (.int i16), .val (.int i17)] [(.int t0)])) _
    refine XS.iconst X.here hx rfl (hb hby at_173) ?_
    have e_t1 : (g4_163_t1 j0 j2) = (0 : Int32) := by unfold g4_163_t1; rw [if_neg q166]
    rw [e_t1] at k
    exact k
theorem pd_1 : parseMethodDescriptor "(J)Ljava/lang/Long;" = some ⟨[.long], some (.object "java/lang/Long")⟩ := by decide +kernel
theorem own_l1 (q0 q1 q2 q3 : Int64) (p4 : Int32) : (own_eq q0 q1 (g1_0_t0 q0 q2 p4) (g2_15_t0 q1 q3 p4)) = (g3_65_t0 q0 q1 (g1_0_t0 q0 q2 p4) (g2_15_t0 q1 q3 p4)) := by
  unfold own_eq g3_65_t0
  generalize g1_0_t0 q0 q2 p4 = u
  generalize g2_15_t0 q1 q3 p4 = v
  by_cases h1 : q0 = u
  · rw [if_pos h1, if_pos h1]
    by_cases h2 : q1 = v
    · rw [if_pos h2, if_pos h2]
    · rw [if_neg h2, if_neg h2]; rfl
  · rw [if_neg h1, if_neg h1]; rfl
theorem own_l2 (q0 q1 q2 q3 : Int64) (p4 : Int32) : (own_eq (g1_0_t0 q0 q2 p4) (g2_15_t0 q1 q3 p4) q0 q1) = (g3_65_t0 q0 q1 (g1_0_t0 q0 q2 p4) (g2_15_t0 q1 q3 p4)) := by
  unfold own_eq g3_65_t0
  generalize g1_0_t0 q0 q2 p4 = u
  generalize g2_15_t0 q1 q3 p4 = v
  by_cases h1 : q0 = u
  · rw [if_pos h1, if_pos h1.symm]
    by_cases h2 : q1 = v
    · rw [if_pos h2, if_pos h2.symm]
    · rw [if_neg h2, if_neg (fun q => h2 q.symm)]; rfl
  · rw [if_neg h1, if_neg (fun q => h1 q.symm)]; rfl
theorem own_l3 (q0 q1 q2 q3 : Int64) (p4 : Int32) : ¬ ((own_eq q0 q1 q0 q1) = (0 : Int32)) := by
  unfold own_eq
  rw [if_pos rfl, if_pos rfl]
  decide
theorem own_l4 (q0 q1 q2 q3 : Int64) (p4 : Int32) : (own_eq q0 q1 q1 q0) = (g4_163_t1 q0 q1) := by
  unfold own_eq g4_163_t1
  by_cases h1 : q0 = q1
  · rw [if_pos h1, if_pos h1, if_pos h1.symm]
  · rw [if_neg h1, if_neg h1]
theorem pn_1 : plainName "com/example/callbook/callbook/engine/MidpointEqualsPinLaw" = true := by first | (simp [plainName, overriddenIn]; done) | decide +kernel
theorem ef_rm0 (m : MethodId) (x0 : Int64) (x1 : Int64) (x2 : Int64) (x3 : Int64) (x4 : Int32) : entryFrame m #[(.long x0), (.long x1), (.long x2), (.long x3), (.int x4)] maxLocals = mkF m 0 #[.val (.long x0), .second, .val (.long x1), .second, .val (.long x2), .second, .val (.long x3), .second, .val (.int x4), .unset, .unset, .unset, .unset, .unset, .unset, .unset, .unset, .unset] [] := by first | (simp [entryFrame, mkF, argsToLocals, Value.category, maxLocals]; done) | rfl
def Q_rm0 (Z : State) (q0 : Int64) (q1 : Int64) (q2 : Int64) (q3 : Int64) (p4 : Int32) (cc : Addr) (cl : Cell) (h0 : Heap) (n0 : Nat) (v : Option Value) (h : Heap) (L : List Loc) : Prop := v = some (.int (1 : Int32)) ∧ Fr n0 L
set_option maxRecDepth 65536 in
set_option maxHeartbeats 40000000 in
theorem rm0 (l : Launch) (Z : State) (a0 : Array Value) (hw : ∀ d ∈ tables_1, d.before a0 Z = true) (ws : List Jvm.Cond) (q0 : Int64) (q1 : Int64) (q2 : Int64) (q3 : Int64) (p4 : Int32) (cc : Addr) (cl : Cell) (h0 : Heap) (n0 : Nat) (Z0 : n0 ≤ h0.size) (O0 : Old Z n0 h0) (S : Sta Z Z.heap "java/lang/Long$LongCache" "cache" "[Ljava/lang/Long;" (.ref cc)) (B : Bxs Z cc cl "java/lang/Long" "J" (256 : Int32) (fun j => Value.long ((j - (128 : Int32)).toInt64))) :
    MetFree l x (head1 (Jvm.Cond.code x code maxLocals ret :: ws) room_1) (fun a U => a = #[(.long q0), (.long q1), (.long q2), (.long q3), (.int p4)] ∧ Z.Warmed39 U.vm ∧ U.heap = h0) (fun _ _ _ _ _ => True) (fun _ U o U' => ∃ v L, o = .returned v ∧ Q_rm0 Z q0 q1 q2 q3 p4 cc cl h0 n0 v U'.heap L ∧ FrameEnd U o U' L room_1.cells room_1.slots) := by
  refine MetFree.of_bodySF (plainFor_of_name pn_1) hisR ?_
  intro p e s m args below meth c s₁ Bd hml0 hP hK
  obtain ⟨rfl, hZ, hh⟩ := hP
  have hx := Bd.exec
  have hby := Bd.bytes
  have hml : c.maxLocals = 18 := hml0
  have hown : s.vm.findClass "com/example/callbook/callbook/engine/MidpointEqualsPinLaw" = some m.cls := findClass_of_methodNamed Bd.named
  have hnm := (name_of_methodNamed Bd.named Bd.method).1
  have X0 : Stand p l e room_1 s m #[(.long q0), (.long q1), (.long q2), (.long q3), (.int p4)] below meth c s₁ [] 0 0 := Stand.of_body Bd
  have e0 : s₁.heap = h0 := by rw [← hh, Bd.state]; rfl
  have N0 := Fr.nil n0
  have c0 : ∀ τ, Steps p.tables e below (s₁.setTop (mkF m 0 #[.val (.long q0), .second, .val (.long q1), .second, .val (.long q2), .second, .val (.long q3), .second, .val (.int p4), .unset, .unset, .unset, .unset, .unset, .unset, .unset, .unset, .unset] [])) τ → Steps p.tables e below (s₁.setTop (entryFrame m #[(.long q0), (.long q1), (.long q2), (.long q3), (.int p4)] maxLocals)) τ := fun τ κ => castTop (ef_rm0 m q0 q1 q2 q3 p4) κ
  have c1 : ∀ τ, Steps p.tables e below (s₁.setTop (mkF m 13 #[.val (.long q0), .second, .val (.long q1), .second, .val (.long q2), .second, .val (.long q3), .second, .val (.int p4), .unset, .unset, .unset, .unset, .unset, .unset, .unset, .unset, .unset] [(.long (g1_0_t0 q0 q2 p4))])) τ → Steps p.tables e below (s₁.setTop (entryFrame m #[(.long q0), (.long q1), (.long q2), (.long q3), (.int p4)] maxLocals)) τ := fun τ κ => c0 τ (g1_0 q0 q1 q2 q3 p4 X0 hx hZ hw hby hown κ)
  have c2 : ∀ τ, Steps p.tables e below (s₁.setTop (mkF m 15 #[.val (.long q0), .second, .val (.long q1), .second, .val (.long q2), .second, .val (.long q3), .second, .val (.int p4), .val (.long (g1_0_t0 q0 q2 p4)), .second, .unset, .unset, .unset, .unset, .unset, .unset, .unset] [])) τ → Steps p.tables e below (s₁.setTop (entryFrame m #[(.long q0), (.long q1), (.long q2), (.long q3), (.int p4)] maxLocals)) τ := fun τ κ => c1 τ (by
      show Steps p.tables e below (s₁.setTop (mkF m 13 #[.val (.long q0), .second, .val (.long q1), .second, .val (.long q2), .second, .val (.long q3), .second, .val (.int p4), .unset, .unset, .unset, .unset, .unset, .unset, .unset, .unset, .unset] [(.long (g1_0_t0 q0 q2 p4))])) _
      refine XS.lstore X0.here hx rfl (hb hby at_13) rfl (l' := #[.val (.long q0), .second, .val (.long q1), .second, .val (.long q2), .second, .val (.long q3), .second, .val (.int p4), .val (.long (g1_0_t0 q0 q2 p4)), .second, .unset, .unset, .unset, .unset, .unset, .unset, .unset]) rfl ?_
      exact κ)
  have c3 : ∀ τ, Steps p.tables e below (s₁.setTop (mkF m 28 #[.val (.long q0), .second, .val (.long q1), .second, .val (.long q2), .second, .val (.long q3), .second, .val (.int p4), .val (.long (g1_0_t0 q0 q2 p4)), .second, .unset, .unset, .unset, .unset, .unset, .unset, .unset] [(.long (g2_15_t0 q1 q3 p4))])) τ → Steps p.tables e below (s₁.setTop (entryFrame m #[(.long q0), (.long q1), (.long q2), (.long q3), (.int p4)] maxLocals)) τ := fun τ κ => c2 τ (g2_15 q0 q1 q2 q3 p4 (g1_0_t0 q0 q2 p4) X0 hx hZ hw hby hown κ)
  have c4 : ∀ τ, Steps p.tables e below (s₁.setTop (mkF m 30 #[.val (.long q0), .second, .val (.long q1), .second, .val (.long q2), .second, .val (.long q3), .second, .val (.int p4), .val (.long (g1_0_t0 q0 q2 p4)), .second, .val (.long (g2_15_t0 q1 q3 p4)), .second, .unset, .unset, .unset, .unset, .unset] [])) τ → Steps p.tables e below (s₁.setTop (entryFrame m #[(.long q0), (.long q1), (.long q2), (.long q3), (.int p4)] maxLocals)) τ := fun τ κ => c3 τ (by
      show Steps p.tables e below (s₁.setTop (mkF m 28 #[.val (.long q0), .second, .val (.long q1), .second, .val (.long q2), .second, .val (.long q3), .second, .val (.int p4), .val (.long (g1_0_t0 q0 q2 p4)), .second, .unset, .unset, .unset, .unset, .unset, .unset, .unset] [(.long (g2_15_t0 q1 q3 p4))])) _
      refine XS.lstore X0.here hx rfl (hb hby at_28) rfl (l' := #[.val (.long q0), .second, .val (.long q1), .second, .val (.long q2), .second, .val (.long q3), .second, .val (.int p4), .val (.long (g1_0_t0 q0 q2 p4)), .second, .val (.long (g2_15_t0 q1 q3 p4)), .second, .unset, .unset, .unset, .unset, .unset]) rfl ?_
      exact κ)
  obtain ⟨T5, h5, X5, e5, E5, A5, D5, -, st5⟩ := newO X0 hx hZ hown (hw _ (List.mem_of_getElem? (i := 0) rfl)) (hw _ (List.mem_of_getElem? (i := 1) rfl)) (hw _ (List.mem_of_getElem? (i := 2) rfl)) e0 (g := (mkF m 30 #[.val (.long q0), .second, .val (.long q1), .second, .val (.long q2), .second, .val (.long q3), .second, .val (.int p4), .val (.long (g1_0_t0 q0 q2 p4)), .second, .val (.long (g2_15_t0 q1 q3 p4)), .second, .unset, .unset, .unset, .unset, .unset] [])) rfl (hb hby at_30) (by decide) (by decide)
  obtain ⟨b5, g5⟩ : ∃ z, z = h0.size := ⟨_, rfl⟩
  rw [← g5] at A5 D5 st5
  have gb5 : n0 ≤ b5 := Nat.le_trans Z0 (Nat.le_of_eq g5.symm)
  have Z5 : n0 ≤ h5.size := Nat.le_trans Z0 E5.1
  have F5_bestBid : Fld Z h5 b5 "com/example/callbook/callbook/engine/Midpoint" "bestBid" "J" (.long (0 : Int64)) := D5 (Or.inr (hw _ (List.mem_of_getElem? (i := 10) rfl))) (ty := .long) (by decide)
  have F5_bestAsk : Fld Z h5 b5 "com/example/callbook/callbook/engine/Midpoint" "bestAsk" "J" (.long (0 : Int64)) := D5 (Or.inr (hw _ (List.mem_of_getElem? (i := 12) rfl))) (ty := .long) (by decide)
  have c6 : ∀ τ, Steps p.tables e below (T5.setTop (mkF m 33 #[.val (.long q0), .second, .val (.long q1), .second, .val (.long q2), .second, .val (.long q3), .second, .val (.int p4), .val (.long (g1_0_t0 q0 q2 p4)), .second, .val (.long (g2_15_t0 q1 q3 p4)), .second, .unset, .unset, .unset, .unset, .unset] [(.ref b5)])) τ → Steps p.tables e below (s₁.setTop (entryFrame m #[(.long q0), (.long q1), (.long q2), (.long q3), (.int p4)] maxLocals)) τ := fun τ κ => c4 τ (st5 τ κ)
  have c7 : ∀ τ, Steps p.tables e below (T5.setTop (mkF m 36 #[.val (.long q0), .second, .val (.long q1), .second, .val (.long q2), .second, .val (.long q3), .second, .val (.int p4), .val (.long (g1_0_t0 q0 q2 p4)), .second, .val (.long (g2_15_t0 q1 q3 p4)), .second, .unset, .unset, .unset, .unset, .unset] [(.long q1), (.long q0), (.ref b5), (.ref b5)])) τ → Steps p.tables e below (s₁.setTop (entryFrame m #[(.long q0), (.long q1), (.long q2), (.long q3), (.int p4)] maxLocals)) τ := fun τ κ => c6 τ (by
      show Steps p.tables e below (T5.setTop (mkF m 33 #[.val (.long q0), .second, .val (.long q1), .second, .val (.long q2), .second, .val (.long q3), .second, .val (.int p4), .val (.long (g1_0_t0 q0 q2 p4)), .second, .val (.long (g2_15_t0 q1 q3 p4)), .second, .unset, .unset, .unset, .unset, .unset] [(.ref b5)])) _
      refine XS.dup X5.here hx rfl (hb hby at_33) rfl rfl ?_
      show Steps p.tables e below (T5.setTop (mkF m 34 #[.val (.long q0), .second, .val (.long q1), .second, .val (.long q2), .second, .val (.long q3), .second, .val (.int p4), .val (.long (g1_0_t0 q0 q2 p4)), .second, .val (.long (g2_15_t0 q1 q3 p4)), .second, .unset, .unset, .unset, .unset, .unset] [(.ref b5), (.ref b5)])) _
      refine XS.lloadN X5.here hx rfl (hb hby at_34) rfl ?_
      show Steps p.tables e below (T5.setTop (mkF m 35 #[.val (.long q0), .second, .val (.long q1), .second, .val (.long q2), .second, .val (.long q3), .second, .val (.int p4), .val (.long (g1_0_t0 q0 q2 p4)), .second, .val (.long (g2_15_t0 q1 q3 p4)), .second, .unset, .unset, .unset, .unset, .unset] [(.long q0), (.ref b5), (.ref b5)])) _
      refine XS.lloadN X5.here hx rfl (hb hby at_35) rfl ?_
      exact κ)
  obtain ⟨_, _, ⟨T8, L8, k8, n8⟩, -, X8, ⟨Lc8, hQ8, l8, y8, z8⟩, st8⟩ := X5.specialBack hx (y := (⟨"com/example/callbook/callbook/engine/Midpoint", "<init>", "(JJ)V"⟩ : MethodName)) rfl hown (mvT hZ (hw _ (List.mem_of_getElem? (i := 3) rfl))) (mvT hZ (hw _ (List.mem_of_getElem? (i := 4) rfl))) (mvT hZ (hw _ (List.mem_of_getElem? (i := 5) rfl))) (by decide) (backOf (W := 1) (rm1 l Z a0 hw [] b5 q0 q1 h5 n0 Z5 A5 F5_bestBid F5_bestAsk gb5) hZ (hw _ (List.mem_of_getElem? (i := 5) rfl)) (hw _ (List.mem_of_getElem? (i := 2) rfl)) (by decide) (by decide)) (g := (mkF m 36 #[.val (.long q0), .second, .val (.long q1), .second, .val (.long q2), .second, .val (.long q3), .second, .val (.int p4), .val (.long (g1_0_t0 q0 q2 p4)), .second, .val (.long (g2_15_t0 q1 q3 p4)), .second, .unset, .unset, .unset, .unset, .unset] [(.long q1), (.long q0), (.ref b5), (.ref b5)])) rfl (by rw [hml]; rfl) (Steps.refl _) (a := b5) (argsL := [(.long q0), (.long q1)]) (rest := [(.ref b5)]) (lenOf pd_3 rfl) rfl (by show 2 * 0 + _ ≤ _; exact Nat.le_of_eq rfl) (hb hby at_36) (fun _ _ => ⟨rfl, e5, (by decide : 1 + 0 ≤ _), (by decide : 2 + 0 ≤ _)⟩)
  dsimp only [Pt.U, Pt.locs, Pt.cells, Pt.slots] at X8 l8 y8 z8 st8 hQ8
  subst l8 y8 z8
  obtain ⟨rfl, N8q, K8q, M8⟩ := hQ8
  have N8 := Fr.app N0 N8q
  have Z8 : n0 ≤ T8.heap.size := Nat.le_trans Z5 K8q.1
  have c9 : ∀ τ, Steps p.tables e below (T8.setTop (mkF m 39 #[.val (.long q0), .second, .val (.long q1), .second, .val (.long q2), .second, .val (.long q3), .second, .val (.int p4), .val (.long (g1_0_t0 q0 q2 p4)), .second, .val (.long (g2_15_t0 q1 q3 p4)), .second, .unset, .unset, .unset, .unset, .unset] [(.ref b5)])) τ → Steps p.tables e below (s₁.setTop (entryFrame m #[(.long q0), (.long q1), (.long q2), (.long q3), (.int p4)] maxLocals)) τ := fun τ κ => c7 τ (st8.trans κ)
  obtain ⟨E8m, Fx8m, Fy8m⟩ := M8
  have c10 : ∀ τ, Steps p.tables e below (T8.setTop (mkF m 41 #[.val (.long q0), .second, .val (.long q1), .second, .val (.long q2), .second, .val (.long q3), .second, .val (.int p4), .val (.long (g1_0_t0 q0 q2 p4)), .second, .val (.long (g2_15_t0 q1 q3 p4)), .second, .val (.ref b5), .unset, .unset, .unset, .unset] [])) τ → Steps p.tables e below (s₁.setTop (entryFrame m #[(.long q0), (.long q1), (.long q2), (.long q3), (.int p4)] maxLocals)) τ := fun τ κ => c9 τ (by
      show Steps p.tables e below (T8.setTop (mkF m 39 #[.val (.long q0), .second, .val (.long q1), .second, .val (.long q2), .second, .val (.long q3), .second, .val (.int p4), .val (.long (g1_0_t0 q0 q2 p4)), .second, .val (.long (g2_15_t0 q1 q3 p4)), .second, .unset, .unset, .unset, .unset, .unset] [(.ref b5)])) _
      refine XS.astore X8.here hx rfl (hb hby at_39) rfl rfl (l' := #[.val (.long q0), .second, .val (.long q1), .second, .val (.long q2), .second, .val (.long q3), .second, .val (.int p4), .val (.long (g1_0_t0 q0 q2 p4)), .second, .val (.long (g2_15_t0 q1 q3 p4)), .second, .val (.ref b5), .unset, .unset, .unset, .unset]) rfl ?_
      exact κ)
  obtain ⟨T11, h11, X11, e11, E11, A11, D11, -, st11⟩ := newO X8 hx hZ hown (hw _ (List.mem_of_getElem? (i := 0) rfl)) (hw _ (List.mem_of_getElem? (i := 1) rfl)) (hw _ (List.mem_of_getElem? (i := 2) rfl)) rfl (g := (mkF m 41 #[.val (.long q0), .second, .val (.long q1), .second, .val (.long q2), .second, .val (.long q3), .second, .val (.int p4), .val (.long (g1_0_t0 q0 q2 p4)), .second, .val (.long (g2_15_t0 q1 q3 p4)), .second, .val (.ref b5), .unset, .unset, .unset, .unset] [])) rfl (hb hby at_41) (by decide) (by decide)
  obtain ⟨b11, g11⟩ : ∃ z, z = T8.heap.size := ⟨_, rfl⟩
  rw [← g11] at A11 D11 st11
  have gb11 : n0 ≤ b11 := Nat.le_trans Z8 (Nat.le_of_eq g11.symm)
  have ne_b5_b11 : b5 ≠ b11 := Nat.ne_of_lt (Nat.lt_of_lt_of_le E8m.lt (Nat.le_of_eq g11.symm))
  have Z11 : n0 ≤ h11.size := Nat.le_trans Z8 E11.1
  have F11_bestBid : Fld Z h11 b11 "com/example/callbook/callbook/engine/Midpoint" "bestBid" "J" (.long (0 : Int64)) := D11 (Or.inr (hw _ (List.mem_of_getElem? (i := 10) rfl))) (ty := .long) (by decide)
  have F11_bestAsk : Fld Z h11 b11 "com/example/callbook/callbook/engine/Midpoint" "bestAsk" "J" (.long (0 : Int64)) := D11 (Or.inr (hw _ (List.mem_of_getElem? (i := 12) rfl))) (ty := .long) (by decide)
  have c12 : ∀ τ, Steps p.tables e below (T11.setTop (mkF m 44 #[.val (.long q0), .second, .val (.long q1), .second, .val (.long q2), .second, .val (.long q3), .second, .val (.int p4), .val (.long (g1_0_t0 q0 q2 p4)), .second, .val (.long (g2_15_t0 q1 q3 p4)), .second, .val (.ref b5), .unset, .unset, .unset, .unset] [(.ref b11)])) τ → Steps p.tables e below (s₁.setTop (entryFrame m #[(.long q0), (.long q1), (.long q2), (.long q3), (.int p4)] maxLocals)) τ := fun τ κ => c10 τ (st11 τ κ)
  have c13 : ∀ τ, Steps p.tables e below (T11.setTop (mkF m 49 #[.val (.long q0), .second, .val (.long q1), .second, .val (.long q2), .second, .val (.long q3), .second, .val (.int p4), .val (.long (g1_0_t0 q0 q2 p4)), .second, .val (.long (g2_15_t0 q1 q3 p4)), .second, .val (.ref b5), .unset, .unset, .unset, .unset] [(.long (g2_15_t0 q1 q3 p4)), (.long (g1_0_t0 q0 q2 p4)), (.ref b11), (.ref b11)])) τ → Steps p.tables e below (s₁.setTop (entryFrame m #[(.long q0), (.long q1), (.long q2), (.long q3), (.int p4)] maxLocals)) τ := fun τ κ => c12 τ (by
      show Steps p.tables e below (T11.setTop (mkF m 44 #[.val (.long q0), .second, .val (.long q1), .second, .val (.long q2), .second, .val (.long q3), .second, .val (.int p4), .val (.long (g1_0_t0 q0 q2 p4)), .second, .val (.long (g2_15_t0 q1 q3 p4)), .second, .val (.ref b5), .unset, .unset, .unset, .unset] [(.ref b11)])) _
      refine XS.dup X11.here hx rfl (hb hby at_44) rfl rfl ?_
      show Steps p.tables e below (T11.setTop (mkF m 45 #[.val (.long q0), .second, .val (.long q1), .second, .val (.long q2), .second, .val (.long q3), .second, .val (.int p4), .val (.long (g1_0_t0 q0 q2 p4)), .second, .val (.long (g2_15_t0 q1 q3 p4)), .second, .val (.ref b5), .unset, .unset, .unset, .unset] [(.ref b11), (.ref b11)])) _
      refine XS.lload X11.here hx rfl (hb hby at_45) rfl ?_
      show Steps p.tables e below (T11.setTop (mkF m 47 #[.val (.long q0), .second, .val (.long q1), .second, .val (.long q2), .second, .val (.long q3), .second, .val (.int p4), .val (.long (g1_0_t0 q0 q2 p4)), .second, .val (.long (g2_15_t0 q1 q3 p4)), .second, .val (.ref b5), .unset, .unset, .unset, .unset] [(.long (g1_0_t0 q0 q2 p4)), (.ref b11), (.ref b11)])) _
      refine XS.lload X11.here hx rfl (hb hby at_47) rfl ?_
      exact κ)
  obtain ⟨_, _, ⟨T14, L14, k14, n14⟩, -, X14, ⟨Lc14, hQ14, l14, y14, z14⟩, st14⟩ := X11.specialBack hx (y := (⟨"com/example/callbook/callbook/engine/Midpoint", "<init>", "(JJ)V"⟩ : MethodName)) rfl hown (mvT hZ (hw _ (List.mem_of_getElem? (i := 3) rfl))) (mvT hZ (hw _ (List.mem_of_getElem? (i := 4) rfl))) (mvT hZ (hw _ (List.mem_of_getElem? (i := 5) rfl))) (by decide) (backOf (W := 1) (rm1 l Z a0 hw [] b11 (g1_0_t0 q0 q2 p4) (g2_15_t0 q1 q3 p4) h11 n0 Z11 A11 F11_bestBid F11_bestAsk gb11) hZ (hw _ (List.mem_of_getElem? (i := 5) rfl)) (hw _ (List.mem_of_getElem? (i := 2) rfl)) (by decide) (by decide)) (g := (mkF m 49 #[.val (.long q0), .second, .val (.long q1), .second, .val (.long q2), .second, .val (.long q3), .second, .val (.int p4), .val (.long (g1_0_t0 q0 q2 p4)), .second, .val (.long (g2_15_t0 q1 q3 p4)), .second, .val (.ref b5), .unset, .unset, .unset, .unset] [(.long (g2_15_t0 q1 q3 p4)), (.long (g1_0_t0 q0 q2 p4)), (.ref b11), (.ref b11)])) rfl (by rw [hml]; rfl) (Steps.refl _) (a := b11) (argsL := [(.long (g1_0_t0 q0 q2 p4)), (.long (g2_15_t0 q1 q3 p4))]) (rest := [(.ref b11)]) (lenOf pd_3 rfl) rfl (by show 2 * 0 + _ ≤ _; exact Nat.le_of_eq rfl) (hb hby at_49) (fun _ _ => ⟨rfl, e11, (by decide : 2 + 0 ≤ _), (by decide : 4 + 0 ≤ _)⟩)
  dsimp only [Pt.U, Pt.locs, Pt.cells, Pt.slots] at X14 l14 y14 z14 st14 hQ14
  subst l14 y14 z14
  obtain ⟨rfl, N14q, K14q, M14⟩ := hQ14
  have N14 := Fr.app N8 N14q
  have Z14 : n0 ≤ T14.heap.size := Nat.le_trans Z11 K14q.1
  have c15 : ∀ τ, Steps p.tables e below (T14.setTop (mkF m 52 #[.val (.long q0), .second, .val (.long q1), .second, .val (.long q2), .second, .val (.long q3), .second, .val (.int p4), .val (.long (g1_0_t0 q0 q2 p4)), .second, .val (.long (g2_15_t0 q1 q3 p4)), .second, .val (.ref b5), .unset, .unset, .unset, .unset] [(.ref b11)])) τ → Steps p.tables e below (s₁.setTop (entryFrame m #[(.long q0), (.long q1), (.long q2), (.long q3), (.int p4)] maxLocals)) τ := fun τ κ => c13 τ (st14.trans κ)
  obtain ⟨E14m, Fx14m, Fy14m⟩ := M14
  have c16 : ∀ τ, Steps p.tables e below (T14.setTop (mkF m 54 #[.val (.long q0), .second, .val (.long q1), .second, .val (.long q2), .second, .val (.long q3), .second, .val (.int p4), .val (.long (g1_0_t0 q0 q2 p4)), .second, .val (.long (g2_15_t0 q1 q3 p4)), .second, .val (.ref b5), .val (.ref b11), .unset, .unset, .unset] [])) τ → Steps p.tables e below (s₁.setTop (entryFrame m #[(.long q0), (.long q1), (.long q2), (.long q3), (.int p4)] maxLocals)) τ := fun τ κ => c15 τ (by
      show Steps p.tables e below (T14.setTop (mkF m 52 #[.val (.long q0), .second, .val (.long q1), .second, .val (.long q2), .second, .val (.long q3), .second, .val (.int p4), .val (.long (g1_0_t0 q0 q2 p4)), .second, .val (.long (g2_15_t0 q1 q3 p4)), .second, .val (.ref b5), .unset, .unset, .unset, .unset] [(.ref b11)])) _
      refine XS.astore X14.here hx rfl (hb hby at_52) rfl rfl (l' := #[.val (.long q0), .second, .val (.long q1), .second, .val (.long q2), .second, .val (.long q3), .second, .val (.int p4), .val (.long (g1_0_t0 q0 q2 p4)), .second, .val (.long (g2_15_t0 q1 q3 p4)), .second, .val (.ref b5), .val (.ref b11), .unset, .unset, .unset]) rfl ?_
      exact κ)
  obtain ⟨T17, h17, X17, e17, E17, A17, D17, -, st17⟩ := newO X14 hx hZ hown (hw _ (List.mem_of_getElem? (i := 0) rfl)) (hw _ (List.mem_of_getElem? (i := 1) rfl)) (hw _ (List.mem_of_getElem? (i := 2) rfl)) rfl (g := (mkF m 54 #[.val (.long q0), .second, .val (.long q1), .second, .val (.long q2), .second, .val (.long q3), .second, .val (.int p4), .val (.long (g1_0_t0 q0 q2 p4)), .second, .val (.long (g2_15_t0 q1 q3 p4)), .second, .val (.ref b5), .val (.ref b11), .unset, .unset, .unset] [])) rfl (hb hby at_54) (by decide) (by decide)
  obtain ⟨b17, g17⟩ : ∃ z, z = T14.heap.size := ⟨_, rfl⟩
  rw [← g17] at A17 D17 st17
  have gb17 : n0 ≤ b17 := Nat.le_trans Z14 (Nat.le_of_eq g17.symm)
  have f18 := ((E8m.ext E11).keep K14q)
  have ne_b5_b17 : b5 ≠ b17 := Nat.ne_of_lt (Nat.lt_of_lt_of_le f18.lt (Nat.le_of_eq g17.symm))
  have ne_b11_b17 : b11 ≠ b17 := Nat.ne_of_lt (Nat.lt_of_lt_of_le E14m.lt (Nat.le_of_eq g17.symm))
  have Z17 : n0 ≤ h17.size := Nat.le_trans Z14 E17.1
  have F17_bestBid : Fld Z h17 b17 "com/example/callbook/callbook/engine/Midpoint" "bestBid" "J" (.long (0 : Int64)) := D17 (Or.inr (hw _ (List.mem_of_getElem? (i := 10) rfl))) (ty := .long) (by decide)
  have F17_bestAsk : Fld Z h17 b17 "com/example/callbook/callbook/engine/Midpoint" "bestAsk" "J" (.long (0 : Int64)) := D17 (Or.inr (hw _ (List.mem_of_getElem? (i := 12) rfl))) (ty := .long) (by decide)
  have c19 : ∀ τ, Steps p.tables e below (T17.setTop (mkF m 57 #[.val (.long q0), .second, .val (.long q1), .second, .val (.long q2), .second, .val (.long q3), .second, .val (.int p4), .val (.long (g1_0_t0 q0 q2 p4)), .second, .val (.long (g2_15_t0 q1 q3 p4)), .second, .val (.ref b5), .val (.ref b11), .unset, .unset, .unset] [(.ref b17)])) τ → Steps p.tables e below (s₁.setTop (entryFrame m #[(.long q0), (.long q1), (.long q2), (.long q3), (.int p4)] maxLocals)) τ := fun τ κ => c16 τ (st17 τ κ)
  have c20 : ∀ τ, Steps p.tables e below (T17.setTop (mkF m 60 #[.val (.long q0), .second, .val (.long q1), .second, .val (.long q2), .second, .val (.long q3), .second, .val (.int p4), .val (.long (g1_0_t0 q0 q2 p4)), .second, .val (.long (g2_15_t0 q1 q3 p4)), .second, .val (.ref b5), .val (.ref b11), .unset, .unset, .unset] [(.long q0), (.long q1), (.ref b17), (.ref b17)])) τ → Steps p.tables e below (s₁.setTop (entryFrame m #[(.long q0), (.long q1), (.long q2), (.long q3), (.int p4)] maxLocals)) τ := fun τ κ => c19 τ (by
      show Steps p.tables e below (T17.setTop (mkF m 57 #[.val (.long q0), .second, .val (.long q1), .second, .val (.long q2), .second, .val (.long q3), .second, .val (.int p4), .val (.long (g1_0_t0 q0 q2 p4)), .second, .val (.long (g2_15_t0 q1 q3 p4)), .second, .val (.ref b5), .val (.ref b11), .unset, .unset, .unset] [(.ref b17)])) _
      refine XS.dup X17.here hx rfl (hb hby at_57) rfl rfl ?_
      show Steps p.tables e below (T17.setTop (mkF m 58 #[.val (.long q0), .second, .val (.long q1), .second, .val (.long q2), .second, .val (.long q3), .second, .val (.int p4), .val (.long (g1_0_t0 q0 q2 p4)), .second, .val (.long (g2_15_t0 q1 q3 p4)), .second, .val (.ref b5), .val (.ref b11), .unset, .unset, .unset] [(.ref b17), (.ref b17)])) _
      refine XS.lloadN X17.here hx rfl (hb hby at_58) rfl ?_
      show Steps p.tables e below (T17.setTop (mkF m 59 #[.val (.long q0), .second, .val (.long q1), .second, .val (.long q2), .second, .val (.long q3), .second, .val (.int p4), .val (.long (g1_0_t0 q0 q2 p4)), .second, .val (.long (g2_15_t0 q1 q3 p4)), .second, .val (.ref b5), .val (.ref b11), .unset, .unset, .unset] [(.long q1), (.ref b17), (.ref b17)])) _
      refine XS.lloadN X17.here hx rfl (hb hby at_59) rfl ?_
      exact κ)
  obtain ⟨_, _, ⟨T21, L21, k21, n21⟩, -, X21, ⟨Lc21, hQ21, l21, y21, z21⟩, st21⟩ := X17.specialBack hx (y := (⟨"com/example/callbook/callbook/engine/Midpoint", "<init>", "(JJ)V"⟩ : MethodName)) rfl hown (mvT hZ (hw _ (List.mem_of_getElem? (i := 3) rfl))) (mvT hZ (hw _ (List.mem_of_getElem? (i := 4) rfl))) (mvT hZ (hw _ (List.mem_of_getElem? (i := 5) rfl))) (by decide) (backOf (W := 1) (rm1 l Z a0 hw [] b17 q1 q0 h17 n0 Z17 A17 F17_bestBid F17_bestAsk gb17) hZ (hw _ (List.mem_of_getElem? (i := 5) rfl)) (hw _ (List.mem_of_getElem? (i := 2) rfl)) (by decide) (by decide)) (g := (mkF m 60 #[.val (.long q0), .second, .val (.long q1), .second, .val (.long q2), .second, .val (.long q3), .second, .val (.int p4), .val (.long (g1_0_t0 q0 q2 p4)), .second, .val (.long (g2_15_t0 q1 q3 p4)), .second, .val (.ref b5), .val (.ref b11), .unset, .unset, .unset] [(.long q0), (.long q1), (.ref b17), (.ref b17)])) rfl (by rw [hml]; rfl) (Steps.refl _) (a := b17) (argsL := [(.long q1), (.long q0)]) (rest := [(.ref b17)]) (lenOf pd_3 rfl) rfl (by show 2 * 0 + _ ≤ _; exact Nat.le_of_eq rfl) (hb hby at_60) (fun _ _ => ⟨rfl, e17, (by decide : 3 + 0 ≤ _), (by decide : 6 + 0 ≤ _)⟩)
  dsimp only [Pt.U, Pt.locs, Pt.cells, Pt.slots] at X21 l21 y21 z21 st21 hQ21
  subst l21 y21 z21
  obtain ⟨rfl, N21q, K21q, M21⟩ := hQ21
  have N21 := Fr.app N14 N21q
  have Z21 : n0 ≤ T21.heap.size := Nat.le_trans Z17 K21q.1
  have c22 : ∀ τ, Steps p.tables e below (T21.setTop (mkF m 63 #[.val (.long q0), .second, .val (.long q1), .second, .val (.long q2), .second, .val (.long q3), .second, .val (.int p4), .val (.long (g1_0_t0 q0 q2 p4)), .second, .val (.long (g2_15_t0 q1 q3 p4)), .second, .val (.ref b5), .val (.ref b11), .unset, .unset, .unset] [(.ref b17)])) τ → Steps p.tables e below (s₁.setTop (entryFrame m #[(.long q0), (.long q1), (.long q2), (.long q3), (.int p4)] maxLocals)) τ := fun τ κ => c20 τ (st21.trans κ)
  obtain ⟨E21m, Fx21m, Fy21m⟩ := M21
  have c23 : ∀ τ, Steps p.tables e below (T21.setTop (mkF m 65 #[.val (.long q0), .second, .val (.long q1), .second, .val (.long q2), .second, .val (.long q3), .second, .val (.int p4), .val (.long (g1_0_t0 q0 q2 p4)), .second, .val (.long (g2_15_t0 q1 q3 p4)), .second, .val (.ref b5), .val (.ref b11), .val (.ref b17), .unset, .unset] [])) τ → Steps p.tables e below (s₁.setTop (entryFrame m #[(.long q0), (.long q1), (.long q2), (.long q3), (.int p4)] maxLocals)) τ := fun τ κ => c22 τ (by
      show Steps p.tables e below (T21.setTop (mkF m 63 #[.val (.long q0), .second, .val (.long q1), .second, .val (.long q2), .second, .val (.long q3), .second, .val (.int p4), .val (.long (g1_0_t0 q0 q2 p4)), .second, .val (.long (g2_15_t0 q1 q3 p4)), .second, .val (.ref b5), .val (.ref b11), .unset, .unset, .unset] [(.ref b17)])) _
      refine XS.astore X21.here hx rfl (hb hby at_63) rfl rfl (l' := #[.val (.long q0), .second, .val (.long q1), .second, .val (.long q2), .second, .val (.long q3), .second, .val (.int p4), .val (.long (g1_0_t0 q0 q2 p4)), .second, .val (.long (g2_15_t0 q1 q3 p4)), .second, .val (.ref b5), .val (.ref b11), .val (.ref b17), .unset, .unset]) rfl ?_
      exact κ)
  have c24 : ∀ τ, Steps p.tables e below (T21.setTop (mkF m 84 #[.val (.long q0), .second, .val (.long q1), .second, .val (.long q2), .second, .val (.long q3), .second, .val (.int p4), .val (.long (g1_0_t0 q0 q2 p4)), .second, .val (.long (g2_15_t0 q1 q3 p4)), .second, .val (.ref b5), .val (.ref b11), .val (.ref b17), .unset, .unset] [(.int (g3_65_t0 q0 q1 (g1_0_t0 q0 q2 p4) (g2_15_t0 q1 q3 p4)))])) τ → Steps p.tables e below (s₁.setTop (entryFrame m #[(.long q0), (.long q1), (.long q2), (.long q3), (.int p4)] maxLocals)) τ := fun τ κ => c23 τ (g3_65 q0 q1 q2 q3 p4 (g1_0_t0 q0 q2 p4) (g2_15_t0 q1 q3 p4) b5 b11 b17 X21 hx hZ hw hby hown κ)
  have f25 := ((f18.ext E17).keep K21q)
  have f26 := ((((Fx8m.ext E11).keep K14q (ninS ne_b5_b11 nin0)).ext E17).keep K21q (ninS ne_b5_b17 nin0))
  have f27 := ((((Fy8m.ext E11).keep K14q (ninS ne_b5_b11 nin0)).ext E17).keep K21q (ninS ne_b5_b17 nin0))
  have f28 := ((E14m.ext E17).keep K21q)
  have f29 := ((Fx14m.ext E17).keep K21q (ninS ne_b11_b17 nin0))
  have f30 := ((Fy14m.ext E17).keep K21q (ninS ne_b11_b17 nin0))
  have c31 : ∀ τ, Steps p.tables e below (T21.setTop (mkF m 90 #[.val (.long q0), .second, .val (.long q1), .second, .val (.long q2), .second, .val (.long q3), .second, .val (.int p4), .val (.long (g1_0_t0 q0 q2 p4)), .second, .val (.long (g2_15_t0 q1 q3 p4)), .second, .val (.ref b5), .val (.ref b11), .val (.ref b17), .val (.int (g3_65_t0 q0 q1 (g1_0_t0 q0 q2 p4) (g2_15_t0 q1 q3 p4))), .unset] [(.ref b11), (.ref b5)])) τ → Steps p.tables e below (s₁.setTop (entryFrame m #[(.long q0), (.long q1), (.long q2), (.long q3), (.int p4)] maxLocals)) τ := fun τ κ => c24 τ (by
      show Steps p.tables e below (T21.setTop (mkF m 84 #[.val (.long q0), .second, .val (.long q1), .second, .val (.long q2), .second, .val (.long q3), .second, .val (.int p4), .val (.long (g1_0_t0 q0 q2 p4)), .second, .val (.long (g2_15_t0 q1 q3 p4)), .second, .val (.ref b5), .val (.ref b11), .val (.ref b17), .unset, .unset] [(.int (g3_65_t0 q0 q1 (g1_0_t0 q0 q2 p4) (g2_15_t0 q1 q3 p4)))])) _
      refine XS.istore X21.here hx rfl (hb hby at_84) rfl (l' := #[.val (.long q0), .second, .val (.long q1), .second, .val (.long q2), .second, .val (.long q3), .second, .val (.int p4), .val (.long (g1_0_t0 q0 q2 p4)), .second, .val (.long (g2_15_t0 q1 q3 p4)), .second, .val (.ref b5), .val (.ref b11), .val (.ref b17), .val (.int (g3_65_t0 q0 q1 (g1_0_t0 q0 q2 p4) (g2_15_t0 q1 q3 p4))), .unset]) rfl ?_
      show Steps p.tables e below (T21.setTop (mkF m 86 #[.val (.long q0), .second, .val (.long q1), .second, .val (.long q2), .second, .val (.long q3), .second, .val (.int p4), .val (.long (g1_0_t0 q0 q2 p4)), .second, .val (.long (g2_15_t0 q1 q3 p4)), .second, .val (.ref b5), .val (.ref b11), .val (.ref b17), .val (.int (g3_65_t0 q0 q1 (g1_0_t0 q0 q2 p4) (g2_15_t0 q1 q3 p4))), .unset] [])) _
      refine XS.aload X21.here hx rfl (hb hby at_86) rfl rfl ?_
      show Steps p.tables e below (T21.setTop (mkF m 88 #[.val (.long q0), .second, .val (.long q1), .second, .val (.long q2), .second, .val (.long q3), .second, .val (.int p4), .val (.long (g1_0_t0 q0 q2 p4)), .second, .val (.long (g2_15_t0 q1 q3 p4)), .second, .val (.ref b5), .val (.ref b11), .val (.ref b17), .val (.int (g3_65_t0 q0 q1 (g1_0_t0 q0 q2 p4) (g2_15_t0 q1 q3 p4))), .unset] [(.ref b5)])) _
      refine XS.aload X21.here hx rfl (hb hby at_88) rfl rfl ?_
      exact κ)
  obtain ⟨cq32, kq32, q32a, q32b, q32c⟩ := isOf hZ rfl f25
  obtain ⟨_, _, ⟨T32, L32, k32, n32⟩, -, X32, ⟨Lc32, hQ32, l32, y32, z32⟩, st32⟩ := X21.virtualBack hx (y := (⟨"com/example/callbook/callbook/engine/Midpoint", "equals", "(Ljava/lang/Object;)Z"⟩ : MethodName)) (z := (⟨"com/example/callbook/callbook/engine/Midpoint", "equals", "(Ljava/lang/Object;)Z"⟩ : MethodName)) hown (mvT hZ (hw _ (List.mem_of_getElem? (i := 13) rfl))) (mvT hZ (hw _ (List.mem_of_getElem? (i := 14) rfl))) (notFace_of_selects (args := #[]) (mvT hZ (hw _ (List.mem_of_getElem? (i := 16) rfl)))) (mvT hZ (hw _ (List.mem_of_getElem? (i := 16) rfl))) (mvT hZ (hw _ (List.mem_of_getElem? (i := 15) rfl))) (by decide) (backOf (W := 0) (rm3 l Z a0 hw [] b5 b11 q0 q1 (g1_0_t0 q0 q2 p4) (g2_15_t0 q1 q3 p4) T21.heap n0 Z21 ⟨f25, f26, f27⟩ ⟨f28, f29, f30⟩) hZ (hw _ (List.mem_of_getElem? (i := 17) rfl)) (hw _ (List.mem_of_getElem? (i := 2) rfl)) (by decide) (by decide)) q32a q32c (g := (mkF m 90 #[.val (.long q0), .second, .val (.long q1), .second, .val (.long q2), .second, .val (.long q3), .second, .val (.int p4), .val (.long (g1_0_t0 q0 q2 p4)), .second, .val (.long (g2_15_t0 q1 q3 p4)), .second, .val (.ref b5), .val (.ref b11), .val (.ref b17), .val (.int (g3_65_t0 q0 q1 (g1_0_t0 q0 q2 p4) (g2_15_t0 q1 q3 p4))), .unset] [(.ref b11), (.ref b5)])) rfl (by rw [hml]; rfl) (Steps.refl _) (argsL := [(.ref b11)]) (rest := []) (lenOf pd_4 rfl) rfl (by show 2 * 0 + _ ≤ _; exact Nat.le_of_eq rfl) (hb hby at_90) (fun _ _ => ⟨rfl, rfl, (by decide : 3 + 0 ≤ _), (by decide : 6 + 0 ≤ _)⟩)
  dsimp only [Pt.U, Pt.locs, Pt.cells, Pt.slots] at X32 l32 y32 z32 st32 hQ32
  subst l32 y32 z32
  obtain ⟨rfl, N32q, e32⟩ := hQ32
  have N32 := Fr.app N21 N32q
  have c33 : ∀ τ, Steps p.tables e below (T32.setTop (mkF m 93 #[.val (.long q0), .second, .val (.long q1), .second, .val (.long q2), .second, .val (.long q3), .second, .val (.int p4), .val (.long (g1_0_t0 q0 q2 p4)), .second, .val (.long (g2_15_t0 q1 q3 p4)), .second, .val (.ref b5), .val (.ref b11), .val (.ref b17), .val (.int (g3_65_t0 q0 q1 (g1_0_t0 q0 q2 p4) (g2_15_t0 q1 q3 p4))), .unset] [(.int (own_eq q0 q1 (g1_0_t0 q0 q2 p4) (g2_15_t0 q1 q3 p4)))])) τ → Steps p.tables e below (s₁.setTop (entryFrame m #[(.long q0), (.long q1), (.long q2), (.long q3), (.int p4)] maxLocals)) τ := fun τ κ => c31 τ (st32.trans κ)
  have c34 : ∀ τ, Steps p.tables e below (T32.setTop (mkF m 114 #[.val (.long q0), .second, .val (.long q1), .second, .val (.long q2), .second, .val (.long q3), .second, .val (.int p4), .val (.long (g1_0_t0 q0 q2 p4)), .second, .val (.long (g2_15_t0 q1 q3 p4)), .second, .val (.ref b5), .val (.ref b11), .val (.ref b17), .val (.int (g3_65_t0 q0 q1 (g1_0_t0 q0 q2 p4) (g2_15_t0 q1 q3 p4))), .val (.int (1 : Int32))] [(.ref b5), (.ref b11)])) τ → Steps p.tables e below (s₁.setTop (entryFrame m #[(.long q0), (.long q1), (.long q2), (.long q3), (.int p4)] maxLocals)) τ := fun τ κ => c33 τ (by
      show Steps p.tables e below (T32.setTop (mkF m 93 #[.val (.long q0), .second, .val (.long q1), .second, .val (.long q2), .second, .val (.long q3), .second, .val (.int p4), .val (.long (g1_0_t0 q0 q2 p4)), .second, .val (.long (g2_15_t0 q1 q3 p4)), .second, .val (.ref b5), .val (.ref b11), .val (.ref b17), .val (.int (g3_65_t0 q0 q1 (g1_0_t0 q0 q2 p4) (g2_15_t0 q1 q3 p4))), .unset] [(.int (own_eq q0 q1 (g1_0_t0 q0 q2 p4) (g2_15_t0 q1 q3 p4)))])) _
      refine XS.iload X32.here hx rfl (hb hby at_93) rfl ?_
      show Steps p.tables e below (T32.setTop (mkF m 95 #[.val (.long q0), .second, .val (.long q1), .second, .val (.long q2), .second, .val (.long q3), .second, .val (.int p4), .val (.long (g1_0_t0 q0 q2 p4)), .second, .val (.long (g2_15_t0 q1 q3 p4)), .second, .val (.ref b5), .val (.ref b11), .val (.ref b17), .val (.int (g3_65_t0 q0 q1 (g1_0_t0 q0 q2 p4) (g2_15_t0 q1 q3 p4))), .unset] [(.int (g3_65_t0 q0 q1 (g1_0_t0 q0 q2 p4) (g2_15_t0 q1 q3 p4))), (.int (own_eq q0 q1 (g1_0_t0 q0 q2 p4) (g2_15_t0 q1 q3 p4)))])) _
      refine XS.icmpNo X32.here hx rfl (hb hby at_95) rfl (teq (own_l1 q0 q1 q2 q3 p4)).2 ?_
      show Steps p.tables e below (T32.setTop (mkF m 98 #[.val (.long q0), .second, .val (.long q1), .second, .val (.long q2), .second, .val (.long q3), .second, .val (.int p4), .val (.long (g1_0_t0 q0 q2 p4)), .second, .val (.long (g2_15_t0 q1 q3 p4)), .second, .val (.ref b5), .val (.ref b11), .val (.ref b17), .val (.int (g3_65_t0 q0 q1 (g1_0_t0 q0 q2 p4) (g2_15_t0 q1 q3 p4))), .unset] [])) _
      refine XS.iconst X32.here hx rfl (hb hby at_98) ?_
      show Steps p.tables e below (T32.setTop (mkF m 99 #[.val (.long q0), .second, .val (.long q1), .second, .val (.long q2), .second, .val (.long q3), .second, .val (.int p4), .val (.long (g1_0_t0 q0 q2 p4)), .second, .val (.long (g2_15_t0 q1 q3 p4)), .second, .val (.ref b5), .val (.ref b11), .val (.ref b17), .val (.int (g3_65_t0 q0 q1 (g1_0_t0 q0 q2 p4) (g2_15_t0 q1 q3 p4))), .unset] [(.int (1 : Int32))])) _
      refine XS.goto X32.here hx rfl (pc0 := 99) (pc' := 103) rfl (hb hby at_99) (by decide) (by decide) ?_
      show Steps p.tables e below (T32.setTop (mkF m 103 #[.val (.long q0), .second, .val (.long q1), .second, .val (.long q2), .second, .val (.long q3), .second, .val (.int p4), .val (.long (g1_0_t0 q0 q2 p4)), .second, .val (.long (g2_15_t0 q1 q3 p4)), .second, .val (.ref b5), .val (.ref b11), .val (.ref b17), .val (.int (g3_65_t0 q0 q1 (g1_0_t0 q0 q2 p4) (g2_15_t0 q1 q3 p4))), .unset] [(.int (1 : Int32))])) _
      refine XS.istore X32.here hx rfl (hb hby at_103) rfl (l' := #[.val (.long q0), .second, .val (.long q1), .second, .val (.long q2), .second, .val (.long q3), .second, .val (.int p4), .val (.long (g1_0_t0 q0 q2 p4)), .second, .val (.long (g2_15_t0 q1 q3 p4)), .second, .val (.ref b5), .val (.ref b11), .val (.ref b17), .val (.int (g3_65_t0 q0 q1 (g1_0_t0 q0 q2 p4) (g2_15_t0 q1 q3 p4))), .val (.int (1 : Int32))]) rfl ?_
      show Steps p.tables e below (T32.setTop (mkF m 105 #[.val (.long q0), .second, .val (.long q1), .second, .val (.long q2), .second, .val (.long q3), .second, .val (.int p4), .val (.long (g1_0_t0 q0 q2 p4)), .second, .val (.long (g2_15_t0 q1 q3 p4)), .second, .val (.ref b5), .val (.ref b11), .val (.ref b17), .val (.int (g3_65_t0 q0 q1 (g1_0_t0 q0 q2 p4) (g2_15_t0 q1 q3 p4))), .val (.int (1 : Int32))] [])) _
      refine XS.iload X32.here hx rfl (hb hby at_105) rfl ?_
      show Steps p.tables e below (T32.setTop (mkF m 107 #[.val (.long q0), .second, .val (.long q1), .second, .val (.long q2), .second, .val (.long q3), .second, .val (.int p4), .val (.long (g1_0_t0 q0 q2 p4)), .second, .val (.long (g2_15_t0 q1 q3 p4)), .second, .val (.ref b5), .val (.ref b11), .val (.ref b17), .val (.int (g3_65_t0 q0 q1 (g1_0_t0 q0 q2 p4) (g2_15_t0 q1 q3 p4))), .val (.int (1 : Int32))] [(.int (1 : Int32))])) _
      refine XS.ifNo X32.here hx rfl (hb hby at_107) rfl ((if0 _ _).trans (feq (by decide)).1) ?_
      show Steps p.tables e below (T32.setTop (mkF m 110 #[.val (.long q0), .second, .val (.long q1), .second, .val (.long q2), .second, .val (.long q3), .second, .val (.int p4), .val (.long (g1_0_t0 q0 q2 p4)), .second, .val (.long (g2_15_t0 q1 q3 p4)), .second, .val (.ref b5), .val (.ref b11), .val (.ref b17), .val (.int (g3_65_t0 q0 q1 (g1_0_t0 q0 q2 p4) (g2_15_t0 q1 q3 p4))), .val (.int (1 : Int32))] [])) _
      refine XS.aload X32.here hx rfl (hb hby at_110) rfl rfl ?_
      show Steps p.tables e below (T32.setTop (mkF m 112 #[.val (.long q0), .second, .val (.long q1), .second, .val (.long q2), .second, .val (.long q3), .second, .val (.int p4), .val (.long (g1_0_t0 q0 q2 p4)), .second, .val (.long (g2_15_t0 q1 q3 p4)), .second, .val (.ref b5), .val (.ref b11), .val (.ref b17), .val (.int (g3_65_t0 q0 q1 (g1_0_t0 q0 q2 p4) (g2_15_t0 q1 q3 p4))), .val (.int (1 : Int32))] [(.ref b11)])) _
      refine XS.aload X32.here hx rfl (hb hby at_112) rfl rfl ?_
      exact κ)
  obtain ⟨cq35, kq35, q35a, q35b, q35c⟩ := isOf hZ e32 f28
  obtain ⟨_, _, ⟨T35, L35, k35, n35⟩, -, X35, ⟨Lc35, hQ35, l35, y35, z35⟩, st35⟩ := X32.virtualBack hx (y := (⟨"com/example/callbook/callbook/engine/Midpoint", "equals", "(Ljava/lang/Object;)Z"⟩ : MethodName)) (z := (⟨"com/example/callbook/callbook/engine/Midpoint", "equals", "(Ljava/lang/Object;)Z"⟩ : MethodName)) hown (mvT hZ (hw _ (List.mem_of_getElem? (i := 13) rfl))) (mvT hZ (hw _ (List.mem_of_getElem? (i := 14) rfl))) (notFace_of_selects (args := #[]) (mvT hZ (hw _ (List.mem_of_getElem? (i := 16) rfl)))) (mvT hZ (hw _ (List.mem_of_getElem? (i := 16) rfl))) (mvT hZ (hw _ (List.mem_of_getElem? (i := 15) rfl))) (by decide) (backOf (W := 0) (rm3 l Z a0 hw [] b11 b5 (g1_0_t0 q0 q2 p4) (g2_15_t0 q1 q3 p4) q0 q1 T21.heap n0 Z21 ⟨f28, f29, f30⟩ ⟨f25, f26, f27⟩) hZ (hw _ (List.mem_of_getElem? (i := 17) rfl)) (hw _ (List.mem_of_getElem? (i := 2) rfl)) (by decide) (by decide)) q35a q35c (g := (mkF m 114 #[.val (.long q0), .second, .val (.long q1), .second, .val (.long q2), .second, .val (.long q3), .second, .val (.int p4), .val (.long (g1_0_t0 q0 q2 p4)), .second, .val (.long (g2_15_t0 q1 q3 p4)), .second, .val (.ref b5), .val (.ref b11), .val (.ref b17), .val (.int (g3_65_t0 q0 q1 (g1_0_t0 q0 q2 p4) (g2_15_t0 q1 q3 p4))), .val (.int (1 : Int32))] [(.ref b5), (.ref b11)])) rfl (by rw [hml]; rfl) (Steps.refl _) (argsL := [(.ref b5)]) (rest := []) (lenOf pd_4 rfl) rfl (by show 2 * 0 + _ ≤ _; exact Nat.le_of_eq rfl) (hb hby at_114) (fun _ _ => ⟨rfl, e32, (by decide : 3 + 0 ≤ _), (by decide : 6 + 0 ≤ _)⟩)
  dsimp only [Pt.U, Pt.locs, Pt.cells, Pt.slots] at X35 l35 y35 z35 st35 hQ35
  subst l35 y35 z35
  obtain ⟨rfl, N35q, e35⟩ := hQ35
  have N35 := Fr.app N32 N35q
  have c36 : ∀ τ, Steps p.tables e below (T35.setTop (mkF m 117 #[.val (.long q0), .second, .val (.long q1), .second, .val (.long q2), .second, .val (.long q3), .second, .val (.int p4), .val (.long (g1_0_t0 q0 q2 p4)), .second, .val (.long (g2_15_t0 q1 q3 p4)), .second, .val (.ref b5), .val (.ref b11), .val (.ref b17), .val (.int (g3_65_t0 q0 q1 (g1_0_t0 q0 q2 p4) (g2_15_t0 q1 q3 p4))), .val (.int (1 : Int32))] [(.int (own_eq (g1_0_t0 q0 q2 p4) (g2_15_t0 q1 q3 p4) q0 q1))])) τ → Steps p.tables e below (s₁.setTop (entryFrame m #[(.long q0), (.long q1), (.long q2), (.long q3), (.int p4)] maxLocals)) τ := fun τ κ => c34 τ (st35.trans κ)
  have c37 : ∀ τ, Steps p.tables e below (T35.setTop (mkF m 138 #[.val (.long q0), .second, .val (.long q1), .second, .val (.long q2), .second, .val (.long q3), .second, .val (.int p4), .val (.long (g1_0_t0 q0 q2 p4)), .second, .val (.long (g2_15_t0 q1 q3 p4)), .second, .val (.ref b5), .val (.ref b11), .val (.ref b17), .val (.int (g3_65_t0 q0 q1 (g1_0_t0 q0 q2 p4) (g2_15_t0 q1 q3 p4))), .val (.int (1 : Int32))] [(.ref b5), (.ref b5)])) τ → Steps p.tables e below (s₁.setTop (entryFrame m #[(.long q0), (.long q1), (.long q2), (.long q3), (.int p4)] maxLocals)) τ := fun τ κ => c36 τ (by
      show Steps p.tables e below (T35.setTop (mkF m 117 #[.val (.long q0), .second, .val (.long q1), .second, .val (.long q2), .second, .val (.long q3), .second, .val (.int p4), .val (.long (g1_0_t0 q0 q2 p4)), .second, .val (.long (g2_15_t0 q1 q3 p4)), .second, .val (.ref b5), .val (.ref b11), .val (.ref b17), .val (.int (g3_65_t0 q0 q1 (g1_0_t0 q0 q2 p4) (g2_15_t0 q1 q3 p4))), .val (.int (1 : Int32))] [(.int (own_eq (g1_0_t0 q0 q2 p4) (g2_15_t0 q1 q3 p4) q0 q1))])) _
      refine XS.iload X35.here hx rfl (hb hby at_117) rfl ?_
      show Steps p.tables e below (T35.setTop (mkF m 119 #[.val (.long q0), .second, .val (.long q1), .second, .val (.long q2), .second, .val (.long q3), .second, .val (.int p4), .val (.long (g1_0_t0 q0 q2 p4)), .second, .val (.long (g2_15_t0 q1 q3 p4)), .second, .val (.ref b5), .val (.ref b11), .val (.ref b17), .val (.int (g3_65_t0 q0 q1 (g1_0_t0 q0 q2 p4) (g2_15_t0 q1 q3 p4))), .val (.int (1 : Int32))] [(.int (g3_65_t0 q0 q1 (g1_0_t0 q0 q2 p4) (g2_15_t0 q1 q3 p4))), (.int (own_eq (g1_0_t0 q0 q2 p4) (g2_15_t0 q1 q3 p4) q0 q1))])) _
      refine XS.icmpNo X35.here hx rfl (hb hby at_119) rfl (teq (own_l2 q0 q1 q2 q3 p4)).2 ?_
      show Steps p.tables e below (T35.setTop (mkF m 122 #[.val (.long q0), .second, .val (.long q1), .second, .val (.long q2), .second, .val (.long q3), .second, .val (.int p4), .val (.long (g1_0_t0 q0 q2 p4)), .second, .val (.long (g2_15_t0 q1 q3 p4)), .second, .val (.ref b5), .val (.ref b11), .val (.ref b17), .val (.int (g3_65_t0 q0 q1 (g1_0_t0 q0 q2 p4) (g2_15_t0 q1 q3 p4))), .val (.int (1 : Int32))] [])) _
      refine XS.iconst X35.here hx rfl (hb hby at_122) ?_
      show Steps p.tables e below (T35.setTop (mkF m 123 #[.val (.long q0), .second, .val (.long q1), .second, .val (.long q2), .second, .val (.long q3), .second, .val (.int p4), .val (.long (g1_0_t0 q0 q2 p4)), .second, .val (.long (g2_15_t0 q1 q3 p4)), .second, .val (.ref b5), .val (.ref b11), .val (.ref b17), .val (.int (g3_65_t0 q0 q1 (g1_0_t0 q0 q2 p4) (g2_15_t0 q1 q3 p4))), .val (.int (1 : Int32))] [(.int (1 : Int32))])) _
      refine XS.goto X35.here hx rfl (pc0 := 123) (pc' := 127) rfl (hb hby at_123) (by decide) (by decide) ?_
      show Steps p.tables e below (T35.setTop (mkF m 127 #[.val (.long q0), .second, .val (.long q1), .second, .val (.long q2), .second, .val (.long q3), .second, .val (.int p4), .val (.long (g1_0_t0 q0 q2 p4)), .second, .val (.long (g2_15_t0 q1 q3 p4)), .second, .val (.ref b5), .val (.ref b11), .val (.ref b17), .val (.int (g3_65_t0 q0 q1 (g1_0_t0 q0 q2 p4) (g2_15_t0 q1 q3 p4))), .val (.int (1 : Int32))] [(.int (1 : Int32))])) _
      refine XS.istore X35.here hx rfl (hb hby at_127) rfl (l' := #[.val (.long q0), .second, .val (.long q1), .second, .val (.long q2), .second, .val (.long q3), .second, .val (.int p4), .val (.long (g1_0_t0 q0 q2 p4)), .second, .val (.long (g2_15_t0 q1 q3 p4)), .second, .val (.ref b5), .val (.ref b11), .val (.ref b17), .val (.int (g3_65_t0 q0 q1 (g1_0_t0 q0 q2 p4) (g2_15_t0 q1 q3 p4))), .val (.int (1 : Int32))]) rfl ?_
      show Steps p.tables e below (T35.setTop (mkF m 129 #[.val (.long q0), .second, .val (.long q1), .second, .val (.long q2), .second, .val (.long q3), .second, .val (.int p4), .val (.long (g1_0_t0 q0 q2 p4)), .second, .val (.long (g2_15_t0 q1 q3 p4)), .second, .val (.ref b5), .val (.ref b11), .val (.ref b17), .val (.int (g3_65_t0 q0 q1 (g1_0_t0 q0 q2 p4) (g2_15_t0 q1 q3 p4))), .val (.int (1 : Int32))] [])) _
      refine XS.iload X35.here hx rfl (hb hby at_129) rfl ?_
      show Steps p.tables e below (T35.setTop (mkF m 131 #[.val (.long q0), .second, .val (.long q1), .second, .val (.long q2), .second, .val (.long q3), .second, .val (.int p4), .val (.long (g1_0_t0 q0 q2 p4)), .second, .val (.long (g2_15_t0 q1 q3 p4)), .second, .val (.ref b5), .val (.ref b11), .val (.ref b17), .val (.int (g3_65_t0 q0 q1 (g1_0_t0 q0 q2 p4) (g2_15_t0 q1 q3 p4))), .val (.int (1 : Int32))] [(.int (1 : Int32))])) _
      refine XS.ifNo X35.here hx rfl (hb hby at_131) rfl ((if0 _ _).trans (feq (by decide)).1) ?_
      show Steps p.tables e below (T35.setTop (mkF m 134 #[.val (.long q0), .second, .val (.long q1), .second, .val (.long q2), .second, .val (.long q3), .second, .val (.int p4), .val (.long (g1_0_t0 q0 q2 p4)), .second, .val (.long (g2_15_t0 q1 q3 p4)), .second, .val (.ref b5), .val (.ref b11), .val (.ref b17), .val (.int (g3_65_t0 q0 q1 (g1_0_t0 q0 q2 p4) (g2_15_t0 q1 q3 p4))), .val (.int (1 : Int32))] [])) _
      refine XS.aload X35.here hx rfl (hb hby at_134) rfl rfl ?_
      show Steps p.tables e below (T35.setTop (mkF m 136 #[.val (.long q0), .second, .val (.long q1), .second, .val (.long q2), .second, .val (.long q3), .second, .val (.int p4), .val (.long (g1_0_t0 q0 q2 p4)), .second, .val (.long (g2_15_t0 q1 q3 p4)), .second, .val (.ref b5), .val (.ref b11), .val (.ref b17), .val (.int (g3_65_t0 q0 q1 (g1_0_t0 q0 q2 p4) (g2_15_t0 q1 q3 p4))), .val (.int (1 : Int32))] [(.ref b5)])) _
      refine XS.aload X35.here hx rfl (hb hby at_136) rfl rfl ?_
      exact κ)
  obtain ⟨cq38, kq38, q38a, q38b, q38c⟩ := isOf hZ e35 f25
  obtain ⟨_, _, ⟨T38, L38, k38, n38⟩, -, X38, ⟨Lc38, hQ38, l38, y38, z38⟩, st38⟩ := X35.virtualBack hx (y := (⟨"com/example/callbook/callbook/engine/Midpoint", "equals", "(Ljava/lang/Object;)Z"⟩ : MethodName)) (z := (⟨"com/example/callbook/callbook/engine/Midpoint", "equals", "(Ljava/lang/Object;)Z"⟩ : MethodName)) hown (mvT hZ (hw _ (List.mem_of_getElem? (i := 13) rfl))) (mvT hZ (hw _ (List.mem_of_getElem? (i := 14) rfl))) (notFace_of_selects (args := #[]) (mvT hZ (hw _ (List.mem_of_getElem? (i := 16) rfl)))) (mvT hZ (hw _ (List.mem_of_getElem? (i := 16) rfl))) (mvT hZ (hw _ (List.mem_of_getElem? (i := 15) rfl))) (by decide) (backOf (W := 0) (rm3 l Z a0 hw [] b5 b5 q0 q1 q0 q1 T21.heap n0 Z21 ⟨f25, f26, f27⟩ ⟨f25, f26, f27⟩) hZ (hw _ (List.mem_of_getElem? (i := 17) rfl)) (hw _ (List.mem_of_getElem? (i := 2) rfl)) (by decide) (by decide)) q38a q38c (g := (mkF m 138 #[.val (.long q0), .second, .val (.long q1), .second, .val (.long q2), .second, .val (.long q3), .second, .val (.int p4), .val (.long (g1_0_t0 q0 q2 p4)), .second, .val (.long (g2_15_t0 q1 q3 p4)), .second, .val (.ref b5), .val (.ref b11), .val (.ref b17), .val (.int (g3_65_t0 q0 q1 (g1_0_t0 q0 q2 p4) (g2_15_t0 q1 q3 p4))), .val (.int (1 : Int32))] [(.ref b5), (.ref b5)])) rfl (by rw [hml]; rfl) (Steps.refl _) (argsL := [(.ref b5)]) (rest := []) (lenOf pd_4 rfl) rfl (by show 2 * 0 + _ ≤ _; exact Nat.le_of_eq rfl) (hb hby at_138) (fun _ _ => ⟨rfl, e35, (by decide : 3 + 0 ≤ _), (by decide : 6 + 0 ≤ _)⟩)
  dsimp only [Pt.U, Pt.locs, Pt.cells, Pt.slots] at X38 l38 y38 z38 st38 hQ38
  subst l38 y38 z38
  obtain ⟨rfl, N38q, e38⟩ := hQ38
  have N38 := Fr.app N35 N38q
  have c39 : ∀ τ, Steps p.tables e below (T38.setTop (mkF m 141 #[.val (.long q0), .second, .val (.long q1), .second, .val (.long q2), .second, .val (.long q3), .second, .val (.int p4), .val (.long (g1_0_t0 q0 q2 p4)), .second, .val (.long (g2_15_t0 q1 q3 p4)), .second, .val (.ref b5), .val (.ref b11), .val (.ref b17), .val (.int (g3_65_t0 q0 q1 (g1_0_t0 q0 q2 p4) (g2_15_t0 q1 q3 p4))), .val (.int (1 : Int32))] [(.int (own_eq q0 q1 q0 q1))])) τ → Steps p.tables e below (s₁.setTop (entryFrame m #[(.long q0), (.long q1), (.long q2), (.long q3), (.int p4)] maxLocals)) τ := fun τ κ => c37 τ (st38.trans κ)
  have c40 : ∀ τ, Steps p.tables e below (T38.setTop (mkF m 160 #[.val (.long q0), .second, .val (.long q1), .second, .val (.long q2), .second, .val (.long q3), .second, .val (.int p4), .val (.long (g1_0_t0 q0 q2 p4)), .second, .val (.long (g2_15_t0 q1 q3 p4)), .second, .val (.ref b5), .val (.ref b11), .val (.ref b17), .val (.int (g3_65_t0 q0 q1 (g1_0_t0 q0 q2 p4) (g2_15_t0 q1 q3 p4))), .val (.int (1 : Int32))] [(.ref b17), (.ref b5)])) τ → Steps p.tables e below (s₁.setTop (entryFrame m #[(.long q0), (.long q1), (.long q2), (.long q3), (.int p4)] maxLocals)) τ := fun τ κ => c39 τ (by
      show Steps p.tables e below (T38.setTop (mkF m 141 #[.val (.long q0), .second, .val (.long q1), .second, .val (.long q2), .second, .val (.long q3), .second, .val (.int p4), .val (.long (g1_0_t0 q0 q2 p4)), .second, .val (.long (g2_15_t0 q1 q3 p4)), .second, .val (.ref b5), .val (.ref b11), .val (.ref b17), .val (.int (g3_65_t0 q0 q1 (g1_0_t0 q0 q2 p4) (g2_15_t0 q1 q3 p4))), .val (.int (1 : Int32))] [(.int (own_eq q0 q1 q0 q1))])) _
      refine XS.ifNo X38.here hx rfl (hb hby at_141) rfl ((if0 _ _).trans (feq (own_l3 q0 q1 q2 q3 p4)).1) ?_
      show Steps p.tables e below (T38.setTop (mkF m 144 #[.val (.long q0), .second, .val (.long q1), .second, .val (.long q2), .second, .val (.long q3), .second, .val (.int p4), .val (.long (g1_0_t0 q0 q2 p4)), .second, .val (.long (g2_15_t0 q1 q3 p4)), .second, .val (.ref b5), .val (.ref b11), .val (.ref b17), .val (.int (g3_65_t0 q0 q1 (g1_0_t0 q0 q2 p4) (g2_15_t0 q1 q3 p4))), .val (.int (1 : Int32))] [])) _
      refine XS.iconst X38.here hx rfl (hb hby at_144) ?_
      show Steps p.tables e below (T38.setTop (mkF m 145 #[.val (.long q0), .second, .val (.long q1), .second, .val (.long q2), .second, .val (.long q3), .second, .val (.int p4), .val (.long (g1_0_t0 q0 q2 p4)), .second, .val (.long (g2_15_t0 q1 q3 p4)), .second, .val (.ref b5), .val (.ref b11), .val (.ref b17), .val (.int (g3_65_t0 q0 q1 (g1_0_t0 q0 q2 p4) (g2_15_t0 q1 q3 p4))), .val (.int (1 : Int32))] [(.int (1 : Int32))])) _
      refine XS.goto X38.here hx rfl (pc0 := 145) (pc' := 149) rfl (hb hby at_145) (by decide) (by decide) ?_
      show Steps p.tables e below (T38.setTop (mkF m 149 #[.val (.long q0), .second, .val (.long q1), .second, .val (.long q2), .second, .val (.long q3), .second, .val (.int p4), .val (.long (g1_0_t0 q0 q2 p4)), .second, .val (.long (g2_15_t0 q1 q3 p4)), .second, .val (.ref b5), .val (.ref b11), .val (.ref b17), .val (.int (g3_65_t0 q0 q1 (g1_0_t0 q0 q2 p4) (g2_15_t0 q1 q3 p4))), .val (.int (1 : Int32))] [(.int (1 : Int32))])) _
      refine XS.istore X38.here hx rfl (hb hby at_149) rfl (l' := #[.val (.long q0), .second, .val (.long q1), .second, .val (.long q2), .second, .val (.long q3), .second, .val (.int p4), .val (.long (g1_0_t0 q0 q2 p4)), .second, .val (.long (g2_15_t0 q1 q3 p4)), .second, .val (.ref b5), .val (.ref b11), .val (.ref b17), .val (.int (g3_65_t0 q0 q1 (g1_0_t0 q0 q2 p4) (g2_15_t0 q1 q3 p4))), .val (.int (1 : Int32))]) rfl ?_
      show Steps p.tables e below (T38.setTop (mkF m 151 #[.val (.long q0), .second, .val (.long q1), .second, .val (.long q2), .second, .val (.long q3), .second, .val (.int p4), .val (.long (g1_0_t0 q0 q2 p4)), .second, .val (.long (g2_15_t0 q1 q3 p4)), .second, .val (.ref b5), .val (.ref b11), .val (.ref b17), .val (.int (g3_65_t0 q0 q1 (g1_0_t0 q0 q2 p4) (g2_15_t0 q1 q3 p4))), .val (.int (1 : Int32))] [])) _
      refine XS.iload X38.here hx rfl (hb hby at_151) rfl ?_
      show Steps p.tables e below (T38.setTop (mkF m 153 #[.val (.long q0), .second, .val (.long q1), .second, .val (.long q2), .second, .val (.long q3), .second, .val (.int p4), .val (.long (g1_0_t0 q0 q2 p4)), .second, .val (.long (g2_15_t0 q1 q3 p4)), .second, .val (.ref b5), .val (.ref b11), .val (.ref b17), .val (.int (g3_65_t0 q0 q1 (g1_0_t0 q0 q2 p4) (g2_15_t0 q1 q3 p4))), .val (.int (1 : Int32))] [(.int (1 : Int32))])) _
      refine XS.ifNo X38.here hx rfl (hb hby at_153) rfl ((if0 _ _).trans (feq (by decide)).1) ?_
      show Steps p.tables e below (T38.setTop (mkF m 156 #[.val (.long q0), .second, .val (.long q1), .second, .val (.long q2), .second, .val (.long q3), .second, .val (.int p4), .val (.long (g1_0_t0 q0 q2 p4)), .second, .val (.long (g2_15_t0 q1 q3 p4)), .second, .val (.ref b5), .val (.ref b11), .val (.ref b17), .val (.int (g3_65_t0 q0 q1 (g1_0_t0 q0 q2 p4) (g2_15_t0 q1 q3 p4))), .val (.int (1 : Int32))] [])) _
      refine XS.aload X38.here hx rfl (hb hby at_156) rfl rfl ?_
      show Steps p.tables e below (T38.setTop (mkF m 158 #[.val (.long q0), .second, .val (.long q1), .second, .val (.long q2), .second, .val (.long q3), .second, .val (.int p4), .val (.long (g1_0_t0 q0 q2 p4)), .second, .val (.long (g2_15_t0 q1 q3 p4)), .second, .val (.ref b5), .val (.ref b11), .val (.ref b17), .val (.int (g3_65_t0 q0 q1 (g1_0_t0 q0 q2 p4) (g2_15_t0 q1 q3 p4))), .val (.int (1 : Int32))] [(.ref b5)])) _
      refine XS.aload X38.here hx rfl (hb hby at_158) rfl rfl ?_
      exact κ)
  obtain ⟨cq41, kq41, q41a, q41b, q41c⟩ := isOf hZ e38 f25
  obtain ⟨_, _, ⟨T41, L41, k41, n41⟩, -, X41, ⟨Lc41, hQ41, l41, y41, z41⟩, st41⟩ := X38.virtualBack hx (y := (⟨"com/example/callbook/callbook/engine/Midpoint", "equals", "(Ljava/lang/Object;)Z"⟩ : MethodName)) (z := (⟨"com/example/callbook/callbook/engine/Midpoint", "equals", "(Ljava/lang/Object;)Z"⟩ : MethodName)) hown (mvT hZ (hw _ (List.mem_of_getElem? (i := 13) rfl))) (mvT hZ (hw _ (List.mem_of_getElem? (i := 14) rfl))) (notFace_of_selects (args := #[]) (mvT hZ (hw _ (List.mem_of_getElem? (i := 16) rfl)))) (mvT hZ (hw _ (List.mem_of_getElem? (i := 16) rfl))) (mvT hZ (hw _ (List.mem_of_getElem? (i := 15) rfl))) (by decide) (backOf (W := 0) (rm3 l Z a0 hw [] b5 b17 q0 q1 q1 q0 T21.heap n0 Z21 ⟨f25, f26, f27⟩ ⟨E21m, Fx21m, Fy21m⟩) hZ (hw _ (List.mem_of_getElem? (i := 17) rfl)) (hw _ (List.mem_of_getElem? (i := 2) rfl)) (by decide) (by decide)) q41a q41c (g := (mkF m 160 #[.val (.long q0), .second, .val (.long q1), .second, .val (.long q2), .second, .val (.long q3), .second, .val (.int p4), .val (.long (g1_0_t0 q0 q2 p4)), .second, .val (.long (g2_15_t0 q1 q3 p4)), .second, .val (.ref b5), .val (.ref b11), .val (.ref b17), .val (.int (g3_65_t0 q0 q1 (g1_0_t0 q0 q2 p4) (g2_15_t0 q1 q3 p4))), .val (.int (1 : Int32))] [(.ref b17), (.ref b5)])) rfl (by rw [hml]; rfl) (Steps.refl _) (argsL := [(.ref b17)]) (rest := []) (lenOf pd_4 rfl) rfl (by show 2 * 0 + _ ≤ _; exact Nat.le_of_eq rfl) (hb hby at_160) (fun _ _ => ⟨rfl, e38, (by decide : 3 + 0 ≤ _), (by decide : 6 + 0 ≤ _)⟩)
  dsimp only [Pt.U, Pt.locs, Pt.cells, Pt.slots] at X41 l41 y41 z41 st41 hQ41
  subst l41 y41 z41
  obtain ⟨rfl, N41q, e41⟩ := hQ41
  have N41 := Fr.app N38 N41q
  have c42 : ∀ τ, Steps p.tables e below (T41.setTop (mkF m 163 #[.val (.long q0), .second, .val (.long q1), .second, .val (.long q2), .second, .val (.long q3), .second, .val (.int p4), .val (.long (g1_0_t0 q0 q2 p4)), .second, .val (.long (g2_15_t0 q1 q3 p4)), .second, .val (.ref b5), .val (.ref b11), .val (.ref b17), .val (.int (g3_65_t0 q0 q1 (g1_0_t0 q0 q2 p4) (g2_15_t0 q1 q3 p4))), .val (.int (1 : Int32))] [(.int (own_eq q0 q1 q1 q0))])) τ → Steps p.tables e below (s₁.setTop (entryFrame m #[(.long q0), (.long q1), (.long q2), (.long q3), (.int p4)] maxLocals)) τ := fun τ κ => c40 τ (st41.trans κ)
  have c43 : ∀ τ, Steps p.tables e below (T41.setTop (mkF m 174 #[.val (.long q0), .second, .val (.long q1), .second, .val (.long q2), .second, .val (.long q3), .second, .val (.int p4), .val (.long (g1_0_t0 q0 q2 p4)), .second, .val (.long (g2_15_t0 q1 q3 p4)), .second, .val (.ref b5), .val (.ref b11), .val (.ref b17), .val (.int (g3_65_t0 q0 q1 (g1_0_t0 q0 q2 p4) (g2_15_t0 q1 q3 p4))), .val (.int (1 : Int32))] [(.int (g4_163_t1 q0 q1)), (.int (own_eq q0 q1 q1 q0))])) τ → Steps p.tables e below (s₁.setTop (entryFrame m #[(.long q0), (.long q1), (.long q2), (.long q3), (.int p4)] maxLocals)) τ := fun τ κ => c42 τ (g4_163 q0 q1 q2 q3 p4 (g1_0_t0 q0 q2 p4) (g2_15_t0 q1 q3 p4) b5 b11 b17 (g3_65_t0 q0 q1 (g1_0_t0 q0 q2 p4) (g2_15_t0 q1 q3 p4)) (1 : Int32) (own_eq q0 q1 q1 q0) X41 hx hZ hw hby hown κ)
  have c44 : ∀ τ, Steps p.tables e below (T41.setTop (mkF m 192 #[.val (.long q0), .second, .val (.long q1), .second, .val (.long q2), .second, .val (.long q3), .second, .val (.int p4), .val (.long (g1_0_t0 q0 q2 p4)), .second, .val (.long (g2_15_t0 q1 q3 p4)), .second, .val (.ref b5), .val (.ref b11), .val (.ref b17), .val (.int (g3_65_t0 q0 q1 (g1_0_t0 q0 q2 p4) (g2_15_t0 q1 q3 p4))), .val (.int (1 : Int32))] [.null, (.ref b5)])) τ → Steps p.tables e below (s₁.setTop (entryFrame m #[(.long q0), (.long q1), (.long q2), (.long q3), (.int p4)] maxLocals)) τ := fun τ κ => c43 τ (by
      show Steps p.tables e below (T41.setTop (mkF m 174 #[.val (.long q0), .second, .val (.long q1), .second, .val (.long q2), .second, .val (.long q3), .second, .val (.int p4), .val (.long (g1_0_t0 q0 q2 p4)), .second, .val (.long (g2_15_t0 q1 q3 p4)), .second, .val (.ref b5), .val (.ref b11), .val (.ref b17), .val (.int (g3_65_t0 q0 q1 (g1_0_t0 q0 q2 p4) (g2_15_t0 q1 q3 p4))), .val (.int (1 : Int32))] [(.int (g4_163_t1 q0 q1)), (.int (own_eq q0 q1 q1 q0))])) _
      refine XS.icmpNo X41.here hx rfl (hb hby at_174) rfl (teq (own_l4 q0 q1 q2 q3 p4)).2 ?_
      show Steps p.tables e below (T41.setTop (mkF m 177 #[.val (.long q0), .second, .val (.long q1), .second, .val (.long q2), .second, .val (.long q3), .second, .val (.int p4), .val (.long (g1_0_t0 q0 q2 p4)), .second, .val (.long (g2_15_t0 q1 q3 p4)), .second, .val (.ref b5), .val (.ref b11), .val (.ref b17), .val (.int (g3_65_t0 q0 q1 (g1_0_t0 q0 q2 p4) (g2_15_t0 q1 q3 p4))), .val (.int (1 : Int32))] [])) _
      refine XS.iconst X41.here hx rfl (hb hby at_177) ?_
      show Steps p.tables e below (T41.setTop (mkF m 178 #[.val (.long q0), .second, .val (.long q1), .second, .val (.long q2), .second, .val (.long q3), .second, .val (.int p4), .val (.long (g1_0_t0 q0 q2 p4)), .second, .val (.long (g2_15_t0 q1 q3 p4)), .second, .val (.ref b5), .val (.ref b11), .val (.ref b17), .val (.int (g3_65_t0 q0 q1 (g1_0_t0 q0 q2 p4) (g2_15_t0 q1 q3 p4))), .val (.int (1 : Int32))] [(.int (1 : Int32))])) _
      refine XS.goto X41.here hx rfl (pc0 := 178) (pc' := 182) rfl (hb hby at_178) (by decide) (by decide) ?_
      show Steps p.tables e below (T41.setTop (mkF m 182 #[.val (.long q0), .second, .val (.long q1), .second, .val (.long q2), .second, .val (.long q3), .second, .val (.int p4), .val (.long (g1_0_t0 q0 q2 p4)), .second, .val (.long (g2_15_t0 q1 q3 p4)), .second, .val (.ref b5), .val (.ref b11), .val (.ref b17), .val (.int (g3_65_t0 q0 q1 (g1_0_t0 q0 q2 p4) (g2_15_t0 q1 q3 p4))), .val (.int (1 : Int32))] [(.int (1 : Int32))])) _
      refine XS.istore X41.here hx rfl (hb hby at_182) rfl (l' := #[.val (.long q0), .second, .val (.long q1), .second, .val (.long q2), .second, .val (.long q3), .second, .val (.int p4), .val (.long (g1_0_t0 q0 q2 p4)), .second, .val (.long (g2_15_t0 q1 q3 p4)), .second, .val (.ref b5), .val (.ref b11), .val (.ref b17), .val (.int (g3_65_t0 q0 q1 (g1_0_t0 q0 q2 p4) (g2_15_t0 q1 q3 p4))), .val (.int (1 : Int32))]) rfl ?_
      show Steps p.tables e below (T41.setTop (mkF m 184 #[.val (.long q0), .second, .val (.long q1), .second, .val (.long q2), .second, .val (.long q3), .second, .val (.int p4), .val (.long (g1_0_t0 q0 q2 p4)), .second, .val (.long (g2_15_t0 q1 q3 p4)), .second, .val (.ref b5), .val (.ref b11), .val (.ref b17), .val (.int (g3_65_t0 q0 q1 (g1_0_t0 q0 q2 p4) (g2_15_t0 q1 q3 p4))), .val (.int (1 : Int32))] [])) _
      refine XS.iload X41.here hx rfl (hb hby at_184) rfl ?_
      show Steps p.tables e below (T41.setTop (mkF m 186 #[.val (.long q0), .second, .val (.long q1), .second, .val (.long q2), .second, .val (.long q3), .second, .val (.int p4), .val (.long (g1_0_t0 q0 q2 p4)), .second, .val (.long (g2_15_t0 q1 q3 p4)), .second, .val (.ref b5), .val (.ref b11), .val (.ref b17), .val (.int (g3_65_t0 q0 q1 (g1_0_t0 q0 q2 p4) (g2_15_t0 q1 q3 p4))), .val (.int (1 : Int32))] [(.int (1 : Int32))])) _
      refine XS.ifNo X41.here hx rfl (hb hby at_186) rfl ((if0 _ _).trans (feq (by decide)).1) ?_
      show Steps p.tables e below (T41.setTop (mkF m 189 #[.val (.long q0), .second, .val (.long q1), .second, .val (.long q2), .second, .val (.long q3), .second, .val (.int p4), .val (.long (g1_0_t0 q0 q2 p4)), .second, .val (.long (g2_15_t0 q1 q3 p4)), .second, .val (.ref b5), .val (.ref b11), .val (.ref b17), .val (.int (g3_65_t0 q0 q1 (g1_0_t0 q0 q2 p4) (g2_15_t0 q1 q3 p4))), .val (.int (1 : Int32))] [])) _
      refine XS.aload X41.here hx rfl (hb hby at_189) rfl rfl ?_
      show Steps p.tables e below (T41.setTop (mkF m 191 #[.val (.long q0), .second, .val (.long q1), .second, .val (.long q2), .second, .val (.long q3), .second, .val (.int p4), .val (.long (g1_0_t0 q0 q2 p4)), .second, .val (.long (g2_15_t0 q1 q3 p4)), .second, .val (.ref b5), .val (.ref b11), .val (.ref b17), .val (.int (g3_65_t0 q0 q1 (g1_0_t0 q0 q2 p4) (g2_15_t0 q1 q3 p4))), .val (.int (1 : Int32))] [(.ref b5)])) _
      refine XS.aconstNull X41.here hx rfl (hb hby at_191) ?_
      exact κ)
  obtain ⟨cq45, kq45, q45a, q45b, q45c⟩ := isOf hZ e41 f25
  obtain ⟨_, _, ⟨T45, L45, k45, n45⟩, -, X45, ⟨Lc45, hQ45, l45, y45, z45⟩, st45⟩ := X41.virtualBack hx (y := (⟨"com/example/callbook/callbook/engine/Midpoint", "equals", "(Ljava/lang/Object;)Z"⟩ : MethodName)) (z := (⟨"com/example/callbook/callbook/engine/Midpoint", "equals", "(Ljava/lang/Object;)Z"⟩ : MethodName)) hown (mvT hZ (hw _ (List.mem_of_getElem? (i := 13) rfl))) (mvT hZ (hw _ (List.mem_of_getElem? (i := 14) rfl))) (notFace_of_selects (args := #[]) (mvT hZ (hw _ (List.mem_of_getElem? (i := 16) rfl)))) (mvT hZ (hw _ (List.mem_of_getElem? (i := 16) rfl))) (mvT hZ (hw _ (List.mem_of_getElem? (i := 15) rfl))) (by decide) (backOf (W := 0) (rm3n l Z a0 hw [] b5 T21.heap n0 Z21) hZ (hw _ (List.mem_of_getElem? (i := 17) rfl)) (hw _ (List.mem_of_getElem? (i := 2) rfl)) (by decide) (by decide)) q45a q45c (g := (mkF m 192 #[.val (.long q0), .second, .val (.long q1), .second, .val (.long q2), .second, .val (.long q3), .second, .val (.int p4), .val (.long (g1_0_t0 q0 q2 p4)), .second, .val (.long (g2_15_t0 q1 q3 p4)), .second, .val (.ref b5), .val (.ref b11), .val (.ref b17), .val (.int (g3_65_t0 q0 q1 (g1_0_t0 q0 q2 p4) (g2_15_t0 q1 q3 p4))), .val (.int (1 : Int32))] [.null, (.ref b5)])) rfl (by rw [hml]; rfl) (Steps.refl _) (argsL := [.null]) (rest := []) (lenOf pd_4 rfl) rfl (by show 2 * 0 + _ ≤ _; exact Nat.le_of_eq rfl) (hb hby at_192) (fun _ _ => ⟨rfl, e41, (by decide : 3 + 0 ≤ _), (by decide : 6 + 0 ≤ _)⟩)
  dsimp only [Pt.U, Pt.locs, Pt.cells, Pt.slots] at X45 l45 y45 z45 st45 hQ45
  subst l45 y45 z45
  obtain ⟨rfl, N45q, e45⟩ := hQ45
  have N45 := Fr.app N41 N45q
  have c46 : ∀ τ, Steps p.tables e below (T45.setTop (mkF m 195 #[.val (.long q0), .second, .val (.long q1), .second, .val (.long q2), .second, .val (.long q3), .second, .val (.int p4), .val (.long (g1_0_t0 q0 q2 p4)), .second, .val (.long (g2_15_t0 q1 q3 p4)), .second, .val (.ref b5), .val (.ref b11), .val (.ref b17), .val (.int (g3_65_t0 q0 q1 (g1_0_t0 q0 q2 p4) (g2_15_t0 q1 q3 p4))), .val (.int (1 : Int32))] [(.int (0 : Int32))])) τ → Steps p.tables e below (s₁.setTop (entryFrame m #[(.long q0), (.long q1), (.long q2), (.long q3), (.int p4)] maxLocals)) τ := fun τ κ => c44 τ (st45.trans κ)
  have f47 := ((((((O0.ext E5).keep K8q (allS gb5 all0)).ext E11).keep K14q (allS gb11 all0)).ext E17).keep K21q (allS gb17 all0))
  have c48 : ∀ τ, Steps p.tables e below (T45.setTop (mkF m 213 #[.val (.long q0), .second, .val (.long q1), .second, .val (.long q2), .second, .val (.long q3), .second, .val (.int p4), .val (.long (g1_0_t0 q0 q2 p4)), .second, .val (.long (g2_15_t0 q1 q3 p4)), .second, .val (.ref b5), .val (.ref b11), .val (.ref b17), .val (.int (g3_65_t0 q0 q1 (g1_0_t0 q0 q2 p4) (g2_15_t0 q1 q3 p4))), .val (.int (1 : Int32))] [(.long q0), (.ref b5)])) τ → Steps p.tables e below (s₁.setTop (entryFrame m #[(.long q0), (.long q1), (.long q2), (.long q3), (.int p4)] maxLocals)) τ := fun τ κ => c46 τ (by
      show Steps p.tables e below (T45.setTop (mkF m 195 #[.val (.long q0), .second, .val (.long q1), .second, .val (.long q2), .second, .val (.long q3), .second, .val (.int p4), .val (.long (g1_0_t0 q0 q2 p4)), .second, .val (.long (g2_15_t0 q1 q3 p4)), .second, .val (.ref b5), .val (.ref b11), .val (.ref b17), .val (.int (g3_65_t0 q0 q1 (g1_0_t0 q0 q2 p4) (g2_15_t0 q1 q3 p4))), .val (.int (1 : Int32))] [(.int (0 : Int32))])) _
      refine XS.ifNo X45.here hx rfl (hb hby at_195) rfl ((if0 _ _).trans (teq rfl).2) ?_
      show Steps p.tables e below (T45.setTop (mkF m 198 #[.val (.long q0), .second, .val (.long q1), .second, .val (.long q2), .second, .val (.long q3), .second, .val (.int p4), .val (.long (g1_0_t0 q0 q2 p4)), .second, .val (.long (g2_15_t0 q1 q3 p4)), .second, .val (.ref b5), .val (.ref b11), .val (.ref b17), .val (.int (g3_65_t0 q0 q1 (g1_0_t0 q0 q2 p4) (g2_15_t0 q1 q3 p4))), .val (.int (1 : Int32))] [])) _
      refine XS.iconst X45.here hx rfl (hb hby at_198) ?_
      show Steps p.tables e below (T45.setTop (mkF m 199 #[.val (.long q0), .second, .val (.long q1), .second, .val (.long q2), .second, .val (.long q3), .second, .val (.int p4), .val (.long (g1_0_t0 q0 q2 p4)), .second, .val (.long (g2_15_t0 q1 q3 p4)), .second, .val (.ref b5), .val (.ref b11), .val (.ref b17), .val (.int (g3_65_t0 q0 q1 (g1_0_t0 q0 q2 p4) (g2_15_t0 q1 q3 p4))), .val (.int (1 : Int32))] [(.int (1 : Int32))])) _
      refine XS.goto X45.here hx rfl (pc0 := 199) (pc' := 203) rfl (hb hby at_199) (by decide) (by decide) ?_
      show Steps p.tables e below (T45.setTop (mkF m 203 #[.val (.long q0), .second, .val (.long q1), .second, .val (.long q2), .second, .val (.long q3), .second, .val (.int p4), .val (.long (g1_0_t0 q0 q2 p4)), .second, .val (.long (g2_15_t0 q1 q3 p4)), .second, .val (.ref b5), .val (.ref b11), .val (.ref b17), .val (.int (g3_65_t0 q0 q1 (g1_0_t0 q0 q2 p4) (g2_15_t0 q1 q3 p4))), .val (.int (1 : Int32))] [(.int (1 : Int32))])) _
      refine XS.istore X45.here hx rfl (hb hby at_203) rfl (l' := #[.val (.long q0), .second, .val (.long q1), .second, .val (.long q2), .second, .val (.long q3), .second, .val (.int p4), .val (.long (g1_0_t0 q0 q2 p4)), .second, .val (.long (g2_15_t0 q1 q3 p4)), .second, .val (.ref b5), .val (.ref b11), .val (.ref b17), .val (.int (g3_65_t0 q0 q1 (g1_0_t0 q0 q2 p4) (g2_15_t0 q1 q3 p4))), .val (.int (1 : Int32))]) rfl ?_
      show Steps p.tables e below (T45.setTop (mkF m 205 #[.val (.long q0), .second, .val (.long q1), .second, .val (.long q2), .second, .val (.long q3), .second, .val (.int p4), .val (.long (g1_0_t0 q0 q2 p4)), .second, .val (.long (g2_15_t0 q1 q3 p4)), .second, .val (.ref b5), .val (.ref b11), .val (.ref b17), .val (.int (g3_65_t0 q0 q1 (g1_0_t0 q0 q2 p4) (g2_15_t0 q1 q3 p4))), .val (.int (1 : Int32))] [])) _
      refine XS.iload X45.here hx rfl (hb hby at_205) rfl ?_
      show Steps p.tables e below (T45.setTop (mkF m 207 #[.val (.long q0), .second, .val (.long q1), .second, .val (.long q2), .second, .val (.long q3), .second, .val (.int p4), .val (.long (g1_0_t0 q0 q2 p4)), .second, .val (.long (g2_15_t0 q1 q3 p4)), .second, .val (.ref b5), .val (.ref b11), .val (.ref b17), .val (.int (g3_65_t0 q0 q1 (g1_0_t0 q0 q2 p4) (g2_15_t0 q1 q3 p4))), .val (.int (1 : Int32))] [(.int (1 : Int32))])) _
      refine XS.ifNo X45.here hx rfl (hb hby at_207) rfl ((if0 _ _).trans (feq (by decide)).1) ?_
      show Steps p.tables e below (T45.setTop (mkF m 210 #[.val (.long q0), .second, .val (.long q1), .second, .val (.long q2), .second, .val (.long q3), .second, .val (.int p4), .val (.long (g1_0_t0 q0 q2 p4)), .second, .val (.long (g2_15_t0 q1 q3 p4)), .second, .val (.ref b5), .val (.ref b11), .val (.ref b17), .val (.int (g3_65_t0 q0 q1 (g1_0_t0 q0 q2 p4) (g2_15_t0 q1 q3 p4))), .val (.int (1 : Int32))] [])) _
      refine XS.aload X45.here hx rfl (hb hby at_210) rfl rfl ?_
      show Steps p.tables e below (T45.setTop (mkF m 212 #[.val (.long q0), .second, .val (.long q1), .second, .val (.long q2), .second, .val (.long q3), .second, .val (.int p4), .val (.long (g1_0_t0 q0 q2 p4)), .second, .val (.long (g2_15_t0 q1 q3 p4)), .second, .val (.ref b5), .val (.ref b11), .val (.ref b17), .val (.int (g3_65_t0 q0 q1 (g1_0_t0 q0 q2 p4) (g2_15_t0 q1 q3 p4))), .val (.int (1 : Int32))] [(.ref b5)])) _
      refine XS.lloadN X45.here hx rfl (hb hby at_212) rfl ?_
      exact κ)
  by_cases hlo : q0 < (-128 : Int64)
  · obtain ⟨_, _, ⟨T49, L49, k49, n49⟩, -, X49, ⟨Lc49, hQ49, l49, y49, z49⟩, st49⟩ := Jvm.LawKit.callS X45 hx (y := (⟨"java/lang/Long", "valueOf", "(J)Ljava/lang/Long;"⟩ : MethodName)) hown (mvT hZ (hw _ (List.mem_of_getElem? (i := 20) rfl))) (mvT hZ (hw _ (List.mem_of_getElem? (i := 21) rfl))) (mvT hZ (hw _ (List.mem_of_getElem? (i := 22) rfl))) (mvT hZ (hw _ (List.mem_of_getElem? (i := 23) rfl))) (by decide) (backOf (W := 1) (rm4a l Z a0 hw [] q0 T21.heap n0 Z21 hlo) hZ (hw _ (List.mem_of_getElem? (i := 23) rfl)) (hw _ (List.mem_of_getElem? (i := 22) rfl)) (by decide) (by decide)) (g := (mkF m 213 #[.val (.long q0), .second, .val (.long q1), .second, .val (.long q2), .second, .val (.long q3), .second, .val (.int p4), .val (.long (g1_0_t0 q0 q2 p4)), .second, .val (.long (g2_15_t0 q1 q3 p4)), .second, .val (.ref b5), .val (.ref b11), .val (.ref b17), .val (.int (g3_65_t0 q0 q1 (g1_0_t0 q0 q2 p4) (g2_15_t0 q1 q3 p4))), .val (.int (1 : Int32))] [(.long q0), (.ref b5)])) rfl (by rw [hml]; rfl) (argsL := [(.long q0)]) (rest := [(.ref b5)]) (lenOf pd_1 rfl) rfl (by show 2 * 0 + _ ≤ _; exact Nat.le_of_eq rfl) (hb hby at_213) (fun _ _ => ⟨rfl, e45, (by decide : 3 + 1 ≤ _), (by decide : 6 + 1 ≤ _)⟩)
    dsimp only [Pt.U, Pt.locs, Pt.cells, Pt.slots] at X49 l49 y49 z49 st49 hQ49
    subst l49 y49 z49
    obtain ⟨rfl, N49q, K49q, Ex49⟩ := hQ49
    have N49 := Fr.app N45 N49q
    have Z49 : n0 ≤ T49.heap.size := Nat.le_trans Z21 K49q.1
    have c50 : ∀ τ, Steps p.tables e below (T49.setTop (mkF m 216 #[.val (.long q0), .second, .val (.long q1), .second, .val (.long q2), .second, .val (.long q3), .second, .val (.int p4), .val (.long (g1_0_t0 q0 q2 p4)), .second, .val (.long (g2_15_t0 q1 q3 p4)), .second, .val (.ref b5), .val (.ref b11), .val (.ref b17), .val (.int (g3_65_t0 q0 q1 (g1_0_t0 q0 q2 p4) (g2_15_t0 q1 q3 p4))), .val (.int (1 : Int32))] [(.ref T21.heap.size), (.ref b5)])) τ → Steps p.tables e below (s₁.setTop (entryFrame m #[(.long q0), (.long q1), (.long q2), (.long q3), (.int p4)] maxLocals)) τ := fun τ κ => c48 τ (st49 τ κ)
    have f52 := (f25.keep K49q)
    obtain ⟨cq51, kq51, q51a, q51b, q51c⟩ := isOf hZ rfl f52
    obtain ⟨_, _, ⟨T51, L51, k51, n51⟩, -, X51, ⟨Lc51, hQ51, l51, y51, z51⟩, st51⟩ := X49.virtualBack hx (y := (⟨"com/example/callbook/callbook/engine/Midpoint", "equals", "(Ljava/lang/Object;)Z"⟩ : MethodName)) (z := (⟨"com/example/callbook/callbook/engine/Midpoint", "equals", "(Ljava/lang/Object;)Z"⟩ : MethodName)) hown (mvT hZ (hw _ (List.mem_of_getElem? (i := 13) rfl))) (mvT hZ (hw _ (List.mem_of_getElem? (i := 14) rfl))) (notFace_of_selects (args := #[]) (mvT hZ (hw _ (List.mem_of_getElem? (i := 16) rfl)))) (mvT hZ (hw _ (List.mem_of_getElem? (i := 16) rfl))) (mvT hZ (hw _ (List.mem_of_getElem? (i := 15) rfl))) (by decide) (backOf (W := 0) (rm3l l Z a0 hw [] b5 (T21.heap.size) T49.heap n0 Z49 Ex49) hZ (hw _ (List.mem_of_getElem? (i := 17) rfl)) (hw _ (List.mem_of_getElem? (i := 2) rfl)) (by decide) (by decide)) q51a q51c (g := (mkF m 216 #[.val (.long q0), .second, .val (.long q1), .second, .val (.long q2), .second, .val (.long q3), .second, .val (.int p4), .val (.long (g1_0_t0 q0 q2 p4)), .second, .val (.long (g2_15_t0 q1 q3 p4)), .second, .val (.ref b5), .val (.ref b11), .val (.ref b17), .val (.int (g3_65_t0 q0 q1 (g1_0_t0 q0 q2 p4) (g2_15_t0 q1 q3 p4))), .val (.int (1 : Int32))] [(.ref T21.heap.size), (.ref b5)])) rfl (by rw [hml]; rfl) (Steps.refl _) (argsL := [(.ref T21.heap.size)]) (rest := []) (lenOf pd_4 rfl) rfl (by show 2 * 0 + _ ≤ _; exact Nat.le_of_eq rfl) (hb hby at_216) (fun _ _ => ⟨rfl, rfl, (by decide : 4 + 0 ≤ _), (by decide : 7 + 0 ≤ _)⟩)
    dsimp only [Pt.U, Pt.locs, Pt.cells, Pt.slots] at X51 l51 y51 z51 st51 hQ51
    subst l51 y51 z51
    obtain ⟨rfl, N51q, e51⟩ := hQ51
    have N51 := Fr.app N49 N51q
    have c53 : ∀ τ, Steps p.tables e below (T51.setTop (mkF m 219 #[.val (.long q0), .second, .val (.long q1), .second, .val (.long q2), .second, .val (.long q3), .second, .val (.int p4), .val (.long (g1_0_t0 q0 q2 p4)), .second, .val (.long (g2_15_t0 q1 q3 p4)), .second, .val (.ref b5), .val (.ref b11), .val (.ref b17), .val (.int (g3_65_t0 q0 q1 (g1_0_t0 q0 q2 p4) (g2_15_t0 q1 q3 p4))), .val (.int (1 : Int32))] [(.int (0 : Int32))])) τ → Steps p.tables e below (s₁.setTop (entryFrame m #[(.long q0), (.long q1), (.long q2), (.long q3), (.int p4)] maxLocals)) τ := fun τ κ => c50 τ (st51.trans κ)
    have c54 : ∀ τ, Steps p.tables e below (T51.setTop (mkF m 231 #[.val (.long q0), .second, .val (.long q1), .second, .val (.long q2), .second, .val (.long q3), .second, .val (.int p4), .val (.long (g1_0_t0 q0 q2 p4)), .second, .val (.long (g2_15_t0 q1 q3 p4)), .second, .val (.ref b5), .val (.ref b11), .val (.ref b17), .val (.int (g3_65_t0 q0 q1 (g1_0_t0 q0 q2 p4) (g2_15_t0 q1 q3 p4))), .val (.int (1 : Int32))] [(.int (1 : Int32))])) τ → Steps p.tables e below (s₁.setTop (entryFrame m #[(.long q0), (.long q1), (.long q2), (.long q3), (.int p4)] maxLocals)) τ := fun τ κ => c53 τ (by
        show Steps p.tables e below (T51.setTop (mkF m 219 #[.val (.long q0), .second, .val (.long q1), .second, .val (.long q2), .second, .val (.long q3), .second, .val (.int p4), .val (.long (g1_0_t0 q0 q2 p4)), .second, .val (.long (g2_15_t0 q1 q3 p4)), .second, .val (.ref b5), .val (.ref b11), .val (.ref b17), .val (.int (g3_65_t0 q0 q1 (g1_0_t0 q0 q2 p4) (g2_15_t0 q1 q3 p4))), .val (.int (1 : Int32))] [(.int (0 : Int32))])) _
        refine XS.ifNo X51.here hx rfl (hb hby at_219) rfl ((if0 _ _).trans (teq rfl).2) ?_
        show Steps p.tables e below (T51.setTop (mkF m 222 #[.val (.long q0), .second, .val (.long q1), .second, .val (.long q2), .second, .val (.long q3), .second, .val (.int p4), .val (.long (g1_0_t0 q0 q2 p4)), .second, .val (.long (g2_15_t0 q1 q3 p4)), .second, .val (.ref b5), .val (.ref b11), .val (.ref b17), .val (.int (g3_65_t0 q0 q1 (g1_0_t0 q0 q2 p4) (g2_15_t0 q1 q3 p4))), .val (.int (1 : Int32))] [])) _
        refine XS.iconst X51.here hx rfl (hb hby at_222) ?_
        show Steps p.tables e below (T51.setTop (mkF m 223 #[.val (.long q0), .second, .val (.long q1), .second, .val (.long q2), .second, .val (.long q3), .second, .val (.int p4), .val (.long (g1_0_t0 q0 q2 p4)), .second, .val (.long (g2_15_t0 q1 q3 p4)), .second, .val (.ref b5), .val (.ref b11), .val (.ref b17), .val (.int (g3_65_t0 q0 q1 (g1_0_t0 q0 q2 p4) (g2_15_t0 q1 q3 p4))), .val (.int (1 : Int32))] [(.int (1 : Int32))])) _
        refine XS.goto X51.here hx rfl (pc0 := 223) (pc' := 227) rfl (hb hby at_223) (by decide) (by decide) ?_
        show Steps p.tables e below (T51.setTop (mkF m 227 #[.val (.long q0), .second, .val (.long q1), .second, .val (.long q2), .second, .val (.long q3), .second, .val (.int p4), .val (.long (g1_0_t0 q0 q2 p4)), .second, .val (.long (g2_15_t0 q1 q3 p4)), .second, .val (.ref b5), .val (.ref b11), .val (.ref b17), .val (.int (g3_65_t0 q0 q1 (g1_0_t0 q0 q2 p4) (g2_15_t0 q1 q3 p4))), .val (.int (1 : Int32))] [(.int (1 : Int32))])) _
        refine XS.istore X51.here hx rfl (hb hby at_227) rfl (l' := #[.val (.long q0), .second, .val (.long q1), .second, .val (.long q2), .second, .val (.long q3), .second, .val (.int p4), .val (.long (g1_0_t0 q0 q2 p4)), .second, .val (.long (g2_15_t0 q1 q3 p4)), .second, .val (.ref b5), .val (.ref b11), .val (.ref b17), .val (.int (g3_65_t0 q0 q1 (g1_0_t0 q0 q2 p4) (g2_15_t0 q1 q3 p4))), .val (.int (1 : Int32))]) rfl ?_
        show Steps p.tables e below (T51.setTop (mkF m 229 #[.val (.long q0), .second, .val (.long q1), .second, .val (.long q2), .second, .val (.long q3), .second, .val (.int p4), .val (.long (g1_0_t0 q0 q2 p4)), .second, .val (.long (g2_15_t0 q1 q3 p4)), .second, .val (.ref b5), .val (.ref b11), .val (.ref b17), .val (.int (g3_65_t0 q0 q1 (g1_0_t0 q0 q2 p4) (g2_15_t0 q1 q3 p4))), .val (.int (1 : Int32))] [])) _
        refine XS.iload X51.here hx rfl (hb hby at_229) rfl ?_
        exact κ)
    obtain ⟨fs, hr, hrun, hended, hW, hsame⟩ := X51.leave (v := some (.int (1 : Int32))) (fun h => by rw [Bd.returns] at h; cases h)
    refine ⟨_, _, c54 _ (retN X51 hx (t := .boolean) Bd.returns (by simp) (hb hby at_231) hr), hrun, hended, _, _, rfl, ?_, ⟨_, rfl⟩, hW, hsame.mono (by decide) (by decide)⟩
    show Q_rm0 Z q0 q1 q2 q3 p4 cc cl h0 n0 _ T51.heap _
    rw [e51]
    exact ⟨rfl, N51⟩
  · by_cases hhi : (127 : Int64) < q0
    · obtain ⟨_, _, ⟨T49, L49, k49, n49⟩, -, X49, ⟨Lc49, hQ49, l49, y49, z49⟩, st49⟩ := Jvm.LawKit.callS X45 hx (y := (⟨"java/lang/Long", "valueOf", "(J)Ljava/lang/Long;"⟩ : MethodName)) hown (mvT hZ (hw _ (List.mem_of_getElem? (i := 20) rfl))) (mvT hZ (hw _ (List.mem_of_getElem? (i := 21) rfl))) (mvT hZ (hw _ (List.mem_of_getElem? (i := 22) rfl))) (mvT hZ (hw _ (List.mem_of_getElem? (i := 23) rfl))) (by decide) (backOf (W := 1) (rm4b l Z a0 hw [] q0 T21.heap n0 Z21 hlo hhi) hZ (hw _ (List.mem_of_getElem? (i := 23) rfl)) (hw _ (List.mem_of_getElem? (i := 22) rfl)) (by decide) (by decide)) (g := (mkF m 213 #[.val (.long q0), .second, .val (.long q1), .second, .val (.long q2), .second, .val (.long q3), .second, .val (.int p4), .val (.long (g1_0_t0 q0 q2 p4)), .second, .val (.long (g2_15_t0 q1 q3 p4)), .second, .val (.ref b5), .val (.ref b11), .val (.ref b17), .val (.int (g3_65_t0 q0 q1 (g1_0_t0 q0 q2 p4) (g2_15_t0 q1 q3 p4))), .val (.int (1 : Int32))] [(.long q0), (.ref b5)])) rfl (by rw [hml]; rfl) (argsL := [(.long q0)]) (rest := [(.ref b5)]) (lenOf pd_1 rfl) rfl (by show 2 * 0 + _ ≤ _; exact Nat.le_of_eq rfl) (hb hby at_213) (fun _ _ => ⟨rfl, e45, (by decide : 3 + 1 ≤ _), (by decide : 6 + 1 ≤ _)⟩)
      dsimp only [Pt.U, Pt.locs, Pt.cells, Pt.slots] at X49 l49 y49 z49 st49 hQ49
      subst l49 y49 z49
      obtain ⟨rfl, N49q, K49q, Ex49⟩ := hQ49
      have N49 := Fr.app N45 N49q
      have Z49 : n0 ≤ T49.heap.size := Nat.le_trans Z21 K49q.1
      have c50 : ∀ τ, Steps p.tables e below (T49.setTop (mkF m 216 #[.val (.long q0), .second, .val (.long q1), .second, .val (.long q2), .second, .val (.long q3), .second, .val (.int p4), .val (.long (g1_0_t0 q0 q2 p4)), .second, .val (.long (g2_15_t0 q1 q3 p4)), .second, .val (.ref b5), .val (.ref b11), .val (.ref b17), .val (.int (g3_65_t0 q0 q1 (g1_0_t0 q0 q2 p4) (g2_15_t0 q1 q3 p4))), .val (.int (1 : Int32))] [(.ref T21.heap.size), (.ref b5)])) τ → Steps p.tables e below (s₁.setTop (entryFrame m #[(.long q0), (.long q1), (.long q2), (.long q3), (.int p4)] maxLocals)) τ := fun τ κ => c48 τ (st49 τ κ)
      have f52 := (f25.keep K49q)
      obtain ⟨cq51, kq51, q51a, q51b, q51c⟩ := isOf hZ rfl f52
      obtain ⟨_, _, ⟨T51, L51, k51, n51⟩, -, X51, ⟨Lc51, hQ51, l51, y51, z51⟩, st51⟩ := X49.virtualBack hx (y := (⟨"com/example/callbook/callbook/engine/Midpoint", "equals", "(Ljava/lang/Object;)Z"⟩ : MethodName)) (z := (⟨"com/example/callbook/callbook/engine/Midpoint", "equals", "(Ljava/lang/Object;)Z"⟩ : MethodName)) hown (mvT hZ (hw _ (List.mem_of_getElem? (i := 13) rfl))) (mvT hZ (hw _ (List.mem_of_getElem? (i := 14) rfl))) (notFace_of_selects (args := #[]) (mvT hZ (hw _ (List.mem_of_getElem? (i := 16) rfl)))) (mvT hZ (hw _ (List.mem_of_getElem? (i := 16) rfl))) (mvT hZ (hw _ (List.mem_of_getElem? (i := 15) rfl))) (by decide) (backOf (W := 0) (rm3l l Z a0 hw [] b5 (T21.heap.size) T49.heap n0 Z49 Ex49) hZ (hw _ (List.mem_of_getElem? (i := 17) rfl)) (hw _ (List.mem_of_getElem? (i := 2) rfl)) (by decide) (by decide)) q51a q51c (g := (mkF m 216 #[.val (.long q0), .second, .val (.long q1), .second, .val (.long q2), .second, .val (.long q3), .second, .val (.int p4), .val (.long (g1_0_t0 q0 q2 p4)), .second, .val (.long (g2_15_t0 q1 q3 p4)), .second, .val (.ref b5), .val (.ref b11), .val (.ref b17), .val (.int (g3_65_t0 q0 q1 (g1_0_t0 q0 q2 p4) (g2_15_t0 q1 q3 p4))), .val (.int (1 : Int32))] [(.ref T21.heap.size), (.ref b5)])) rfl (by rw [hml]; rfl) (Steps.refl _) (argsL := [(.ref T21.heap.size)]) (rest := []) (lenOf pd_4 rfl) rfl (by show 2 * 0 + _ ≤ _; exact Nat.le_of_eq rfl) (hb hby at_216) (fun _ _ => ⟨rfl, rfl, (by decide : 4 + 0 ≤ _), (by decide : 7 + 0 ≤ _)⟩)
      dsimp only [Pt.U, Pt.locs, Pt.cells, Pt.slots] at X51 l51 y51 z51 st51 hQ51
      subst l51 y51 z51
      obtain ⟨rfl, N51q, e51⟩ := hQ51
      have N51 := Fr.app N49 N51q
      have c53 : ∀ τ, Steps p.tables e below (T51.setTop (mkF m 219 #[.val (.long q0), .second, .val (.long q1), .second, .val (.long q2), .second, .val (.long q3), .second, .val (.int p4), .val (.long (g1_0_t0 q0 q2 p4)), .second, .val (.long (g2_15_t0 q1 q3 p4)), .second, .val (.ref b5), .val (.ref b11), .val (.ref b17), .val (.int (g3_65_t0 q0 q1 (g1_0_t0 q0 q2 p4) (g2_15_t0 q1 q3 p4))), .val (.int (1 : Int32))] [(.int (0 : Int32))])) τ → Steps p.tables e below (s₁.setTop (entryFrame m #[(.long q0), (.long q1), (.long q2), (.long q3), (.int p4)] maxLocals)) τ := fun τ κ => c50 τ (st51.trans κ)
      have c54 : ∀ τ, Steps p.tables e below (T51.setTop (mkF m 231 #[.val (.long q0), .second, .val (.long q1), .second, .val (.long q2), .second, .val (.long q3), .second, .val (.int p4), .val (.long (g1_0_t0 q0 q2 p4)), .second, .val (.long (g2_15_t0 q1 q3 p4)), .second, .val (.ref b5), .val (.ref b11), .val (.ref b17), .val (.int (g3_65_t0 q0 q1 (g1_0_t0 q0 q2 p4) (g2_15_t0 q1 q3 p4))), .val (.int (1 : Int32))] [(.int (1 : Int32))])) τ → Steps p.tables e below (s₁.setTop (entryFrame m #[(.long q0), (.long q1), (.long q2), (.long q3), (.int p4)] maxLocals)) τ := fun τ κ => c53 τ (by
          show Steps p.tables e below (T51.setTop (mkF m 219 #[.val (.long q0), .second, .val (.long q1), .second, .val (.long q2), .second, .val (.long q3), .second, .val (.int p4), .val (.long (g1_0_t0 q0 q2 p4)), .second, .val (.long (g2_15_t0 q1 q3 p4)), .second, .val (.ref b5), .val (.ref b11), .val (.ref b17), .val (.int (g3_65_t0 q0 q1 (g1_0_t0 q0 q2 p4) (g2_15_t0 q1 q3 p4))), .val (.int (1 : Int32))] [(.int (0 : Int32))])) _
          refine XS.ifNo X51.here hx rfl (hb hby at_219) rfl ((if0 _ _).trans (teq rfl).2) ?_
          show Steps p.tables e below (T51.setTop (mkF m 222 #[.val (.long q0), .second, .val (.long q1), .second, .val (.long q2), .second, .val (.long q3), .second, .val (.int p4), .val (.long (g1_0_t0 q0 q2 p4)), .second, .val (.long (g2_15_t0 q1 q3 p4)), .second, .val (.ref b5), .val (.ref b11), .val (.ref b17), .val (.int (g3_65_t0 q0 q1 (g1_0_t0 q0 q2 p4) (g2_15_t0 q1 q3 p4))), .val (.int (1 : Int32))] [])) _
          refine XS.iconst X51.here hx rfl (hb hby at_222) ?_
          show Steps p.tables e below (T51.setTop (mkF m 223 #[.val (.long q0), .second, .val (.long q1), .second, .val (.long q2), .second, .val (.long q3), .second, .val (.int p4), .val (.long (g1_0_t0 q0 q2 p4)), .second, .val (.long (g2_15_t0 q1 q3 p4)), .second, .val (.ref b5), .val (.ref b11), .val (.ref b17), .val (.int (g3_65_t0 q0 q1 (g1_0_t0 q0 q2 p4) (g2_15_t0 q1 q3 p4))), .val (.int (1 : Int32))] [(.int (1 : Int32))])) _
          refine XS.goto X51.here hx rfl (pc0 := 223) (pc' := 227) rfl (hb hby at_223) (by decide) (by decide) ?_
          show Steps p.tables e below (T51.setTop (mkF m 227 #[.val (.long q0), .second, .val (.long q1), .second, .val (.long q2), .second, .val (.long q3), .second, .val (.int p4), .val (.long (g1_0_t0 q0 q2 p4)), .second, .val (.long (g2_15_t0 q1 q3 p4)), .second, .val (.ref b5), .val (.ref b11), .val (.ref b17), .val (.int (g3_65_t0 q0 q1 (g1_0_t0 q0 q2 p4) (g2_15_t0 q1 q3 p4))), .val (.int (1 : Int32))] [(.int (1 : Int32))])) _
          refine XS.istore X51.here hx rfl (hb hby at_227) rfl (l' := #[.val (.long q0), .second, .val (.long q1), .second, .val (.long q2), .second, .val (.long q3), .second, .val (.int p4), .val (.long (g1_0_t0 q0 q2 p4)), .second, .val (.long (g2_15_t0 q1 q3 p4)), .second, .val (.ref b5), .val (.ref b11), .val (.ref b17), .val (.int (g3_65_t0 q0 q1 (g1_0_t0 q0 q2 p4) (g2_15_t0 q1 q3 p4))), .val (.int (1 : Int32))]) rfl ?_
          show Steps p.tables e below (T51.setTop (mkF m 229 #[.val (.long q0), .second, .val (.long q1), .second, .val (.long q2), .second, .val (.long q3), .second, .val (.int p4), .val (.long (g1_0_t0 q0 q2 p4)), .second, .val (.long (g2_15_t0 q1 q3 p4)), .second, .val (.ref b5), .val (.ref b11), .val (.ref b17), .val (.int (g3_65_t0 q0 q1 (g1_0_t0 q0 q2 p4) (g2_15_t0 q1 q3 p4))), .val (.int (1 : Int32))] [])) _
          refine XS.iload X51.here hx rfl (hb hby at_229) rfl ?_
          exact κ)
      obtain ⟨fs, hr, hrun, hended, hW, hsame⟩ := X51.leave (v := some (.int (1 : Int32))) (fun h => by rw [Bd.returns] at h; cases h)
      refine ⟨_, _, c54 _ (retN X51 hx (t := .boolean) Bd.returns (by simp) (hb hby at_231) hr), hrun, hended, _, _, rfl, ?_, ⟨_, rfl⟩, hW, hsame.mono (by decide) (by decide)⟩
      show Q_rm0 Z q0 q1 q2 q3 p4 cc cl h0 n0 _ T51.heap _
      rw [e51]
      exact ⟨rfl, N51⟩
    · have hin := own_cin hlo hhi (cl := cl) B.2.1
      obtain ⟨bb, hbb, Ebb, -⟩ := B.2.2.2 _ hin
      obtain ⟨_, _, ⟨T49, L49, k49, n49⟩, -, X49, ⟨Lc49, hQ49, l49, y49, z49⟩, st49⟩ := Jvm.LawKit.callS X45 hx (y := (⟨"java/lang/Long", "valueOf", "(J)Ljava/lang/Long;"⟩ : MethodName)) hown (mvT hZ (hw _ (List.mem_of_getElem? (i := 20) rfl))) (mvT hZ (hw _ (List.mem_of_getElem? (i := 21) rfl))) (mvT hZ (hw _ (List.mem_of_getElem? (i := 22) rfl))) (mvT hZ (hw _ (List.mem_of_getElem? (i := 23) rfl))) (by decide) (backOf (W := 1) (rm4c l Z a0 hw [] q0 cc cl bb T21.heap n0 Z21 (S.ext f47.2) (B.1.ext f47.2) hlo hhi hin hbb) hZ (hw _ (List.mem_of_getElem? (i := 23) rfl)) (hw _ (List.mem_of_getElem? (i := 22) rfl)) (by decide) (by decide)) (g := (mkF m 213 #[.val (.long q0), .second, .val (.long q1), .second, .val (.long q2), .second, .val (.long q3), .second, .val (.int p4), .val (.long (g1_0_t0 q0 q2 p4)), .second, .val (.long (g2_15_t0 q1 q3 p4)), .second, .val (.ref b5), .val (.ref b11), .val (.ref b17), .val (.int (g3_65_t0 q0 q1 (g1_0_t0 q0 q2 p4) (g2_15_t0 q1 q3 p4))), .val (.int (1 : Int32))] [(.long q0), (.ref b5)])) rfl (by rw [hml]; rfl) (argsL := [(.long q0)]) (rest := [(.ref b5)]) (lenOf pd_1 rfl) rfl (by show 2 * 0 + _ ≤ _; exact Nat.le_of_eq rfl) (hb hby at_213) (fun _ _ => ⟨rfl, e45, (by decide : 3 + 0 ≤ _), (by decide : 6 + 0 ≤ _)⟩)
      dsimp only [Pt.U, Pt.locs, Pt.cells, Pt.slots] at X49 l49 y49 z49 st49 hQ49
      subst l49 y49 z49
      obtain ⟨rfl, N49q, e49⟩ := hQ49
      have N49 := Fr.app N45 N49q
      have c50 : ∀ τ, Steps p.tables e below (T49.setTop (mkF m 216 #[.val (.long q0), .second, .val (.long q1), .second, .val (.long q2), .second, .val (.long q3), .second, .val (.int p4), .val (.long (g1_0_t0 q0 q2 p4)), .second, .val (.long (g2_15_t0 q1 q3 p4)), .second, .val (.ref b5), .val (.ref b11), .val (.ref b17), .val (.int (g3_65_t0 q0 q1 (g1_0_t0 q0 q2 p4) (g2_15_t0 q1 q3 p4))), .val (.int (1 : Int32))] [(.ref bb), (.ref b5)])) τ → Steps p.tables e below (s₁.setTop (entryFrame m #[(.long q0), (.long q1), (.long q2), (.long q3), (.int p4)] maxLocals)) τ := fun τ κ => c48 τ (st49 τ κ)
      obtain ⟨cq51, kq51, q51a, q51b, q51c⟩ := isOf hZ e49 f25
      obtain ⟨_, _, ⟨T51, L51, k51, n51⟩, -, X51, ⟨Lc51, hQ51, l51, y51, z51⟩, st51⟩ := X49.virtualBack hx (y := (⟨"com/example/callbook/callbook/engine/Midpoint", "equals", "(Ljava/lang/Object;)Z"⟩ : MethodName)) (z := (⟨"com/example/callbook/callbook/engine/Midpoint", "equals", "(Ljava/lang/Object;)Z"⟩ : MethodName)) hown (mvT hZ (hw _ (List.mem_of_getElem? (i := 13) rfl))) (mvT hZ (hw _ (List.mem_of_getElem? (i := 14) rfl))) (notFace_of_selects (args := #[]) (mvT hZ (hw _ (List.mem_of_getElem? (i := 16) rfl)))) (mvT hZ (hw _ (List.mem_of_getElem? (i := 16) rfl))) (mvT hZ (hw _ (List.mem_of_getElem? (i := 15) rfl))) (by decide) (backOf (W := 0) (rm3l l Z a0 hw [] b5 bb T21.heap n0 Z21 (Ebb.ext f47.2)) hZ (hw _ (List.mem_of_getElem? (i := 17) rfl)) (hw _ (List.mem_of_getElem? (i := 2) rfl)) (by decide) (by decide)) q51a q51c (g := (mkF m 216 #[.val (.long q0), .second, .val (.long q1), .second, .val (.long q2), .second, .val (.long q3), .second, .val (.int p4), .val (.long (g1_0_t0 q0 q2 p4)), .second, .val (.long (g2_15_t0 q1 q3 p4)), .second, .val (.ref b5), .val (.ref b11), .val (.ref b17), .val (.int (g3_65_t0 q0 q1 (g1_0_t0 q0 q2 p4) (g2_15_t0 q1 q3 p4))), .val (.int (1 : Int32))] [(.ref bb), (.ref b5)])) rfl (by rw [hml]; rfl) (Steps.refl _) (argsL := [(.ref bb)]) (rest := []) (lenOf pd_4 rfl) rfl (by show 2 * 0 + _ ≤ _; exact Nat.le_of_eq rfl) (hb hby at_216) (fun _ _ => ⟨rfl, e49, (by decide : 3 + 0 ≤ _), (by decide : 6 + 0 ≤ _)⟩)
      dsimp only [Pt.U, Pt.locs, Pt.cells, Pt.slots] at X51 l51 y51 z51 st51 hQ51
      subst l51 y51 z51
      obtain ⟨rfl, N51q, e51⟩ := hQ51
      have N51 := Fr.app N49 N51q
      have c52 : ∀ τ, Steps p.tables e below (T51.setTop (mkF m 219 #[.val (.long q0), .second, .val (.long q1), .second, .val (.long q2), .second, .val (.long q3), .second, .val (.int p4), .val (.long (g1_0_t0 q0 q2 p4)), .second, .val (.long (g2_15_t0 q1 q3 p4)), .second, .val (.ref b5), .val (.ref b11), .val (.ref b17), .val (.int (g3_65_t0 q0 q1 (g1_0_t0 q0 q2 p4) (g2_15_t0 q1 q3 p4))), .val (.int (1 : Int32))] [(.int (0 : Int32))])) τ → Steps p.tables e below (s₁.setTop (entryFrame m #[(.long q0), (.long q1), (.long q2), (.long q3), (.int p4)] maxLocals)) τ := fun τ κ => c50 τ (st51.trans κ)
      have c53 : ∀ τ, Steps p.tables e below (T51.setTop (mkF m 231 #[.val (.long q0), .second, .val (.long q1), .second, .val (.long q2), .second, .val (.long q3), .second, .val (.int p4), .val (.long (g1_0_t0 q0 q2 p4)), .second, .val (.long (g2_15_t0 q1 q3 p4)), .second, .val (.ref b5), .val (.ref b11), .val (.ref b17), .val (.int (g3_65_t0 q0 q1 (g1_0_t0 q0 q2 p4) (g2_15_t0 q1 q3 p4))), .val (.int (1 : Int32))] [(.int (1 : Int32))])) τ → Steps p.tables e below (s₁.setTop (entryFrame m #[(.long q0), (.long q1), (.long q2), (.long q3), (.int p4)] maxLocals)) τ := fun τ κ => c52 τ (by
          show Steps p.tables e below (T51.setTop (mkF m 219 #[.val (.long q0), .second, .val (.long q1), .second, .val (.long q2), .second, .val (.long q3), .second, .val (.int p4), .val (.long (g1_0_t0 q0 q2 p4)), .second, .val (.long (g2_15_t0 q1 q3 p4)), .second, .val (.ref b5), .val (.ref b11), .val (.ref b17), .val (.int (g3_65_t0 q0 q1 (g1_0_t0 q0 q2 p4) (g2_15_t0 q1 q3 p4))), .val (.int (1 : Int32))] [(.int (0 : Int32))])) _
          refine XS.ifNo X51.here hx rfl (hb hby at_219) rfl ((if0 _ _).trans (teq rfl).2) ?_
          show Steps p.tables e below (T51.setTop (mkF m 222 #[.val (.long q0), .second, .val (.long q1), .second, .val (.long q2), .second, .val (.long q3), .second, .val (.int p4), .val (.long (g1_0_t0 q0 q2 p4)), .second, .val (.long (g2_15_t0 q1 q3 p4)), .second, .val (.ref b5), .val (.ref b11), .val (.ref b17), .val (.int (g3_65_t0 q0 q1 (g1_0_t0 q0 q2 p4) (g2_15_t0 q1 q3 p4))), .val (.int (1 : Int32))] [])) _
          refine XS.iconst X51.here hx rfl (hb hby at_222) ?_
          show Steps p.tables e below (T51.setTop (mkF m 223 #[.val (.long q0), .second, .val (.long q1), .second, .val (.long q2), .second, .val (.long q3), .second, .val (.int p4), .val (.long (g1_0_t0 q0 q2 p4)), .second, .val (.long (g2_15_t0 q1 q3 p4)), .second, .val (.ref b5), .val (.ref b11), .val (.ref b17), .val (.int (g3_65_t0 q0 q1 (g1_0_t0 q0 q2 p4) (g2_15_t0 q1 q3 p4))), .val (.int (1 : Int32))] [(.int (1 : Int32))])) _
          refine XS.goto X51.here hx rfl (pc0 := 223) (pc' := 227) rfl (hb hby at_223) (by decide) (by decide) ?_
          show Steps p.tables e below (T51.setTop (mkF m 227 #[.val (.long q0), .second, .val (.long q1), .second, .val (.long q2), .second, .val (.long q3), .second, .val (.int p4), .val (.long (g1_0_t0 q0 q2 p4)), .second, .val (.long (g2_15_t0 q1 q3 p4)), .second, .val (.ref b5), .val (.ref b11), .val (.ref b17), .val (.int (g3_65_t0 q0 q1 (g1_0_t0 q0 q2 p4) (g2_15_t0 q1 q3 p4))), .val (.int (1 : Int32))] [(.int (1 : Int32))])) _
          refine XS.istore X51.here hx rfl (hb hby at_227) rfl (l' := #[.val (.long q0), .second, .val (.long q1), .second, .val (.long q2), .second, .val (.long q3), .second, .val (.int p4), .val (.long (g1_0_t0 q0 q2 p4)), .second, .val (.long (g2_15_t0 q1 q3 p4)), .second, .val (.ref b5), .val (.ref b11), .val (.ref b17), .val (.int (g3_65_t0 q0 q1 (g1_0_t0 q0 q2 p4) (g2_15_t0 q1 q3 p4))), .val (.int (1 : Int32))]) rfl ?_
          show Steps p.tables e below (T51.setTop (mkF m 229 #[.val (.long q0), .second, .val (.long q1), .second, .val (.long q2), .second, .val (.long q3), .second, .val (.int p4), .val (.long (g1_0_t0 q0 q2 p4)), .second, .val (.long (g2_15_t0 q1 q3 p4)), .second, .val (.ref b5), .val (.ref b11), .val (.ref b17), .val (.int (g3_65_t0 q0 q1 (g1_0_t0 q0 q2 p4) (g2_15_t0 q1 q3 p4))), .val (.int (1 : Int32))] [])) _
          refine XS.iload X51.here hx rfl (hb hby at_229) rfl ?_
          exact κ)
      obtain ⟨fs, hr, hrun, hended, hW, hsame⟩ := X51.leave (v := some (.int (1 : Int32))) (fun h => by rw [Bd.returns] at h; cases h)
      refine ⟨_, _, c53 _ (retN X51 hx (t := .boolean) Bd.returns (by simp) (hb hby at_231) hr), hrun, hended, _, _, rfl, ?_, ⟨_, rfl⟩, hW, hsame.mono (by decide) (by decide)⟩
      show Q_rm0 Z q0 q1 q2 q3 p4 cc cl h0 n0 _ T51.heap _
      rw [e51]
      exact ⟨rfl, N51⟩
set_option maxRecDepth 65536 in
set_option maxHeartbeats 40000000 in
theorem comes_1 {Post : Tables → Env → Array Value → State → Outcome → State → Prop} (hpost : ∀ tb e args s v u, (limb_1_1.after args s (.returned v) u = true ∧ limb_1_2.after args s (.returned v) u = true ∧ True) → FrameEnd s (.returned v) u (Jvm.fieldLocs frame_1_writes args s ++ Jvm.arrayLocs frame_1_arrays args s ++ Jvm.staticLocs frame_1_statics s) 16 128 → Post tb e args s (.returned v) u) :
    ArmFor flags0 classFile x code maxLocals ret World_1 tables_1 room_1 Calls_1 rest_1 Pre_1 Post := by
  intro l hfl _ _ p e ha hc hk s m args below hf hA hF happ hP
  obtain ⟨hcalls, hrest, hpre⟩ := hP
  obtain ⟨-, -, -, hnamed, -, -, -, hat⟩ := (Spec.applies_iff hf).mp happ
  obtain ⟨hg, hn⟩ := and_e (Cond.before_iff.mp (show (Jvm.Cond.and given_1 narrow_1).before args s = true from hpre))
  obtain ⟨g1, g2⟩ := and_e hg
  obtain ⟨g3, g4⟩ := and_e g2
  obtain ⟨g5, g6⟩ := and_e g4
  obtain ⟨g7, g8⟩ := and_e g6
  obtain ⟨g9, g10⟩ := and_e g8
  obtain ⟨w0, w1, w2, w3, w4, rfl⟩ : ∃ w0 w1 w2 w3 w4 : Value, args = #[w0, w1, w2, w3, w4] := by
    have hs : args.size = 5 := by simpa [Cond.value, given_1] using g1
    obtain ⟨L⟩ := args
    match L, hs with
    | [w0, w1, w2, w3, w4], _ => exact ⟨w0, w1, w2, w3, w4, rfl⟩
  have hw := fun d (hd : d ∈ tables_1) => atoms_spec (ws := Jvm.Cond.code x code maxLocals ret :: tables_1) hat d (List.mem_cons_of_mem _ hd)
  have hfit : Fit s := fun {y c} hc i hi => by
    obtain ⟨ha, rfl⟩ := Array.getElem?_eq_some_iff.mp hc
    have q := List.all_eq_true.mp ((Array.all_eq_true_iff_forall_mem.mp hF) _ (Array.getElem_mem ha)) i (List.mem_range.mpr hi)
    simpa [Array.getElem?_eq_getElem hi] using q
  obtain ⟨hsets, hown0⟩ := atoms_of _ (rest_1_c_eq ▸ (show rest_1_c.before _ s = true from hrest))
  have hr0 := Cond.before_iff.mp hown0
  obtain ⟨i0, ei0⟩ := isL_v g3
  obtain rfl : w0 = (.long i0) := Option.some.inj ei0
  obtain ⟨i1, ei1⟩ := isL_v g5
  obtain rfl : w1 = (.long i1) := Option.some.inj ei1
  obtain ⟨i2, ei2⟩ := isL_v g7
  obtain rfl : w2 = (.long i2) := Option.some.inj ei2
  obtain ⟨i3, ei3⟩ := isL_v g9
  obtain rfl : w3 = (.long i3) := Option.some.inj ei3
  obtain ⟨i4, ei4⟩ := is_v g10
  obtain rfl : w4 = (.int i4) := Option.some.inj ei4
  have u2 := hsets _ (List.mem_of_getElem? (i := 2) rfl)
  have u3 := hsets _ (List.mem_of_getElem? (i := 3) rfl)
  have u4 := Cond.before_iff.mp (hsets _ (List.mem_of_getElem? (i := 4) rfl))
  have u5 := Cond.before_iff.mp (hsets _ (List.mem_of_getElem? (i := 5) rfl))
  obtain ⟨cc, _, _, _, ev, -⟩ := Cond.exactly_spec u3
  have hS := Sta.start ev (Or.inl (hsets _ (List.mem_of_getElem? (i := 1) rfl)))
  obtain ⟨cl, hAr⟩ := Arr.start ev (Cond.before_iff.mp u2)
  have el := eqv_i (Term.int_eval (256)) u4
  have hle := own_len ev (hAr.fin (Vm.Alike.refl _)) el
  have hB := Bxs.start (val := fun j => Value.long ((j - (128 : Int32)).toInt64)) (fun idx => ev) hAr hle.1 hle.2 (by decide) u5 (fun X j hj h => eqv_l (i2l_at (own_subat (idx_at hj) (Term.int_eval (128)))) h)
  obtain ⟨n, o, h1, h2, h3, _, L, rfl, ⟨rfl, N⟩, hq⟩ := rm0 l s _ hw tables_1 i0 i1 i2 i3 i4 cc cl s.heap s.heap.size (Nat.le_refl _) (Old.start s) hS hB p e ha hc hk s m _ below hf ((Spec.applies_iff_loose hf).mp happ).1 ⟨rfl, State.Warmed39.refl s, rfl⟩ trivial
  refine ⟨n, _, h1, h2, h3, hpost _ _ _ _ _ _ ⟨Cond.after_iff.mpr rfl, Cond.after_iff.mpr (eq_i res_at (Term.int_eval (1)) rfl), trivial⟩ ⟨hq.1, hq.2.1, (hq.2.2.sift fun y hy => Or.inr (N y hy)).mono (by decide) (by decide)⟩⟩
theorem main_1_1 : Claimed_1_1 := comes_1 fun _ _ _ _ _ _ h hF => ⟨h.1, hF⟩
theorem main_1_2 : Claimed_1_2 := comes_1 fun _ _ _ _ _ _ h hF => ⟨h.2.1, hF⟩
end Jvm.Pilot.@@N@@
namespace Jvm.Pilot.@@N@@
open Jvm Jvm.ClassFile Sem Op Lib Jvm.Free Jvm.Stand Jvm.Pilot.@@N@@.Jvm.D
/-! MADE BY PROGRAM (witnessworld.py) out of the Statement's table words and the real class files: 16 classes; the members and pool entries that the words name. The judged class is class 1, her method 1. -/
namespace start1
open Jvm.ClassFile
def u (s : String) : CpInfo := .utf8 (stringToUtf16 s)
/-- a pool by its gaps: so many unusable entries, then the entry; so many at the end -/
def gap : Nat → List CpInfo → List CpInfo
  | 0, r => r
  | n + 1, r => .unusable :: gap n r
def poolList (es : List (Nat × CpInfo)) (last : Nat) : List CpInfo := es.foldr (fun e r => gap e.1 (e.2 :: r)) (gap last [])
def pool (es : List (Nat × CpInfo)) (last : Nat) : Array CpInfo := ⟨poolList es last⟩
def fileOf (pool : Array CpInfo) (this : Nat) (attrs : Array Attribute := #[]) (ms : Array MethodInfo := #[]) (fl : Nat := 33) (sup : Nat := 0) (ifs : Array Nat := #[]) (fds : Array FieldInfo := #[]) : ClassFile where
  minorVersion := 0
  majorVersion := 65
  constantPool := pool
  accessFlags := fl
  thisClass := this
  superClass := sup
  interfaces := ifs
  fields := fds
  methods := ms
  attributes := attrs
def plain (name : String) (sup : Option ClassId) : Class where
  name := name
  kind := .ordinary
  loader := none
  accessFlags := 33
  super := sup
  interfaces := #[]
  cf := none
  fields := #[]
  methods := #[]
  instanceTypes := #[]
  staticTypes := #[]
  resolved := #[]
  callSites := []
  init := .initialized
  statics := none
  mirror := none

def pool0 : Array CpInfo := pool [(5, u "<init>"), (0, u "()V"), (1, .class_ 10), (1, u "java/lang/Object")] 113

def k0c0 : Code := { maxStack := 0, maxLocals := 1, code := object_method_1_code, exceptionTable := #[], attributes := #[] }
def k0m0 : Method := { name := "<init>", desc := "()V", sig := { parameters := [], returnType := none }, accessFlags := 1, code := some k0c0 }
/-- java/lang/Object -/
def k0 : Class := { plain "java/lang/Object" none with
  accessFlags := 33
  interfaces := #[]
  cf := some (fileOf pool0 8 #[] #[{ accessFlags := 1, nameIndex := 5, descriptorIndex := 6, attributes := #[] }] 33 0 #[] #[])
  fields := #[]
  methods := #[k0m0]
  instanceTypes := #[]
  staticTypes := #[]
  resolved := Array.replicate 124 none
  statics := none }

def pool1 : Array CpInfo := pool [(2, .class_ 4), (1, u "java/lang/Object"), (0, u "<init>"), (0, u "()V"), (0, .class_ 8), (0, u "com/example/callbook/callbook/engine/Midpoint"), (0, .methodref 7 10), (0, .nameAndType 5 11), (0, u "(JJ)V"), (0, .methodref 7 13), (0, .nameAndType 14 15), (0, u "equals"), (0, u "(Ljava/lang/Object;)Z"), (0, .methodref 17 18), (0, .class_ 19), (0, .nameAndType 20 21), (0, u "java/lang/Long"), (0, u "valueOf"), (0, u "(J)Ljava/lang/Long;"), (0, .class_ 23), (0, u "com/example/callbook/callbook/engine/MidpointEqualsPinLaw"), (2, u "law"), (0, u "(JJJJI)Z")] 3

def k1m0 : Method := { name := "<init>", desc := "()V", sig := { parameters := [], returnType := none }, accessFlags := 1, code := none }
def k1c1 : Code := { maxStack := 6, maxLocals := 18, code := code, exceptionTable := #[], attributes := #[] }
def k1m1 : Method := { name := "law", desc := "(JJJJI)Z", sig := { parameters := [.long, .long, .long, .long, .int], returnType := some .boolean }, accessFlags := 9, code := some k1c1 }
/-- com/example/callbook/callbook/engine/MidpointEqualsPinLaw -/
def k1 : Class := { plain "com/example/callbook/callbook/engine/MidpointEqualsPinLaw" (some 0) with
  accessFlags := 49
  interfaces := #[]
  cf := some (fileOf pool1 22 #[] #[{ accessFlags := 1, nameIndex := 5, descriptorIndex := 6, attributes := #[] }, { accessFlags := 9, nameIndex := 26, descriptorIndex := 27, attributes := #[] }] 49 2 #[] #[])
  fields := #[]
  methods := #[k1m0, k1m1]
  instanceTypes := #[]
  staticTypes := #[]
  resolved := Array.replicate 31 none
  statics := none }

def pool2 : Array CpInfo := pool [(3, .methodref 4 5), (0, .class_ 6), (0, .nameAndType 7 8), (0, u "java/lang/Object"), (0, u "<init>"), (0, u "()V"), (0, .fieldref 10 11), (0, .class_ 12), (0, .nameAndType 13 14), (0, u "com/example/callbook/callbook/engine/Midpoint"), (0, u "bestBid"), (0, u "J"), (0, .fieldref 10 16), (0, .nameAndType 17 14), (0, u "bestAsk"), (21, u "HALF"), (0, u "Ljava/math/BigDecimal;"), (51, u "HIGHEST_HALF_TICKS"), (3, u "(JJ)V"), (11, u "equals"), (0, u "(Ljava/lang/Object;)Z")] 22

def k2c0 : Code := { maxStack := 3, maxLocals := 5, code := prog_43_method_1_code, exceptionTable := #[], attributes := #[] }
def k2m0 : Method := { name := "<init>", desc := "(JJ)V", sig := { parameters := [.long, .long], returnType := none }, accessFlags := 0, code := some k2c0 }
def k2c1 : Code := { maxStack := 4, maxLocals := 3, code := prog_43_method_9_code, exceptionTable := #[], attributes := #[] }
def k2m1 : Method := { name := "equals", desc := "(Ljava/lang/Object;)Z", sig := { parameters := [(.object "java/lang/Object")], returnType := some .boolean }, accessFlags := 1, code := some k2c1 }
/-- com/example/callbook/callbook/engine/Midpoint -/
def k2 : Class := { plain "com/example/callbook/callbook/engine/Midpoint" (some 0) with
  accessFlags := 49
  interfaces := #[]
  cf := some (fileOf pool2 10 #[] #[{ accessFlags := 0, nameIndex := 7, descriptorIndex := 96, attributes := #[] }, { accessFlags := 1, nameIndex := 108, descriptorIndex := 109, attributes := #[] }] 49 4 #[] #[{ accessFlags := 24, nameIndex := 92, descriptorIndex := 14, attributes := #[] }, { accessFlags := 26, nameIndex := 39, descriptorIndex := 40, attributes := #[] }, { accessFlags := 18, nameIndex := 13, descriptorIndex := 14, attributes := #[] }, { accessFlags := 18, nameIndex := 17, descriptorIndex := 14, attributes := #[] }])
  fields := #[{ name := "HIGHEST_HALF_TICKS", type := .long, accessFlags := 24, slot := 0, constantValue := 0 }, { name := "HALF", type := (.object "java/math/BigDecimal"), accessFlags := 26, slot := 1, constantValue := 0 }, { name := "bestBid", type := .long, accessFlags := 18, slot := 0, constantValue := 0 }, { name := "bestAsk", type := .long, accessFlags := 18, slot := 1, constantValue := 0 }]
  methods := #[k2m0, k2m1]
  instanceTypes := #[.long, .long]
  staticTypes := #[.long, (.object "java/math/BigDecimal")]
  resolved := Array.replicate 132 none
  statics := none }

def pool3 : Array CpInfo := pool [(1, .class_ 2), (0, u "java/io/Serializable"), (0, .class_ 4), (0, u "java/lang/Object")] 2

/-- java/io/Serializable -/
def k3 : Class := { plain "java/io/Serializable" (some 0) with
  accessFlags := 1537
  interfaces := #[]
  cf := some (fileOf pool3 1 #[] #[] 1537 3 #[] #[])
  fields := #[]
  methods := #[]
  instanceTypes := #[]
  staticTypes := #[]
  resolved := Array.replicate 7 none
  statics := none }

def pool4 : Array CpInfo := pool [(1, .methodref 2 3), (0, .class_ 4), (0, .nameAndType 5 6), (0, u "java/lang/Object"), (0, u "<init>"), (0, u "()V"), (1, .class_ 10), (1, u "java/lang/Number"), (2, .class_ 14), (0, u "java/io/Serializable"), (0, u "serialVersionUID"), (0, u "J")] 20

def k4c0 : Code := { maxStack := 1, maxLocals := 1, code := jdk_18_method_1_code, exceptionTable := #[], attributes := #[] }
def k4m0 : Method := { name := "<init>", desc := "()V", sig := { parameters := [], returnType := none }, accessFlags := 1, code := some k4c0 }
/-- java/lang/Number -/
def k4 : Class := { plain "java/lang/Number" (some 0) with
  accessFlags := 1057
  interfaces := #[3]
  cf := some (fileOf pool4 8 #[] #[{ accessFlags := 1, nameIndex := 5, descriptorIndex := 6, attributes := #[] }] 1057 2 #[13] #[{ accessFlags := 26, nameIndex := 15, descriptorIndex := 16, attributes := #[] }])
  fields := #[{ name := "serialVersionUID", type := .long, accessFlags := 26, slot := 0, constantValue := 0 }]
  methods := #[k4m0]
  instanceTypes := #[]
  staticTypes := #[.long]
  resolved := Array.replicate 37 none
  statics := none }

def pool5 : Array CpInfo := pool [(1, .class_ 2), (0, u "java/lang/Comparable"), (0, .class_ 4), (0, u "java/lang/Object")] 7

/-- java/lang/Comparable -/
def k5 : Class := { plain "java/lang/Comparable" (some 0) with
  accessFlags := 1537
  interfaces := #[]
  cf := some (fileOf pool5 1 #[] #[] 1537 3 #[] #[])
  fields := #[]
  methods := #[]
  instanceTypes := #[]
  staticTypes := #[]
  resolved := Array.replicate 12 none
  statics := none }

def pool6 : Array CpInfo := pool [(1, .class_ 2), (0, u "java/lang/constant/Constable"), (0, .class_ 4), (0, u "java/lang/Object")] 6

/-- java/lang/constant/Constable -/
def k6 : Class := { plain "java/lang/constant/Constable" (some 0) with
  accessFlags := 1537
  interfaces := #[]
  cf := some (fileOf pool6 1 #[] #[] 1537 3 #[] #[])
  fields := #[]
  methods := #[]
  instanceTypes := #[]
  staticTypes := #[]
  resolved := Array.replicate 11 none
  statics := none }

def pool7 : Array CpInfo := pool [(1, .class_ 2), (0, u "java/lang/constant/ConstantDesc"), (0, .class_ 4), (0, u "java/lang/Object")] 32

/-- java/lang/constant/ConstantDesc -/
def k7 : Class := { plain "java/lang/constant/ConstantDesc" (some 0) with
  accessFlags := 1537
  interfaces := #[]
  cf := some (fileOf pool7 1 #[] #[] 1537 3 #[] #[])
  fields := #[]
  methods := #[]
  instanceTypes := #[]
  staticTypes := #[]
  resolved := Array.replicate 37 none
  statics := none }

def pool8 : Array CpInfo := pool [(1, .class_ 2), (0, u "java/lang/Long"), (55, .nameAndType 59 60), (0, u "<init>"), (0, u "()V"), (24, u "valueOf"), (143, u "(J)Ljava/lang/Long;"), (0, .long 18446744073709551488), (1, .long 127), (1, .fieldref 235 236), (0, .class_ 237), (0, .nameAndType 238 239), (0, u "java/lang/Long$LongCache"), (0, u "cache"), (0, u "[Ljava/lang/Long;"), (0, .methodref 1 241), (0, .nameAndType 59 242), (0, u "(J)V"), (27, .methodref 271 58), (0, .class_ 272), (0, u "java/lang/Number"), (0, .fieldref 1 274), (0, .nameAndType 275 276), (0, u "value"), (0, u "J"), (84, u "TYPE"), (0, u "Ljava/lang/Class;"), (0, .class_ 364), (0, u "java/lang/Comparable"), (0, .class_ 366), (0, u "java/lang/constant/Constable"), (0, .class_ 368), (0, u "java/lang/constant/ConstantDesc"), (0, u "MIN_VALUE"), (1, u "MAX_VALUE"), (4, u "SIZE"), (0, u "I"), (1, u "BYTES"), (1, u "serialVersionUID")] 142

def k8c0 : Code := { maxStack := 4, maxLocals := 3, code := jdk_35_method_24_code, exceptionTable := #[], attributes := #[] }
def k8m0 : Method := { name := "valueOf", desc := "(J)Ljava/lang/Long;", sig := { parameters := [.long], returnType := some (.object "java/lang/Long") }, accessFlags := 9, code := some k8c0 }
def k8c1 : Code := { maxStack := 3, maxLocals := 3, code := jdk_35_method_26_code, exceptionTable := #[], attributes := #[] }
def k8m1 : Method := { name := "<init>", desc := "(J)V", sig := { parameters := [.long], returnType := none }, accessFlags := 1, code := some k8c1 }
/-- java/lang/Long -/
def k8 : Class := { plain "java/lang/Long" (some 4) with
  accessFlags := 49
  interfaces := #[5, 6, 7]
  cf := some (fileOf pool8 1 #[.nestMembers #[235]] #[{ accessFlags := 9, nameIndex := 85, descriptorIndex := 229, attributes := #[] }, { accessFlags := 1, nameIndex := 59, descriptorIndex := 242, attributes := #[] }] 49 271 #[363, 365, 367] #[{ accessFlags := 25, nameIndex := 369, descriptorIndex := 276, attributes := #[] }, { accessFlags := 25, nameIndex := 371, descriptorIndex := 276, attributes := #[] }, { accessFlags := 25, nameIndex := 361, descriptorIndex := 362, attributes := #[] }, { accessFlags := 18, nameIndex := 275, descriptorIndex := 276, attributes := #[] }, { accessFlags := 25, nameIndex := 376, descriptorIndex := 377, attributes := #[] }, { accessFlags := 25, nameIndex := 379, descriptorIndex := 377, attributes := #[] }, { accessFlags := 26, nameIndex := 381, descriptorIndex := 276, attributes := #[] }])
  fields := #[{ name := "MIN_VALUE", type := .long, accessFlags := 25, slot := 0, constantValue := 0 }, { name := "MAX_VALUE", type := .long, accessFlags := 25, slot := 1, constantValue := 0 }, { name := "TYPE", type := (.object "java/lang/Class"), accessFlags := 25, slot := 2, constantValue := 0 }, { name := "value", type := .long, accessFlags := 18, slot := 0, constantValue := 0 }, { name := "SIZE", type := .int, accessFlags := 25, slot := 3, constantValue := 0 }, { name := "BYTES", type := .int, accessFlags := 25, slot := 4, constantValue := 0 }, { name := "serialVersionUID", type := .long, accessFlags := 26, slot := 5, constantValue := 0 }]
  methods := #[k8m0, k8m1]
  instanceTypes := #[.long]
  staticTypes := #[.long, .long, (.object "java/lang/Class"), .int, .int, .long]
  resolved := Array.replicate 524 none
  statics := none }

def pool9 : Array CpInfo := pool [(2, .class_ 4), (1, u "java/lang/Object"), (0, u "<init>"), (0, u "()V"), (0, .class_ 8), (0, u "java/lang/Long"), (7, .class_ 18), (1, u "java/lang/Long$LongCache"), (0, u "$assertionsDisabled"), (0, u "Z"), (8, u "archivedCache"), (0, u "[Ljava/lang/Long;"), (7, u "cache")] 24

def k9m0 : Method := { name := "<init>", desc := "()V", sig := { parameters := [], returnType := none }, accessFlags := 2, code := none }
/-- java/lang/Long$LongCache -/
def k9 : Class := { plain "java/lang/Long$LongCache" (some 0) with
  accessFlags := 48
  interfaces := #[]
  cf := some (fileOf pool9 16 #[.nestHost 7] #[{ accessFlags := 2, nameIndex := 5, descriptorIndex := 6, attributes := #[] }] 48 2 #[] #[{ accessFlags := 24, nameIndex := 38, descriptorIndex := 30, attributes := #[] }, { accessFlags := 8, nameIndex := 29, descriptorIndex := 30, attributes := #[] }, { accessFlags := 4120, nameIndex := 19, descriptorIndex := 20, attributes := #[] }])
  fields := #[{ name := "cache", type := (.array (.object "java/lang/Long")), accessFlags := 24, slot := 0, constantValue := 0 }, { name := "archivedCache", type := (.array (.object "java/lang/Long")), accessFlags := 8, slot := 1, constantValue := 0 }, { name := "$assertionsDisabled", type := .boolean, accessFlags := 4120, slot := 2, constantValue := 0 }]
  methods := #[k9m0]
  instanceTypes := #[]
  staticTypes := #[(.array (.object "java/lang/Long")), (.array (.object "java/lang/Long")), .boolean]
  resolved := Array.replicate 63 none
  statics := some 0 }

def pool10 : Array CpInfo := pool [(1, u "java/lang/Cloneable"), (0, .class_ 1), (0, u "java/lang/Object"), (0, .class_ 3)] 3

/-- java/lang/Cloneable -/
def k10 : Class := { plain "java/lang/Cloneable" (some 0) with
  accessFlags := 1537
  interfaces := #[]
  cf := some (fileOf pool10 2 #[] #[] 1537 4 #[] #[])
  fields := #[]
  methods := #[]
  instanceTypes := #[]
  staticTypes := #[]
  resolved := Array.replicate 8 none
  statics := none }

/-- the primitive byte -/
def k11 : Class := { plain "byte" none with kind := .primitive 'B', accessFlags := 0x411 }
/-- [B -/
def k12 : Class := { plain "[B" (some 0) with kind := .array 11 .byte, interfaces := #[10, 3], accessFlags := 1041 }

/-- the primitive int -/
def k13 : Class := { plain "int" none with kind := .primitive 'I', accessFlags := 0x411 }
/-- [I -/
def k14 : Class := { plain "[I" (some 0) with kind := .array 13 .int, interfaces := #[10, 3], accessFlags := 1041 }

/-- [Ljava/lang/Long; -/
def k15 : Class := { plain "[Ljava/lang/Long;" (some 0) with kind := .array 8 (.object "java/lang/Long"), interfaces := #[10, 3], accessFlags := 1041 }

def heap : Heap := #[{ cls := 9, slots := #[.ref 1, .null, .int 0], vm := .statics 9 },
  { cls := 15, slots := #[.ref 2, .ref 3, .ref 4, .ref 5, .ref 6, .ref 7, .ref 8, .ref 9, .ref 10, .ref 11, .ref 12, .ref 13, .ref 14, .ref 15, .ref 16, .ref 17, .ref 18, .ref 19, .ref 20, .ref 21, .ref 22, .ref 23, .ref 24, .ref 25, .ref 26, .ref 27, .ref 28, .ref 29, .ref 30, .ref 31, .ref 32, .ref 33, .ref 34, .ref 35, .ref 36, .ref 37, .ref 38, .ref 39, .ref 40, .ref 41, .ref 42, .ref 43, .ref 44, .ref 45, .ref 46, .ref 47, .ref 48, .ref 49, .ref 50, .ref 51, .ref 52, .ref 53, .ref 54, .ref 55, .ref 56, .ref 57, .ref 58, .ref 59, .ref 60, .ref 61, .ref 62, .ref 63, .ref 64, .ref 65, .ref 66, .ref 67, .ref 68, .ref 69, .ref 70, .ref 71, .ref 72, .ref 73, .ref 74, .ref 75, .ref 76, .ref 77, .ref 78, .ref 79, .ref 80, .ref 81, .ref 82, .ref 83, .ref 84, .ref 85, .ref 86, .ref 87, .ref 88, .ref 89, .ref 90, .ref 91, .ref 92, .ref 93, .ref 94, .ref 95, .ref 96, .ref 97, .ref 98, .ref 99, .ref 100, .ref 101, .ref 102, .ref 103, .ref 104, .ref 105, .ref 106, .ref 107, .ref 108, .ref 109, .ref 110, .ref 111, .ref 112, .ref 113, .ref 114, .ref 115, .ref 116, .ref 117, .ref 118, .ref 119, .ref 120, .ref 121, .ref 122, .ref 123, .ref 124, .ref 125, .ref 126, .ref 127, .ref 128, .ref 129, .ref 130, .ref 131, .ref 132, .ref 133, .ref 134, .ref 135, .ref 136, .ref 137, .ref 138, .ref 139, .ref 140, .ref 141, .ref 142, .ref 143, .ref 144, .ref 145, .ref 146, .ref 147, .ref 148, .ref 149, .ref 150, .ref 151, .ref 152, .ref 153, .ref 154, .ref 155, .ref 156, .ref 157, .ref 158, .ref 159, .ref 160, .ref 161, .ref 162, .ref 163, .ref 164, .ref 165, .ref 166, .ref 167, .ref 168, .ref 169, .ref 170, .ref 171, .ref 172, .ref 173, .ref 174, .ref 175, .ref 176, .ref 177, .ref 178, .ref 179, .ref 180, .ref 181, .ref 182, .ref 183, .ref 184, .ref 185, .ref 186, .ref 187, .ref 188, .ref 189, .ref 190, .ref 191, .ref 192, .ref 193, .ref 194, .ref 195, .ref 196, .ref 197, .ref 198, .ref 199, .ref 200, .ref 201, .ref 202, .ref 203, .ref 204, .ref 205, .ref 206, .ref 207, .ref 208, .ref 209, .ref 210, .ref 211, .ref 212, .ref 213, .ref 214, .ref 215, .ref 216, .ref 217, .ref 218, .ref 219, .ref 220, .ref 221, .ref 222, .ref 223, .ref 224, .ref 225, .ref 226, .ref 227, .ref 228, .ref 229, .ref 230, .ref 231, .ref 232, .ref 233, .ref 234, .ref 235, .ref 236, .ref 237, .ref 238, .ref 239, .ref 240, .ref 241, .ref 242, .ref 243, .ref 244, .ref 245, .ref 246, .ref 247, .ref 248, .ref 249, .ref 250, .ref 251, .ref 252, .ref 253, .ref 254, .ref 255, .ref 256, .ref 257], vm := .none },
  { cls := 8, slots := #[.long (-128)], vm := .none },
  { cls := 8, slots := #[.long (-127)], vm := .none },
  { cls := 8, slots := #[.long (-126)], vm := .none },
  { cls := 8, slots := #[.long (-125)], vm := .none },
  { cls := 8, slots := #[.long (-124)], vm := .none },
  { cls := 8, slots := #[.long (-123)], vm := .none },
  { cls := 8, slots := #[.long (-122)], vm := .none },
  { cls := 8, slots := #[.long (-121)], vm := .none },
  { cls := 8, slots := #[.long (-120)], vm := .none },
  { cls := 8, slots := #[.long (-119)], vm := .none },
  { cls := 8, slots := #[.long (-118)], vm := .none },
  { cls := 8, slots := #[.long (-117)], vm := .none },
  { cls := 8, slots := #[.long (-116)], vm := .none },
  { cls := 8, slots := #[.long (-115)], vm := .none },
  { cls := 8, slots := #[.long (-114)], vm := .none },
  { cls := 8, slots := #[.long (-113)], vm := .none },
  { cls := 8, slots := #[.long (-112)], vm := .none },
  { cls := 8, slots := #[.long (-111)], vm := .none },
  { cls := 8, slots := #[.long (-110)], vm := .none },
  { cls := 8, slots := #[.long (-109)], vm := .none },
  { cls := 8, slots := #[.long (-108)], vm := .none },
  { cls := 8, slots := #[.long (-107)], vm := .none },
  { cls := 8, slots := #[.long (-106)], vm := .none },
  { cls := 8, slots := #[.long (-105)], vm := .none },
  { cls := 8, slots := #[.long (-104)], vm := .none },
  { cls := 8, slots := #[.long (-103)], vm := .none },
  { cls := 8, slots := #[.long (-102)], vm := .none },
  { cls := 8, slots := #[.long (-101)], vm := .none },
  { cls := 8, slots := #[.long (-100)], vm := .none },
  { cls := 8, slots := #[.long (-99)], vm := .none },
  { cls := 8, slots := #[.long (-98)], vm := .none },
  { cls := 8, slots := #[.long (-97)], vm := .none },
  { cls := 8, slots := #[.long (-96)], vm := .none },
  { cls := 8, slots := #[.long (-95)], vm := .none },
  { cls := 8, slots := #[.long (-94)], vm := .none },
  { cls := 8, slots := #[.long (-93)], vm := .none },
  { cls := 8, slots := #[.long (-92)], vm := .none },
  { cls := 8, slots := #[.long (-91)], vm := .none },
  { cls := 8, slots := #[.long (-90)], vm := .none },
  { cls := 8, slots := #[.long (-89)], vm := .none },
  { cls := 8, slots := #[.long (-88)], vm := .none },
  { cls := 8, slots := #[.long (-87)], vm := .none },
  { cls := 8, slots := #[.long (-86)], vm := .none },
  { cls := 8, slots := #[.long (-85)], vm := .none },
  { cls := 8, slots := #[.long (-84)], vm := .none },
  { cls := 8, slots := #[.long (-83)], vm := .none },
  { cls := 8, slots := #[.long (-82)], vm := .none },
  { cls := 8, slots := #[.long (-81)], vm := .none },
  { cls := 8, slots := #[.long (-80)], vm := .none },
  { cls := 8, slots := #[.long (-79)], vm := .none },
  { cls := 8, slots := #[.long (-78)], vm := .none },
  { cls := 8, slots := #[.long (-77)], vm := .none },
  { cls := 8, slots := #[.long (-76)], vm := .none },
  { cls := 8, slots := #[.long (-75)], vm := .none },
  { cls := 8, slots := #[.long (-74)], vm := .none },
  { cls := 8, slots := #[.long (-73)], vm := .none },
  { cls := 8, slots := #[.long (-72)], vm := .none },
  { cls := 8, slots := #[.long (-71)], vm := .none },
  { cls := 8, slots := #[.long (-70)], vm := .none },
  { cls := 8, slots := #[.long (-69)], vm := .none },
  { cls := 8, slots := #[.long (-68)], vm := .none },
  { cls := 8, slots := #[.long (-67)], vm := .none },
  { cls := 8, slots := #[.long (-66)], vm := .none },
  { cls := 8, slots := #[.long (-65)], vm := .none },
  { cls := 8, slots := #[.long (-64)], vm := .none },
  { cls := 8, slots := #[.long (-63)], vm := .none },
  { cls := 8, slots := #[.long (-62)], vm := .none },
  { cls := 8, slots := #[.long (-61)], vm := .none },
  { cls := 8, slots := #[.long (-60)], vm := .none },
  { cls := 8, slots := #[.long (-59)], vm := .none },
  { cls := 8, slots := #[.long (-58)], vm := .none },
  { cls := 8, slots := #[.long (-57)], vm := .none },
  { cls := 8, slots := #[.long (-56)], vm := .none },
  { cls := 8, slots := #[.long (-55)], vm := .none },
  { cls := 8, slots := #[.long (-54)], vm := .none },
  { cls := 8, slots := #[.long (-53)], vm := .none },
  { cls := 8, slots := #[.long (-52)], vm := .none },
  { cls := 8, slots := #[.long (-51)], vm := .none },
  { cls := 8, slots := #[.long (-50)], vm := .none },
  { cls := 8, slots := #[.long (-49)], vm := .none },
  { cls := 8, slots := #[.long (-48)], vm := .none },
  { cls := 8, slots := #[.long (-47)], vm := .none },
  { cls := 8, slots := #[.long (-46)], vm := .none },
  { cls := 8, slots := #[.long (-45)], vm := .none },
  { cls := 8, slots := #[.long (-44)], vm := .none },
  { cls := 8, slots := #[.long (-43)], vm := .none },
  { cls := 8, slots := #[.long (-42)], vm := .none },
  { cls := 8, slots := #[.long (-41)], vm := .none },
  { cls := 8, slots := #[.long (-40)], vm := .none },
  { cls := 8, slots := #[.long (-39)], vm := .none },
  { cls := 8, slots := #[.long (-38)], vm := .none },
  { cls := 8, slots := #[.long (-37)], vm := .none },
  { cls := 8, slots := #[.long (-36)], vm := .none },
  { cls := 8, slots := #[.long (-35)], vm := .none },
  { cls := 8, slots := #[.long (-34)], vm := .none },
  { cls := 8, slots := #[.long (-33)], vm := .none },
  { cls := 8, slots := #[.long (-32)], vm := .none },
  { cls := 8, slots := #[.long (-31)], vm := .none },
  { cls := 8, slots := #[.long (-30)], vm := .none },
  { cls := 8, slots := #[.long (-29)], vm := .none },
  { cls := 8, slots := #[.long (-28)], vm := .none },
  { cls := 8, slots := #[.long (-27)], vm := .none },
  { cls := 8, slots := #[.long (-26)], vm := .none },
  { cls := 8, slots := #[.long (-25)], vm := .none },
  { cls := 8, slots := #[.long (-24)], vm := .none },
  { cls := 8, slots := #[.long (-23)], vm := .none },
  { cls := 8, slots := #[.long (-22)], vm := .none },
  { cls := 8, slots := #[.long (-21)], vm := .none },
  { cls := 8, slots := #[.long (-20)], vm := .none },
  { cls := 8, slots := #[.long (-19)], vm := .none },
  { cls := 8, slots := #[.long (-18)], vm := .none },
  { cls := 8, slots := #[.long (-17)], vm := .none },
  { cls := 8, slots := #[.long (-16)], vm := .none },
  { cls := 8, slots := #[.long (-15)], vm := .none },
  { cls := 8, slots := #[.long (-14)], vm := .none },
  { cls := 8, slots := #[.long (-13)], vm := .none },
  { cls := 8, slots := #[.long (-12)], vm := .none },
  { cls := 8, slots := #[.long (-11)], vm := .none },
  { cls := 8, slots := #[.long (-10)], vm := .none },
  { cls := 8, slots := #[.long (-9)], vm := .none },
  { cls := 8, slots := #[.long (-8)], vm := .none },
  { cls := 8, slots := #[.long (-7)], vm := .none },
  { cls := 8, slots := #[.long (-6)], vm := .none },
  { cls := 8, slots := #[.long (-5)], vm := .none },
  { cls := 8, slots := #[.long (-4)], vm := .none },
  { cls := 8, slots := #[.long (-3)], vm := .none },
  { cls := 8, slots := #[.long (-2)], vm := .none },
  { cls := 8, slots := #[.long (-1)], vm := .none },
  { cls := 8, slots := #[.long 0], vm := .none },
  { cls := 8, slots := #[.long 1], vm := .none },
  { cls := 8, slots := #[.long 2], vm := .none },
  { cls := 8, slots := #[.long 3], vm := .none },
  { cls := 8, slots := #[.long 4], vm := .none },
  { cls := 8, slots := #[.long 5], vm := .none },
  { cls := 8, slots := #[.long 6], vm := .none },
  { cls := 8, slots := #[.long 7], vm := .none },
  { cls := 8, slots := #[.long 8], vm := .none },
  { cls := 8, slots := #[.long 9], vm := .none },
  { cls := 8, slots := #[.long 10], vm := .none },
  { cls := 8, slots := #[.long 11], vm := .none },
  { cls := 8, slots := #[.long 12], vm := .none },
  { cls := 8, slots := #[.long 13], vm := .none },
  { cls := 8, slots := #[.long 14], vm := .none },
  { cls := 8, slots := #[.long 15], vm := .none },
  { cls := 8, slots := #[.long 16], vm := .none },
  { cls := 8, slots := #[.long 17], vm := .none },
  { cls := 8, slots := #[.long 18], vm := .none },
  { cls := 8, slots := #[.long 19], vm := .none },
  { cls := 8, slots := #[.long 20], vm := .none },
  { cls := 8, slots := #[.long 21], vm := .none },
  { cls := 8, slots := #[.long 22], vm := .none },
  { cls := 8, slots := #[.long 23], vm := .none },
  { cls := 8, slots := #[.long 24], vm := .none },
  { cls := 8, slots := #[.long 25], vm := .none },
  { cls := 8, slots := #[.long 26], vm := .none },
  { cls := 8, slots := #[.long 27], vm := .none },
  { cls := 8, slots := #[.long 28], vm := .none },
  { cls := 8, slots := #[.long 29], vm := .none },
  { cls := 8, slots := #[.long 30], vm := .none },
  { cls := 8, slots := #[.long 31], vm := .none },
  { cls := 8, slots := #[.long 32], vm := .none },
  { cls := 8, slots := #[.long 33], vm := .none },
  { cls := 8, slots := #[.long 34], vm := .none },
  { cls := 8, slots := #[.long 35], vm := .none },
  { cls := 8, slots := #[.long 36], vm := .none },
  { cls := 8, slots := #[.long 37], vm := .none },
  { cls := 8, slots := #[.long 38], vm := .none },
  { cls := 8, slots := #[.long 39], vm := .none },
  { cls := 8, slots := #[.long 40], vm := .none },
  { cls := 8, slots := #[.long 41], vm := .none },
  { cls := 8, slots := #[.long 42], vm := .none },
  { cls := 8, slots := #[.long 43], vm := .none },
  { cls := 8, slots := #[.long 44], vm := .none },
  { cls := 8, slots := #[.long 45], vm := .none },
  { cls := 8, slots := #[.long 46], vm := .none },
  { cls := 8, slots := #[.long 47], vm := .none },
  { cls := 8, slots := #[.long 48], vm := .none },
  { cls := 8, slots := #[.long 49], vm := .none },
  { cls := 8, slots := #[.long 50], vm := .none },
  { cls := 8, slots := #[.long 51], vm := .none },
  { cls := 8, slots := #[.long 52], vm := .none },
  { cls := 8, slots := #[.long 53], vm := .none },
  { cls := 8, slots := #[.long 54], vm := .none },
  { cls := 8, slots := #[.long 55], vm := .none },
  { cls := 8, slots := #[.long 56], vm := .none },
  { cls := 8, slots := #[.long 57], vm := .none },
  { cls := 8, slots := #[.long 58], vm := .none },
  { cls := 8, slots := #[.long 59], vm := .none },
  { cls := 8, slots := #[.long 60], vm := .none },
  { cls := 8, slots := #[.long 61], vm := .none },
  { cls := 8, slots := #[.long 62], vm := .none },
  { cls := 8, slots := #[.long 63], vm := .none },
  { cls := 8, slots := #[.long 64], vm := .none },
  { cls := 8, slots := #[.long 65], vm := .none },
  { cls := 8, slots := #[.long 66], vm := .none },
  { cls := 8, slots := #[.long 67], vm := .none },
  { cls := 8, slots := #[.long 68], vm := .none },
  { cls := 8, slots := #[.long 69], vm := .none },
  { cls := 8, slots := #[.long 70], vm := .none },
  { cls := 8, slots := #[.long 71], vm := .none },
  { cls := 8, slots := #[.long 72], vm := .none },
  { cls := 8, slots := #[.long 73], vm := .none },
  { cls := 8, slots := #[.long 74], vm := .none },
  { cls := 8, slots := #[.long 75], vm := .none },
  { cls := 8, slots := #[.long 76], vm := .none },
  { cls := 8, slots := #[.long 77], vm := .none },
  { cls := 8, slots := #[.long 78], vm := .none },
  { cls := 8, slots := #[.long 79], vm := .none },
  { cls := 8, slots := #[.long 80], vm := .none },
  { cls := 8, slots := #[.long 81], vm := .none },
  { cls := 8, slots := #[.long 82], vm := .none },
  { cls := 8, slots := #[.long 83], vm := .none },
  { cls := 8, slots := #[.long 84], vm := .none },
  { cls := 8, slots := #[.long 85], vm := .none },
  { cls := 8, slots := #[.long 86], vm := .none },
  { cls := 8, slots := #[.long 87], vm := .none },
  { cls := 8, slots := #[.long 88], vm := .none },
  { cls := 8, slots := #[.long 89], vm := .none },
  { cls := 8, slots := #[.long 90], vm := .none },
  { cls := 8, slots := #[.long 91], vm := .none },
  { cls := 8, slots := #[.long 92], vm := .none },
  { cls := 8, slots := #[.long 93], vm := .none },
  { cls := 8, slots := #[.long 94], vm := .none },
  { cls := 8, slots := #[.long 95], vm := .none },
  { cls := 8, slots := #[.long 96], vm := .none },
  { cls := 8, slots := #[.long 97], vm := .none },
  { cls := 8, slots := #[.long 98], vm := .none },
  { cls := 8, slots := #[.long 99], vm := .none },
  { cls := 8, slots := #[.long 100], vm := .none },
  { cls := 8, slots := #[.long 101], vm := .none },
  { cls := 8, slots := #[.long 102], vm := .none },
  { cls := 8, slots := #[.long 103], vm := .none },
  { cls := 8, slots := #[.long 104], vm := .none },
  { cls := 8, slots := #[.long 105], vm := .none },
  { cls := 8, slots := #[.long 106], vm := .none },
  { cls := 8, slots := #[.long 107], vm := .none },
  { cls := 8, slots := #[.long 108], vm := .none },
  { cls := 8, slots := #[.long 109], vm := .none },
  { cls := 8, slots := #[.long 110], vm := .none },
  { cls := 8, slots := #[.long 111], vm := .none },
  { cls := 8, slots := #[.long 112], vm := .none },
  { cls := 8, slots := #[.long 113], vm := .none },
  { cls := 8, slots := #[.long 114], vm := .none },
  { cls := 8, slots := #[.long 115], vm := .none },
  { cls := 8, slots := #[.long 116], vm := .none },
  { cls := 8, slots := #[.long 117], vm := .none },
  { cls := 8, slots := #[.long 118], vm := .none },
  { cls := 8, slots := #[.long 119], vm := .none },
  { cls := 8, slots := #[.long 120], vm := .none },
  { cls := 8, slots := #[.long 121], vm := .none },
  { cls := 8, slots := #[.long 122], vm := .none },
  { cls := 8, slots := #[.long 123], vm := .none },
  { cls := 8, slots := #[.long 124], vm := .none },
  { cls := 8, slots := #[.long 125], vm := .none },
  { cls := 8, slots := #[.long 126], vm := .none },
  { cls := 8, slots := #[.long 127], vm := .none }]
def classes : Array Class := #[k0, k1, k2, k3, k4, k5, k6, k7, k8, k9, k10, k11, k12, k13, k14, k15]
def interned : List (Array UInt16 × Addr) := []
def slotsUsed : Nat := 515
def theMethod : MethodId := ⟨1, 1⟩
def args0 : Array Value := #[.long 5, .long 7, .long 9, .long 11, .int 1]
def aboutOver (below : List Frame) : State where
  vm := { classes := classes, interned := interned.toArray }
  heap := heap
  slotsUsed := slotsUsed
  threads := #[{ frames := .invoking theMethod args0 :: below }]
def below0 : List Frame := [.native { method := ⟨0, 0⟩, args := #[] }]
def about1 : State := aboutOver below0
def p0 : Program := .bare "" "" ""
def e0 : Env := launch0.env 0 0 0
theorem w_frames : about1.frames = Frame.invoking theMethod args0 :: below0 := rfl
set_option maxRecDepth 65536 in
theorem w_args : argsFit about1.vm theMethod args0 = true := by decide +kernel
set_option maxRecDepth 65536 in
theorem w_heap : heapFits about1 = true := by decide +kernel
set_option maxRecDepth 65536 in
theorem w_runnable : about1.curStatus? = some .runnable := by decide +kernel
set_option maxRecDepth 65536 in
theorem w_alone : about1.alone = true := by decide +kernel
set_option maxRecDepth 65536 in
theorem w_named : about1.methodNamed? x = some theMethod := by decide +kernel
set_option maxRecDepth 65536 in
theorem w_hears : about1.hears theMethod below0 = true := by decide +kernel
set_option maxRecDepth 65536 in
theorem w_ripe : about1.ripe theMethod args0 below0 = true := by decide +kernel
theorem w_running : about1.status = .running := rfl
set_option maxRecDepth 65536 in
theorem w_room : about1.hasRoom e0.platform room_1 = true :=
  launch0.hasRoom_least _ room_1 (by decide +kernel) (by decide +kernel) (by decide +kernel) (by decide +kernel) (by decide +kernel) (by decide +kernel)
theorem allAtoms_all (ts : List Jvm.Cond) (a : Array Jvm.Value) (st : Jvm.State) : (allAtoms ts).before a st = ts.all (fun c => c.before a st) := by
  induction ts with
  | nil => rfl
  | cons c t ih =>
    show (Jvm.Cond.and c (allAtoms t)).before a st = _
    rw [Jvm.Cond.before_and, ih, List.all_cons]
def words1 : List Jvm.Cond := Jvm.Cond.code x code maxLocals ret :: tables_1
/-- a 'code' word, met by the world's own term for the bytes: nothing is compared byte by byte -/
theorem code_word {y : MethodName} {bytes : ByteArray} {mx : Nat} {rt : Option FieldType} {a : Array Value} {s : State} {m : MethodId} {meth : Method} {c : Code} (h1 : s.methodNamed? y = some m) (h2 : s.vm.method? m = some meth) (h3 : meth.code = some c) (h4 : c.code = bytes)
    (h5 : (c.maxLocals == mx && c.exceptionTable.isEmpty && decide (c.maxStack ≤ mostOperands) && decide (meth.sig.returnType = rt) && !meth.locks && decide (parseMethodDescriptor y.desc = some meth.sig)) = true) : (Jvm.Cond.code y bytes mx rt).before a s = true := by
  simp only [Bool.and_eq_true, beq_iff_eq, Bool.not_eq_true', decide_eq_true_eq] at h5
  obtain ⟨⟨⟨⟨⟨g1, g2⟩, g3⟩, g4⟩, g5⟩, g6⟩ := h5
  simp [Cond.before, Cond.holds, Cond.value, h1, h2, h3, h4, g1, g2, g3, g4, g5, g6]
def isCode : Jvm.Cond → Bool
  | .code _ _ _ _ => true
  | _ => false
theorem all_split {L : List Jvm.Cond} {P : Jvm.Cond → Bool} (h1 : L.all (fun c => isCode c || P c) = true) (h2 : ∀ c ∈ L.filter isCode, P c = true) : L.all P = true := by
  refine List.all_eq_true.mpr fun c hc => ?_
  have h := List.all_eq_true.mp h1 c hc
  rcases Bool.eq_false_or_eq_true (isCode c) with hi | hi
  · exact h2 c (List.mem_filter.mpr ⟨hc, hi⟩)
  · simpa [hi] using h
set_option maxRecDepth 65536 in
theorem w_c0 : (Jvm.Cond.code x code maxLocals ret).before args0 about1 = true := code_word (m := ⟨1, 1⟩) (meth := k1m1) (c := k1c1) (by decide +kernel) rfl rfl rfl (by decide +kernel)
set_option maxRecDepth 65536 in
theorem w_c1 : (Jvm.Cond.code ({ cls := "com/example/callbook/callbook/engine/Midpoint", name := "<init>", desc := "(JJ)V" } : Jvm.MethodName) prog_43_method_1_code (5 : Nat) (Option.none : Option Jvm.ClassFile.FieldType)).before args0 about1 = true := code_word (m := ⟨2, 0⟩) (meth := k2m0) (c := k2c0) (by decide +kernel) rfl rfl rfl (by decide +kernel)
set_option maxRecDepth 65536 in
theorem w_c2 : (Jvm.Cond.code ({ cls := "java/lang/Object", name := "<init>", desc := "()V" } : Jvm.MethodName) object_method_1_code (1 : Nat) (Option.none : Option Jvm.ClassFile.FieldType)).before args0 about1 = true := code_word (m := ⟨0, 0⟩) (meth := k0m0) (c := k0c0) (by decide +kernel) rfl rfl rfl (by decide +kernel)
set_option maxRecDepth 65536 in
theorem w_c3 : (Jvm.Cond.code ({ cls := "com/example/callbook/callbook/engine/Midpoint", name := "equals", desc := "(Ljava/lang/Object;)Z" } : Jvm.MethodName) prog_43_method_9_code (3 : Nat) (Option.some Jvm.ClassFile.FieldType.boolean)).before args0 about1 = true := code_word (m := ⟨2, 1⟩) (meth := k2m1) (c := k2c1) (by decide +kernel) rfl rfl rfl (by decide +kernel)
set_option maxRecDepth 65536 in
theorem w_c4 : (Jvm.Cond.code ({ cls := "java/lang/Long", name := "valueOf", desc := "(J)Ljava/lang/Long;" } : Jvm.MethodName) jdk_35_method_24_code (3 : Nat) (Option.some (Jvm.ClassFile.FieldType.object "java/lang/Long"))).before args0 about1 = true := code_word (m := ⟨8, 0⟩) (meth := k8m0) (c := k8c0) (by decide +kernel) rfl rfl rfl (by decide +kernel)
set_option maxRecDepth 65536 in
theorem w_c5 : (Jvm.Cond.code ({ cls := "java/lang/Long", name := "<init>", desc := "(J)V" } : Jvm.MethodName) jdk_35_method_26_code (3 : Nat) (Option.none : Option Jvm.ClassFile.FieldType)).before args0 about1 = true := code_word (m := ⟨8, 1⟩) (meth := k8m1) (c := k8c1) (by decide +kernel) rfl rfl rfl (by decide +kernel)
set_option maxRecDepth 65536 in
theorem w_c6 : (Jvm.Cond.code ({ cls := "java/lang/Number", name := "<init>", desc := "()V" } : Jvm.MethodName) jdk_18_method_1_code (1 : Nat) (Option.none : Option Jvm.ClassFile.FieldType)).before args0 about1 = true := code_word (m := ⟨4, 0⟩) (meth := k4m0) (c := k4c0) (by decide +kernel) rfl rfl rfl (by decide +kernel)
def codes1 : List Jvm.Cond := [Jvm.Cond.code x code maxLocals ret, Jvm.Cond.code ({ cls := "com/example/callbook/callbook/engine/Midpoint", name := "<init>", desc := "(JJ)V" } : Jvm.MethodName) prog_43_method_1_code (5 : Nat) (Option.none : Option Jvm.ClassFile.FieldType), Jvm.Cond.code ({ cls := "java/lang/Object", name := "<init>", desc := "()V" } : Jvm.MethodName) object_method_1_code (1 : Nat) (Option.none : Option Jvm.ClassFile.FieldType), Jvm.Cond.code ({ cls := "com/example/callbook/callbook/engine/Midpoint", name := "equals", desc := "(Ljava/lang/Object;)Z" } : Jvm.MethodName) prog_43_method_9_code (3 : Nat) (Option.some Jvm.ClassFile.FieldType.boolean), Jvm.Cond.code ({ cls := "java/lang/Long", name := "valueOf", desc := "(J)Ljava/lang/Long;" } : Jvm.MethodName) jdk_35_method_24_code (3 : Nat) (Option.some (Jvm.ClassFile.FieldType.object "java/lang/Long")), Jvm.Cond.code ({ cls := "java/lang/Long", name := "<init>", desc := "(J)V" } : Jvm.MethodName) jdk_35_method_26_code (3 : Nat) (Option.none : Option Jvm.ClassFile.FieldType), Jvm.Cond.code ({ cls := "java/lang/Number", name := "<init>", desc := "()V" } : Jvm.MethodName) jdk_18_method_1_code (1 : Nat) (Option.none : Option Jvm.ClassFile.FieldType)]
set_option maxRecDepth 65536 in
theorem codes_eq : words1.filter isCode = codes1 := rfl
theorem w_codes : ∀ c ∈ words1.filter isCode, c.before args0 about1 = true := by
  rw [codes_eq]
  intro c hc
  simp only [codes1, List.mem_cons, List.not_mem_nil, or_false] at hc
  rcases hc with rfl | rfl | rfl | rfl | rfl | rfl | rfl
  · exact w_c0
  · exact w_c1
  · exact w_c2
  · exact w_c3
  · exact w_c4
  · exact w_c5
  · exact w_c6
set_option maxRecDepth 65536 in
theorem w_t1 : (words1.take 24).all (fun c => isCode c || c.before args0 about1) = true := by decide +kernel
set_option maxRecDepth 65536 in
theorem w_t2 : (words1.drop 24).all (fun c => isCode c || c.before args0 about1) = true := by decide +kernel
theorem w_tables : (allAtoms (Jvm.Cond.code x code maxLocals ret :: tables_1)).before args0 about1 = true := by
  rw [allAtoms_all]
  show words1.all (fun c => c.before args0 about1) = true
  refine all_split ?_ w_codes
  rw [← List.take_append_drop 24 words1, List.all_append, w_t1, w_t2]
  rfl
set_option maxRecDepth 65536 in
theorem w_rest : rest_1_c.before args0 about1 = true := by decide +kernel
set_option maxRecDepth 65536 in
theorem w_case : (Jvm.Cond.and given_1 narrow_1).before args0 about1 = true := by decide +kernel
theorem w_applies : (headSpec (Jvm.Cond.code x code maxLocals ret :: tables_1) room_1).applies x e0.platform about1 = true :=
  (Spec.applies_iff w_frames).mpr ⟨w_running, w_runnable, w_alone, w_named, w_hears, w_ripe, w_room, w_tables⟩
theorem atStart : AtStart classFile x code maxLocals ret World_1 tables_1 room_1 Calls_1 rest_1 Pre_1 launch0 p0 e0 about1 theMethod args0 below0 :=
  ⟨lists_1, trivial, launch0.admits_env _ _ _, launch0.least_env, fairChoices_fair.cas, fairChoices_fair.clock, w_frames, w_args, w_heap, w_applies, trivial, w_rest, w_case⟩
end start1
theorem witness_1 : WitnessClaimed_1 := ⟨start1.p0, start1.e0, start1.about1, start1.theMethod, start1.args0, start1.below0, start1.atStart⟩
end Jvm.Pilot.@@N@@
