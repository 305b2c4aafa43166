import JvmDerived
import JvmDerived.Pilot.@@N@@Statement
import JvmDerived.Pilot.@@N@@Code
set_option linter.unusedVariables false
set_option linter.unusedSimpArgs false
namespace Jvm.RoadKit
open Sem ClassFile Op Lib Jvm.Stand Jvm.Free Jvm.LawKit
section New
variable {p : Program} {l : Launch} {e : Env} {R : Room} {s : State} {m : MethodId} {args : Array Value} {below : List Frame} {meth : Method} {c : Code} {T : State} {locs : List Loc} {cells slots : Nat}
theorem retI (X : Stand p l e R s m args below meth c T locs cells slots) (hx : p.tables.exec = Jvm.exec) {pc : Nat} {Ls : Array Slot} {z : Int32} {rest : List Value} (hret : meth.sig.returnType = some .int) (hd : decode c.code pc = .ok (.ireturn, 1)) {fs : List Frame}
    (hl : ∀ (f : JFrame) (acts : List Action), f.method = m → f.locked = none → f.entered = [] → (doReturn e (T.setTop f) acts (some (.int z))).1 = T.setFrames fs) : Steps p.tables e below (T.setTop (mkF m pc Ls (.int z :: rest))) (T.setFrames fs) := by
  have hm' : T.vm.method? m = some meth := X.method'
  have hn : narrow .int (.int z) = .int z := rfl
  show Steps p.tables e below (T.setTop { method := m, pc := pc, locals := Ls, stack := _ :: rest, locked := none }) _
  jvm_step X.here [X.here.top, hx, hd, hm', hret, hn]
  first | (intro acts; rw [hl _ acts rfl rfl rfl]) | rw [hl _ _ rfl rfl rfl]
  exact Steps.refl _
theorem own_miss {k : Int32} (q : Int32) {a : Int} (hq : q.toInt = a) (h : ¬ k = q) : a ≠ k.toInt := fun e => h (Int32.toInt_inj.mp (e.symm.trans hq.symm))
end New
end Jvm.RoadKit
namespace Jvm.RoadKit
open Sem ClassFile Op Lib Jvm.Stand Jvm.Free Jvm.LawKit
section OwnArrs
variable {p : Program} {l : Launch} {e : Env} {R : Room} {s : State} {m : MethodId} {args : Array Value} {below : List Frame} {meth : Method} {c : Code} {T : State} {locs : List Loc} {cells slots : Nat} {Z : State} {h : Heap} {a : Addr} {k : ClassId} {n : Int32} {vs : List Value} {d : Value} {n0 : Nat}
theorem own_caload (X : Stand p l e R s m args below meth c T locs cells slots) (hx : p.tables.exec = Jvm.exec) (hZ : Z.Warmed39 s.vm) (eT : T.heap = h) (F : Arv Z h a k .char n vs d) {j : Int32} (hj : ¬ j < 0 ∧ j < n) {v : Value} (hv : vs.getD j.toNatClampNeg d = v) {g : JFrame} (hg : g.method = m) {rest : List Value} (hs : g.stack = .int j :: .ref a :: rest) (hd : decode c.code g.pc = .ok (.caload, 1)) (target : State) (hr : Steps p.tables e below (T.setTop { g with pc := g.pc + 1, stack := v :: rest }) target) : Steps p.tables e below (T.setTop g) target := by
  obtain ⟨cl, A, -, S, -, H, -⟩ := F
  have hin := inb_of S hj
  exact X.caload hx (by rw [eT]; exact A.1) (State.isArrayOf_alike hZ.alike A.2.1) A.2.2 hin (Has.at H hin hv) hg hs hd target hr
theorem own_iaload (X : Stand p l e R s m args below meth c T locs cells slots) (hx : p.tables.exec = Jvm.exec) (hZ : Z.Warmed39 s.vm) (eT : T.heap = h) (F : Arv Z h a k .int n vs d) {j : Int32} (hj : ¬ j < 0 ∧ j < n) {v : Value} (hv : vs.getD j.toNatClampNeg d = v) {g : JFrame} (hg : g.method = m) {rest : List Value} (hs : g.stack = .int j :: .ref a :: rest) (hd : decode c.code g.pc = .ok (.iaload, 1)) (target : State) (hr : Steps p.tables e below (T.setTop { g with pc := g.pc + 1, stack := v :: rest }) target) : Steps p.tables e below (T.setTop g) target := by
  obtain ⟨cl, A, -, S, -, H, -⟩ := F
  have hin := inb_of S hj
  exact X.iaload hx (by rw [eT]; exact A.1) (State.isArrayOf_alike hZ.alike A.2.1) A.2.2 hin (Has.at H hin hv) hg hs hd target hr
theorem own_stC (X : Stand p l e R s m args below meth c T locs cells slots) (hx : p.tables.exec = Jvm.exec) (hZ : Z.Warmed39 s.vm) (eT : T.heap = h) (F : Arv Z h a k .char n vs d) {j x : Int32} (hj : ¬ j < 0 ∧ j < n) (i : Nat) (hi : j.toNatClampNeg = i) (hl : i < vs.length) (N : Fr n0 locs) (ga : n0 ≤ a) {g : JFrame} (hg : g.method = m) {rest : List Value} (hs : g.stack = .int x :: .int j :: .ref a :: rest) (hd : decode c.code g.pc = .ok (.castore, 1)) :
    ∃ T' h' L', Stand p l e R s m args below meth c T' L' cells slots ∧ T'.heap = h' ∧ Fr n0 L' ∧ Wr h h' a j.toNatClampNeg (.int (nar .char x)) ∧ Arv Z h' a k .char n (vs.set i (.int (nar .char x))) d ∧ ∀ target, Steps p.tables e below (T'.setTop { g with pc := g.pc + 1, stack := rest }) target → Steps p.tables e below (T.setTop g) target := by
  obtain ⟨cl, A, q, S, M, H, G⟩ := F
  obtain ⟨T', h', X', e', W, st⟩ := stC X hx hZ eT A (inb_of S hj) hg hs hd
  exact ⟨T', h', _, X', e', Fr.snoc X' N ga, W, Arv.set A q S M H G (fits_nar_char _) W i hi hl, st⟩
theorem own_stI (X : Stand p l e R s m args below meth c T locs cells slots) (hx : p.tables.exec = Jvm.exec) (hZ : Z.Warmed39 s.vm) (eT : T.heap = h) (F : Arv Z h a k .int n vs d) {j x : Int32} (hj : ¬ j < 0 ∧ j < n) (i : Nat) (hi : j.toNatClampNeg = i) (hl : i < vs.length) (N : Fr n0 locs) (ga : n0 ≤ a) {g : JFrame} (hg : g.method = m) {rest : List Value} (hs : g.stack = .int x :: .int j :: .ref a :: rest) (hd : decode c.code g.pc = .ok (.iastore, 1)) :
    ∃ T' h' L', Stand p l e R s m args below meth c T' L' cells slots ∧ T'.heap = h' ∧ Fr n0 L' ∧ Wr h h' a j.toNatClampNeg (.int x) ∧ Arv Z h' a k .int n (vs.set i (.int x)) d ∧ ∀ target, Steps p.tables e below (T'.setTop { g with pc := g.pc + 1, stack := rest }) target → Steps p.tables e below (T.setTop g) target := by
  obtain ⟨cl, A, q, S, M, H, G⟩ := F
  obtain ⟨T', h', X', e', W, st⟩ := stI X hx hZ eT A (inb_of S hj) hg hs hd
  exact ⟨T', h', _, X', e', Fr.snoc X' N ga, W, Arv.set A q S M H G rfl W i hi hl, st⟩
end OwnArrs
end Jvm.RoadKit
namespace Jvm.RoadKit
open Sem ClassFile Op Lib Jvm.Stand Jvm.Free Jvm.LawKit
section OwnRefs
variable {p : Program} {l : Launch} {e : Env} {R : Room} {s : State} {m : MethodId} {args : Array Value} {below : List Frame} {meth : Method} {c : Code} {T : State} {locs : List Loc} {cells slots : Nat} {Z : State} {h : Heap} {a : Addr} {k : ClassId} {n : Int32} {vs : List Value} {d : Value} {n0 : Nat}
theorem own_stR (X : Stand p l e R s m args below meth c T locs cells slots) (hx : p.tables.exec = Jvm.exec) (hZ : Z.Warmed39 s.vm) (eT : T.heap = h) {C : String} {y : Addr} (F : Arv Z h a k (.object C) n vs d) (O : Ovr Z k C) (I : Ins Z h y C true) {j : Int32} (hj : ¬ j < 0 ∧ j < n) (i : Nat) (hi : j.toNatClampNeg = i) (hl : i < vs.length) (N : Fr n0 locs) (ga : n0 ≤ a) {g : JFrame} (hg : g.method = m) {rest : List Value} (hs : g.stack = .ref y :: .int j :: .ref a :: rest) (hd : decode c.code g.pc = .ok (.aastore, 1)) :
    ∃ T' h' L', Stand p l e R s m args below meth c T' L' cells slots ∧ T'.heap = h' ∧ Fr n0 L' ∧ Wr h h' a j.toNatClampNeg (.ref y) ∧ Arv Z h' a k (.object C) n (vs.set i (.ref y)) d ∧ ∀ target, Steps p.tables e below (T'.setTop { g with pc := g.pc + 1, stack := rest }) target → Steps p.tables e below (T.setTop g) target := by
  obtain ⟨cl, A, q, S, M, H, G⟩ := F
  obtain ⟨T', h', X', e', W, st⟩ := stR X hx hZ eT A (inb_of S hj) rfl (Sto.ofV A q O I) hg hs hd
  exact ⟨T', h', _, X', e', Fr.snoc X' N ga, W, Arv.set A q S M H G rfl W i hi hl, st⟩
theorem own_aaload (X : Stand p l e R s m args below meth c T locs cells slots) (hx : p.tables.exec = Jvm.exec) (hZ : Z.Warmed39 s.vm) (eT : T.heap = h) {C : String} (F : Arv Z h a k (.object C) n vs d) {j : Int32} (hj : ¬ j < 0 ∧ j < n) {v : Value} (hv : vs.getD j.toNatClampNeg d = v) {g : JFrame} (hg : g.method = m) {rest : List Value} (hs : g.stack = .int j :: .ref a :: rest) (hd : decode c.code g.pc = .ok (.aaload, 1)) (target : State) (hr : Steps p.tables e below (T.setTop { g with pc := g.pc + 1, stack := v :: rest }) target) : Steps p.tables e below (T.setTop g) target := by
  obtain ⟨cl, A, -, S, -, H, -⟩ := F
  have hin := inb_of S hj
  exact X.aaload hx (by rw [eT]; exact A.1) (State.isArrayOf_alike hZ.alike A.2.1) rfl A.2.2 hin (Has.at H hin hv) hg hs hd target hr
end OwnRefs
end Jvm.RoadKit
namespace Jvm.Pilot.@@N@@
open Jvm Jvm.ClassFile Sem Op Lib Jvm.Free Jvm.Stand Jvm.LawKit Jvm.RoadKit Bundle Jvm.Pilot.@@N@@.Jvm.D
theorem d1_0 : decode prog_1_method_8_code 0 = .ok (.aload_n 0, 1) := by decide +kernel
theorem d1_1 : decode prog_1_method_8_code 1 = .ok (.getstatic 3, 3) := by decide +kernel
theorem d1_4 : decode prog_1_method_8_code 4 = .ok (.if_acmp .eq 24, 3) := by decide +kernel
theorem d1_7 : decode prog_1_method_8_code 7 = .ok (.aload_n 0, 1) := by decide +kernel
theorem d1_8 : decode prog_1_method_8_code 8 = .ok (.getstatic 28, 3) := by decide +kernel
theorem d1_11 : decode prog_1_method_8_code 11 = .ok (.if_acmp .eq 17, 3) := by decide +kernel
theorem d1_14 : decode prog_1_method_8_code 14 = .ok (.aload_n 0, 1) := by decide +kernel
theorem d1_15 : decode prog_1_method_8_code 15 = .ok (.getstatic 31, 3) := by decide +kernel
theorem d1_18 : decode prog_1_method_8_code 18 = .ok (.if_acmp .eq 10, 3) := by decide +kernel
theorem d1_21 : decode prog_1_method_8_code 21 = .ok (.aload_n 0, 1) := by decide +kernel
theorem d1_22 : decode prog_1_method_8_code 22 = .ok (.getstatic 34, 3) := by decide +kernel
theorem d1_25 : decode prog_1_method_8_code 25 = .ok (.if_acmp .ne 7, 3) := by decide +kernel
theorem d1_28 : decode prog_1_method_8_code 28 = .ok (.iconst 1, 1) := by decide +kernel
theorem d1_29 : decode prog_1_method_8_code 29 = .ok (.goto 4, 3) := by decide +kernel
theorem d1_32 : decode prog_1_method_8_code 32 = .ok (.iconst 0, 1) := by decide +kernel
theorem d1_33 : decode prog_1_method_8_code 33 = .ok (.istore_n 2, 1) := by decide +kernel
theorem d1_34 : decode prog_1_method_8_code 34 = .ok (.aload_n 0, 1) := by decide +kernel
theorem d1_35 : decode prog_1_method_8_code 35 = .ok (.getstatic 7, 3) := by decide +kernel
theorem d1_38 : decode prog_1_method_8_code 38 = .ok (.if_acmp .eq 17, 3) := by decide +kernel
theorem d1_41 : decode prog_1_method_8_code 41 = .ok (.aload_n 0, 1) := by decide +kernel
theorem d1_42 : decode prog_1_method_8_code 42 = .ok (.getstatic 37, 3) := by decide +kernel
theorem d1_45 : decode prog_1_method_8_code 45 = .ok (.if_acmp .eq 10, 3) := by decide +kernel
theorem d1_48 : decode prog_1_method_8_code 48 = .ok (.aload_n 0, 1) := by decide +kernel
theorem d1_49 : decode prog_1_method_8_code 49 = .ok (.getstatic 43, 3) := by decide +kernel
theorem d1_52 : decode prog_1_method_8_code 52 = .ok (.if_acmp .ne 7, 3) := by decide +kernel
theorem d1_55 : decode prog_1_method_8_code 55 = .ok (.iconst 1, 1) := by decide +kernel
theorem d1_56 : decode prog_1_method_8_code 56 = .ok (.goto 4, 3) := by decide +kernel
theorem d1_59 : decode prog_1_method_8_code 59 = .ok (.iconst 0, 1) := by decide +kernel
theorem d1_60 : decode prog_1_method_8_code 60 = .ok (.istore_n 3, 1) := by decide +kernel
theorem d1_61 : decode prog_1_method_8_code 61 = .ok (.iload_n 2, 1) := by decide +kernel
theorem d1_62 : decode prog_1_method_8_code 62 = .ok (.ifCond .ne 11, 3) := by decide +kernel
theorem d1_65 : decode prog_1_method_8_code 65 = .ok (.iload_n 1, 1) := by decide +kernel
theorem d1_66 : decode prog_1_method_8_code 66 = .ok (.ifCond .eq 11, 3) := by decide +kernel
theorem d1_69 : decode prog_1_method_8_code 69 = .ok (.iload_n 3, 1) := by decide +kernel
theorem d1_70 : decode prog_1_method_8_code 70 = .ok (.ifCond .eq 7, 3) := by decide +kernel
theorem d1_73 : decode prog_1_method_8_code 73 = .ok (.iconst 1, 1) := by decide +kernel
theorem d1_74 : decode prog_1_method_8_code 74 = .ok (.goto 4, 3) := by decide +kernel
theorem d1_77 : decode prog_1_method_8_code 77 = .ok (.iconst 0, 1) := by decide +kernel
theorem d1_78 : decode prog_1_method_8_code 78 = .ok (.ireturn, 1) := by decide +kernel
def s_CHILD_77_t0  : Int32 := (0 : Int32)
def s_CHILD_73_t0  : Int32 := (1 : Int32)
def s_CHILD_61_t0 (i1 : Int32) (i2 : Int32) (i3 : Int32) : Int32 := if i2 = (0 : Int32) then (if i1 = (0 : Int32) then s_CHILD_77_t0 else if i3 = (0 : Int32) then s_CHILD_77_t0 else s_CHILD_73_t0) else s_CHILD_73_t0
set_option maxRecDepth 65536 in
set_option maxHeartbeats 40000000 in
theorem s_CHILD_77 {p : Program} {l : Launch} {e : Env} {R : Room} {s : State} {m : MethodId} {args : Array Value} {below : List Frame} {meth : Method} {c : Code} {T : State} {locs : List Loc} {cells slots : Nat} {Z : State} {a0 : Array Value} {target : State} (o0 : Addr) (i1 : Int32) (i2 : Int32) (i3 : Int32) (X : Stand p l e R s m args below meth c T locs cells slots) (hx : p.tables.exec = Jvm.exec) (hZ : Z.Warmed39 s.vm) (hw : ∀ d ∈ tables_1, d.before a0 Z = true) (hby : c.code = prog_1_method_8_code) (hown : s.vm.findClass "com/example/node_sieve/nodesieve/Axis" = some m.cls) (k : Steps p.tables e below (T.setTop (mkF m 78 #[.val (.ref o0), .val (.int i1), .val (.int i2), .val (.int i3)] [(.int (s_CHILD_77_t0))])) target) :
    Steps p.tables e below (T.setTop (mkF m 77 #[.val (.ref o0), .val (.int i1), .val (.int i2), .val (.int i3)] [])) target := by
  show Steps p.tables e below (T.setTop (mkF m 77 #[.val (.ref o0), .val (.int i1), .val (.int i2), .val (.int i3)] [])) _
  refine XS.iconst X.here hx rfl (hb hby d1_77) ?_
  have e_t0 : (s_CHILD_77_t0) = (0 : Int32) := by rfl
  rw [e_t0] at k
  exact k
set_option maxRecDepth 65536 in
set_option maxHeartbeats 40000000 in
theorem s_CHILD_73 {p : Program} {l : Launch} {e : Env} {R : Room} {s : State} {m : MethodId} {args : Array Value} {below : List Frame} {meth : Method} {c : Code} {T : State} {locs : List Loc} {cells slots : Nat} {Z : State} {a0 : Array Value} {target : State} (o0 : Addr) (i1 : Int32) (i2 : Int32) (i3 : Int32) (X : Stand p l e R s m args below meth c T locs cells slots) (hx : p.tables.exec = Jvm.exec) (hZ : Z.Warmed39 s.vm) (hw : ∀ d ∈ tables_1, d.before a0 Z = true) (hby : c.code = prog_1_method_8_code) (hown : s.vm.findClass "com/example/node_sieve/nodesieve/Axis" = some m.cls) (k : Steps p.tables e below (T.setTop (mkF m 78 #[.val (.ref o0), .val (.int i1), .val (.int i2), .val (.int i3)] [(.int (s_CHILD_73_t0))])) target) :
    Steps p.tables e below (T.setTop (mkF m 73 #[.val (.ref o0), .val (.int i1), .val (.int i2), .val (.int i3)] [])) target := by
  show Steps p.tables e below (T.setTop (mkF m 73 #[.val (.ref o0), .val (.int i1), .val (.int i2), .val (.int i3)] [])) _
  refine XS.iconst X.here hx rfl (hb hby d1_73) ?_
  show Steps p.tables e below (T.setTop (mkF m 74 #[.val (.ref o0), .val (.int i1), .val (.int i2), .val (.int i3)] [(.int (1 : Int32))])) _
  refine XS.goto X.here hx rfl (pc0 := 74) (pc' := 78) rfl (hb hby d1_74) (by decide) (by decide) ?_
  have e_t0 : (s_CHILD_73_t0) = (1 : Int32) := by rfl
  rw [e_t0] at k
  exact k
set_option maxRecDepth 65536 in
set_option maxHeartbeats 40000000 in
theorem s_CHILD_61 {p : Program} {l : Launch} {e : Env} {R : Room} {s : State} {m : MethodId} {args : Array Value} {below : List Frame} {meth : Method} {c : Code} {T : State} {locs : List Loc} {cells slots : Nat} {Z : State} {a0 : Array Value} {target : State} (o0 : Addr) (i1 : Int32) (i2 : Int32) (i3 : Int32) (X : Stand p l e R s m args below meth c T locs cells slots) (hx : p.tables.exec = Jvm.exec) (hZ : Z.Warmed39 s.vm) (hw : ∀ d ∈ tables_1, d.before a0 Z = true) (hby : c.code = prog_1_method_8_code) (hown : s.vm.findClass "com/example/node_sieve/nodesieve/Axis" = some m.cls) (k : Steps p.tables e below (T.setTop (mkF m 78 #[.val (.ref o0), .val (.int i1), .val (.int i2), .val (.int i3)] [(.int (s_CHILD_61_t0 i1 i2 i3))])) target) :
    Steps p.tables e below (T.setTop (mkF m 61 #[.val (.ref o0), .val (.int i1), .val (.int i2), .val (.int i3)] [])) target := by
  show Steps p.tables e below (T.setTop (mkF m 61 #[.val (.ref o0), .val (.int i1), .val (.int i2), .val (.int i3)] [])) _
  refine XS.iloadN X.here hx rfl (hb hby d1_61) rfl ?_
  show Steps p.tables e below (T.setTop (mkF m 62 #[.val (.ref o0), .val (.int i1), .val (.int i2), .val (.int i3)] [(.int i2)])) _
  by_cases q62 : i2 = (0 : Int32)
  · refine XS.ifNo X.here hx rfl (hb hby d1_62) rfl ((if0 _ _).trans (teq q62).2) ?_
    show Steps p.tables e below (T.setTop (mkF m 65 #[.val (.ref o0), .val (.int i1), .val (.int i2), .val (.int i3)] [])) _
    refine XS.iloadN X.here hx rfl (hb hby d1_65) rfl ?_
    show Steps p.tables e below (T.setTop (mkF m 66 #[.val (.ref o0), .val (.int i1), .val (.int i2), .val (.int i3)] [(.int i1)])) _
    by_cases q66 : i1 = (0 : Int32)
    · refine XS.ifYes X.here hx rfl (pc0 := 66) (pc' := 77) rfl (hb hby d1_66) rfl ((if0 _ _).trans (teq q66).1) (by decide) (by decide) ?_
      have e_t0 : (s_CHILD_61_t0 i1 i2 i3) = s_CHILD_77_t0 := by unfold s_CHILD_61_t0; rw [if_pos q62, if_pos q66]
      rw [e_t0] at k
      exact s_CHILD_77 o0 i1 i2 i3 X hx hZ hw hby hown k
    · refine XS.ifNo X.here hx rfl (hb hby d1_66) rfl ((if0 _ _).trans (feq q66).1) ?_
      show Steps p.tables e below (T.setTop (mkF m 69 #[.val (.ref o0), .val (.int i1), .val (.int i2), .val (.int i3)] [])) _
      refine XS.iloadN X.here hx rfl (hb hby d1_69) rfl ?_
      show Steps p.tables e below (T.setTop (mkF m 70 #[.val (.ref o0), .val (.int i1), .val (.int i2), .val (.int i3)] [(.int i3)])) _
      by_cases q70 : i3 = (0 : Int32)
      · refine XS.ifYes X.here hx rfl (pc0 := 70) (pc' := 77) rfl (hb hby d1_70) rfl ((if0 _ _).trans (teq q70).1) (by decide) (by decide) ?_
        have e_t0 : (s_CHILD_61_t0 i1 i2 i3) = s_CHILD_77_t0 := by unfold s_CHILD_61_t0; rw [if_pos q62, if_neg q66, if_pos q70]
        rw [e_t0] at k
        exact s_CHILD_77 o0 i1 i2 i3 X hx hZ hw hby hown k
      · refine XS.ifNo X.here hx rfl (hb hby d1_70) rfl ((if0 _ _).trans (feq q70).1) ?_
        have e_t0 : (s_CHILD_61_t0 i1 i2 i3) = s_CHILD_73_t0 := by unfold s_CHILD_61_t0; rw [if_pos q62, if_neg q66, if_neg q70]
        rw [e_t0] at k
        exact s_CHILD_73 o0 i1 i2 i3 X hx hZ hw hby hown k
  · refine XS.ifYes X.here hx rfl (pc0 := 62) (pc' := 73) rfl (hb hby d1_62) rfl ((if0 _ _).trans (feq q62).2) (by decide) (by decide) ?_
    have e_t0 : (s_CHILD_61_t0 i1 i2 i3) = s_CHILD_73_t0 := by unfold s_CHILD_61_t0; rw [if_neg q62]
    rw [e_t0] at k
    exact s_CHILD_73 o0 i1 i2 i3 X hx hZ hw hby hown k
theorem z01_s_CHILD_77_t0  : (s_CHILD_77_t0) = 0 ∨ (s_CHILD_77_t0) = 1 := by
  unfold s_CHILD_77_t0
  repeat' split
  all_goals first | exact Or.inl rfl | exact Or.inr rfl
theorem z01_s_CHILD_73_t0  : (s_CHILD_73_t0) = 0 ∨ (s_CHILD_73_t0) = 1 := by
  unfold s_CHILD_73_t0
  repeat' split
  all_goals first | exact Or.inl rfl | exact Or.inr rfl
theorem z01_s_CHILD_61_t0 (i1 : Int32) (i2 : Int32) (i3 : Int32) : (s_CHILD_61_t0 i1 i2 i3) = 0 ∨ (s_CHILD_61_t0 i1 i2 i3) = 1 := by
  unfold s_CHILD_61_t0
  repeat' split
  all_goals first | exact Or.inl rfl | exact Or.inr rfl | exact z01_s_CHILD_77_t0  | exact z01_s_CHILD_73_t0 
theorem nz_s_CHILD (p1 : Int32) : nar .boolean (s_CHILD_61_t0 p1 (1 : Int32) (0 : Int32)) = (s_CHILD_61_t0 p1 (1 : Int32) (0 : Int32)) := by rcases z01_s_CHILD_61_t0 p1 (1 : Int32) (0 : Int32) with h | h <;> rw [h] <;> rfl
theorem pn_0 : plainName "com/example/node_sieve/nodesieve/Axis" = true := by first | (simp [plainName, overriddenIn]; done) | decide +kernel
theorem ef_rm1_CHILD (m : MethodId) (x0 : Addr) (x1 : Int32) : entryFrame m #[(.ref x0), (.int x1)] 4 = mkF m 0 #[.val (.ref x0), .val (.int x1), .unset, .unset] [] := by first | (simp [entryFrame, mkF, argsToLocals, Value.category]; done) | rfl
def Q_rm1_CHILD (Z : State) (o0 : Addr) (p1 : Int32) (x_ATTRIBUTE x_NAMESPACE x_SELF x_DESCENDANT x_DESCENDANT_OR_SELF x_SUBTREE_ATTRIBUTE : Addr) (h0 : Heap) (n0 : Nat) (v : Option Value) (h : Heap) (L : List Loc) : Prop := v = some (.int (s_CHILD_61_t0 p1 (1 : Int32) (0 : Int32))) ∧ Fr n0 L ∧ h = h0
set_option maxRecDepth 65536 in
set_option maxHeartbeats 40000000 in
theorem rm1_CHILD (l : Launch) (Z : State) (a0 : Array Value) (hw : ∀ d ∈ tables_1, d.before a0 Z = true) (ws : List Jvm.Cond) (o0 : Addr) (p1 : Int32) (x_ATTRIBUTE x_NAMESPACE x_SELF x_DESCENDANT x_DESCENDANT_OR_SELF x_SUBTREE_ATTRIBUTE : Addr) (h0 : Heap) (n0 : Nat) (Z0 : n0 ≤ h0.size) (S_CHILD : Sta Z h0 "com/example/node_sieve/nodesieve/Axis" "CHILD" "Lcom/example/node_sieve/nodesieve/Axis;" (.ref o0)) (S_ATTRIBUTE : Sta Z h0 "com/example/node_sieve/nodesieve/Axis" "ATTRIBUTE" "Lcom/example/node_sieve/nodesieve/Axis;" (.ref x_ATTRIBUTE)) (S_NAMESPACE : Sta Z h0 "com/example/node_sieve/nodesieve/Axis" "NAMESPACE" "Lcom/example/node_sieve/nodesieve/Axis;" (.ref x_NAMESPACE)) (S_SELF : Sta Z h0 "com/example/node_sieve/nodesieve/Axis" "SELF" "Lcom/example/node_sieve/nodesieve/Axis;" (.ref x_SELF)) (S_DESCENDANT : Sta Z h0 "com/example/node_sieve/nodesieve/Axis" "DESCENDANT" "Lcom/example/node_sieve/nodesieve/Axis;" (.ref x_DESCENDANT)) (S_DESCENDANT_OR_SELF : Sta Z h0 "com/example/node_sieve/nodesieve/Axis" "DESCENDANT_OR_SELF" "Lcom/example/node_sieve/nodesieve/Axis;" (.ref x_DESCENDANT_OR_SELF)) (S_SUBTREE_ATTRIBUTE : Sta Z h0 "com/example/node_sieve/nodesieve/Axis" "SUBTREE_ATTRIBUTE" "Lcom/example/node_sieve/nodesieve/Axis;" (.ref x_SUBTREE_ATTRIBUTE)) (ne_ATTRIBUTE : ¬ o0 = x_ATTRIBUTE) (ne_NAMESPACE : ¬ o0 = x_NAMESPACE) (ne_SELF : ¬ o0 = x_SELF) (ne_DESCENDANT : ¬ o0 = x_DESCENDANT) (ne_DESCENDANT_OR_SELF : ¬ o0 = x_DESCENDANT_OR_SELF) (ne_SUBTREE_ATTRIBUTE : ¬ o0 = x_SUBTREE_ATTRIBUTE) :
    MetFree l (⟨"com/example/node_sieve/nodesieve/Axis", "selectsOnce", "(Z)Z"⟩ : MethodName) (head1 (Jvm.Cond.code (⟨"com/example/node_sieve/nodesieve/Axis", "selectsOnce", "(Z)Z"⟩ : MethodName) prog_1_method_8_code 4 (some .boolean) :: ws) ({ frames := 0, cells := 0, slots := 0, locals := 0 } : Room)) (fun a U => a = #[(.ref o0), (.int p1)] ∧ Z.Warmed39 U.vm ∧ U.heap = h0) (fun _ _ _ _ _ => True) (fun _ U o U' => ∃ v L, o = .returned v ∧ Q_rm1_CHILD Z o0 p1 x_ATTRIBUTE x_NAMESPACE x_SELF x_DESCENDANT x_DESCENDANT_OR_SELF x_SUBTREE_ATTRIBUTE h0 n0 v U'.heap L ∧ FrameEnd U o U' L ({ frames := 0, cells := 0, slots := 0, locals := 0 } : Room).cells ({ frames := 0, cells := 0, slots := 0, locals := 0 } : Room).slots) := by
  refine MetFree.of_bodySF (plainFor_of_name pn_0) hisR ?_
  intro p e s m args below meth c s₁ Bd hml0 hP hK
  obtain ⟨rfl, hZ, hh⟩ := hP
  have hx := Bd.exec
  have hby := Bd.bytes
  have hml : c.maxLocals = 4 := hml0
  have hown : s.vm.findClass "com/example/node_sieve/nodesieve/Axis" = some m.cls := findClass_of_methodNamed Bd.named
  have hnm := (name_of_methodNamed Bd.named Bd.method).1
  have X0 : Stand p l e ({ frames := 0, cells := 0, slots := 0, locals := 0 } : Room) s m #[(.ref o0), (.int p1)] below meth c s₁ [] 0 0 := Stand.of_body Bd
  have e0 : s₁.heap = h0 := by rw [← hh, Bd.state]; rfl
  have N0 := Fr.nil n0
  have c0 : ∀ τ, Steps p.tables e below (s₁.setTop (mkF m 0 #[.val (.ref o0), .val (.int p1), .unset, .unset] [])) τ → Steps p.tables e below (s₁.setTop (entryFrame m #[(.ref o0), (.int p1)] 4)) τ := fun τ κ => castTop (ef_rm1_CHILD m o0 p1) κ
  have c1 : ∀ τ, Steps p.tables e below (s₁.setTop (mkF m 1 #[.val (.ref o0), .val (.int p1), .unset, .unset] [(.ref o0)])) τ → Steps p.tables e below (s₁.setTop (entryFrame m #[(.ref o0), (.int p1)] 4)) τ := fun τ κ => c0 τ (by
      show Steps p.tables e below (s₁.setTop (mkF m 0 #[.val (.ref o0), .val (.int p1), .unset, .unset] [])) _
      refine XS.aloadN X0.here hx rfl (hb hby d1_0) rfl rfl ?_
      exact κ)
  obtain ⟨T2, X2, e2, st2⟩ := getS2 X0 hx hZ hown (host := "") (Or.inl (hw _ (List.mem_of_getElem? (i := 51) rfl))) Via.refl e0 S_CHILD (g := (mkF m 1 #[.val (.ref o0), .val (.int p1), .unset, .unset] [(.ref o0)])) rfl (hb hby d1_1)
  have c3 : ∀ τ, Steps p.tables e below (T2.setTop (mkF m 4 #[.val (.ref o0), .val (.int p1), .unset, .unset] [(.ref o0), (.ref o0)])) τ → Steps p.tables e below (s₁.setTop (entryFrame m #[(.ref o0), (.int p1)] 4)) τ := fun τ κ => c1 τ (st2 τ κ)
  have c4 : ∀ τ, Steps p.tables e below (T2.setTop (mkF m 35 #[.val (.ref o0), .val (.int p1), .val (.int (1 : Int32)), .unset] [(.ref o0)])) τ → Steps p.tables e below (s₁.setTop (entryFrame m #[(.ref o0), (.int p1)] 4)) τ := fun τ κ => c3 τ (by
      show Steps p.tables e below (T2.setTop (mkF m 4 #[.val (.ref o0), .val (.int p1), .unset, .unset] [(.ref o0), (.ref o0)])) _
      refine Jvm.RoadKit.acmp (g := (mkF m 4 #[.val (.ref o0), .val (.int p1), .unset, .unset] [(.ref o0), (.ref o0)])) X2 hx rfl rfl rfl (pc0 := 4) (pc' := 28) (same := true) rfl (hb hby d1_4) rfl (decide_eq_true (congrArg Value.ref (rfl : o0 = o0))) (by decide) (by decide) ?_
      show Steps p.tables e below (T2.setTop (mkF m 28 #[.val (.ref o0), .val (.int p1), .unset, .unset] [])) _
      refine XS.iconst X2.here hx rfl (hb hby d1_28) ?_
      show Steps p.tables e below (T2.setTop (mkF m 29 #[.val (.ref o0), .val (.int p1), .unset, .unset] [(.int (1 : Int32))])) _
      refine XS.goto X2.here hx rfl (pc0 := 29) (pc' := 33) rfl (hb hby d1_29) (by decide) (by decide) ?_
      show Steps p.tables e below (T2.setTop (mkF m 33 #[.val (.ref o0), .val (.int p1), .unset, .unset] [(.int (1 : Int32))])) _
      refine XS.istoreN X2.here hx rfl (hb hby d1_33) rfl (l' := #[.val (.ref o0), .val (.int p1), .val (.int (1 : Int32)), .unset]) rfl ?_
      show Steps p.tables e below (T2.setTop (mkF m 34 #[.val (.ref o0), .val (.int p1), .val (.int (1 : Int32)), .unset] [])) _
      refine XS.aloadN X2.here hx rfl (hb hby d1_34) rfl rfl ?_
      exact κ)
  obtain ⟨T5, X5, e5, st5⟩ := getS2 X2 hx hZ hown (host := "") (Or.inl (hw _ (List.mem_of_getElem? (i := 52) rfl))) Via.refl e2 S_DESCENDANT (g := (mkF m 35 #[.val (.ref o0), .val (.int p1), .val (.int (1 : Int32)), .unset] [(.ref o0)])) rfl (hb hby d1_35)
  have c6 : ∀ τ, Steps p.tables e below (T5.setTop (mkF m 38 #[.val (.ref o0), .val (.int p1), .val (.int (1 : Int32)), .unset] [(.ref x_DESCENDANT), (.ref o0)])) τ → Steps p.tables e below (s₁.setTop (entryFrame m #[(.ref o0), (.int p1)] 4)) τ := fun τ κ => c4 τ (st5 τ κ)
  have c7 : ∀ τ, Steps p.tables e below (T5.setTop (mkF m 42 #[.val (.ref o0), .val (.int p1), .val (.int (1 : Int32)), .unset] [(.ref o0)])) τ → Steps p.tables e below (s₁.setTop (entryFrame m #[(.ref o0), (.int p1)] 4)) τ := fun τ κ => c6 τ (by
      show Steps p.tables e below (T5.setTop (mkF m 38 #[.val (.ref o0), .val (.int p1), .val (.int (1 : Int32)), .unset] [(.ref x_DESCENDANT), (.ref o0)])) _
      refine Jvm.RoadKit.acmp (g := (mkF m 38 #[.val (.ref o0), .val (.int p1), .val (.int (1 : Int32)), .unset] [(.ref x_DESCENDANT), (.ref o0)])) X5 hx rfl rfl rfl (pc0 := 38) (pc' := 41) (same := false) rfl (hb hby d1_38) rfl (decide_eq_false fun q => ne_DESCENDANT (Value.ref.inj q)) (by decide) (by decide) ?_
      show Steps p.tables e below (T5.setTop (mkF m 41 #[.val (.ref o0), .val (.int p1), .val (.int (1 : Int32)), .unset] [])) _
      refine XS.aloadN X5.here hx rfl (hb hby d1_41) rfl rfl ?_
      exact κ)
  obtain ⟨T8, X8, e8, st8⟩ := getS2 X5 hx hZ hown (host := "") (Or.inl (hw _ (List.mem_of_getElem? (i := 53) rfl))) Via.refl e5 S_DESCENDANT_OR_SELF (g := (mkF m 42 #[.val (.ref o0), .val (.int p1), .val (.int (1 : Int32)), .unset] [(.ref o0)])) rfl (hb hby d1_42)
  have c9 : ∀ τ, Steps p.tables e below (T8.setTop (mkF m 45 #[.val (.ref o0), .val (.int p1), .val (.int (1 : Int32)), .unset] [(.ref x_DESCENDANT_OR_SELF), (.ref o0)])) τ → Steps p.tables e below (s₁.setTop (entryFrame m #[(.ref o0), (.int p1)] 4)) τ := fun τ κ => c7 τ (st8 τ κ)
  have c10 : ∀ τ, Steps p.tables e below (T8.setTop (mkF m 49 #[.val (.ref o0), .val (.int p1), .val (.int (1 : Int32)), .unset] [(.ref o0)])) τ → Steps p.tables e below (s₁.setTop (entryFrame m #[(.ref o0), (.int p1)] 4)) τ := fun τ κ => c9 τ (by
      show Steps p.tables e below (T8.setTop (mkF m 45 #[.val (.ref o0), .val (.int p1), .val (.int (1 : Int32)), .unset] [(.ref x_DESCENDANT_OR_SELF), (.ref o0)])) _
      refine Jvm.RoadKit.acmp (g := (mkF m 45 #[.val (.ref o0), .val (.int p1), .val (.int (1 : Int32)), .unset] [(.ref x_DESCENDANT_OR_SELF), (.ref o0)])) X8 hx rfl rfl rfl (pc0 := 45) (pc' := 48) (same := false) rfl (hb hby d1_45) rfl (decide_eq_false fun q => ne_DESCENDANT_OR_SELF (Value.ref.inj q)) (by decide) (by decide) ?_
      show Steps p.tables e below (T8.setTop (mkF m 48 #[.val (.ref o0), .val (.int p1), .val (.int (1 : Int32)), .unset] [])) _
      refine XS.aloadN X8.here hx rfl (hb hby d1_48) rfl rfl ?_
      exact κ)
  obtain ⟨T11, X11, e11, st11⟩ := getS2 X8 hx hZ hown (host := "") (Or.inl (hw _ (List.mem_of_getElem? (i := 54) rfl))) Via.refl e8 S_SUBTREE_ATTRIBUTE (g := (mkF m 49 #[.val (.ref o0), .val (.int p1), .val (.int (1 : Int32)), .unset] [(.ref o0)])) rfl (hb hby d1_49)
  have c12 : ∀ τ, Steps p.tables e below (T11.setTop (mkF m 52 #[.val (.ref o0), .val (.int p1), .val (.int (1 : Int32)), .unset] [(.ref x_SUBTREE_ATTRIBUTE), (.ref o0)])) τ → Steps p.tables e below (s₁.setTop (entryFrame m #[(.ref o0), (.int p1)] 4)) τ := fun τ κ => c10 τ (st11 τ κ)
  have c13 : ∀ τ, Steps p.tables e below (T11.setTop (mkF m 61 #[.val (.ref o0), .val (.int p1), .val (.int (1 : Int32)), .val (.int (0 : Int32))] [])) τ → Steps p.tables e below (s₁.setTop (entryFrame m #[(.ref o0), (.int p1)] 4)) τ := fun τ κ => c12 τ (by
      show Steps p.tables e below (T11.setTop (mkF m 52 #[.val (.ref o0), .val (.int p1), .val (.int (1 : Int32)), .unset] [(.ref x_SUBTREE_ATTRIBUTE), (.ref o0)])) _
      refine Jvm.RoadKit.acmp (g := (mkF m 52 #[.val (.ref o0), .val (.int p1), .val (.int (1 : Int32)), .unset] [(.ref x_SUBTREE_ATTRIBUTE), (.ref o0)])) X11 hx rfl rfl rfl (pc0 := 52) (pc' := 59) (same := false) rfl (hb hby d1_52) rfl (decide_eq_false fun q => ne_SUBTREE_ATTRIBUTE (Value.ref.inj q)) (by decide) (by decide) ?_
      show Steps p.tables e below (T11.setTop (mkF m 59 #[.val (.ref o0), .val (.int p1), .val (.int (1 : Int32)), .unset] [])) _
      refine XS.iconst X11.here hx rfl (hb hby d1_59) ?_
      show Steps p.tables e below (T11.setTop (mkF m 60 #[.val (.ref o0), .val (.int p1), .val (.int (1 : Int32)), .unset] [(.int (0 : Int32))])) _
      refine XS.istoreN X11.here hx rfl (hb hby d1_60) rfl (l' := #[.val (.ref o0), .val (.int p1), .val (.int (1 : Int32)), .val (.int (0 : Int32))]) rfl ?_
      exact κ)
  have c14 : ∀ τ, Steps p.tables e below (T11.setTop (mkF m 78 #[.val (.ref o0), .val (.int p1), .val (.int (1 : Int32)), .val (.int (0 : Int32))] [(.int (s_CHILD_61_t0 p1 (1 : Int32) (0 : Int32)))])) τ → Steps p.tables e below (s₁.setTop (entryFrame m #[(.ref o0), (.int p1)] 4)) τ := fun τ κ => c13 τ (s_CHILD_61 o0 p1 (1 : Int32) (0 : Int32) X11 hx hZ hw hby hown κ)
  obtain ⟨fs, hr, hrun, hended, hW, hsame⟩ := X11.leave (v := some (.int (s_CHILD_61_t0 p1 (1 : Int32) (0 : Int32)))) (fun h => by rw [Bd.returns] at h; cases h)
  refine ⟨_, _, c14 _ (retN X11 hx (t := .boolean) Bd.returns (by simp) (hb hby d1_78) (by rw [nz_s_CHILD p1]; exact hr)), hrun, hended, _, _, rfl, ?_, ⟨_, rfl⟩, hW, hsame.mono (by decide) (by decide)⟩
  show Q_rm1_CHILD Z o0 p1 x_ATTRIBUTE x_NAMESPACE x_SELF x_DESCENDANT x_DESCENDANT_OR_SELF x_SUBTREE_ATTRIBUTE h0 n0 _ T11.heap _
  rw [e11]
  exact ⟨rfl, N0, rfl⟩
def s_ATTRIBUTE_77_t0  : Int32 := (0 : Int32)
def s_ATTRIBUTE_73_t0  : Int32 := (1 : Int32)
def s_ATTRIBUTE_61_t0 (i1 : Int32) (i2 : Int32) (i3 : Int32) : Int32 := if i2 = (0 : Int32) then (if i1 = (0 : Int32) then s_ATTRIBUTE_77_t0 else if i3 = (0 : Int32) then s_ATTRIBUTE_77_t0 else s_ATTRIBUTE_73_t0) else s_ATTRIBUTE_73_t0
set_option maxRecDepth 65536 in
set_option maxHeartbeats 40000000 in
theorem s_ATTRIBUTE_77 {p : Program} {l : Launch} {e : Env} {R : Room} {s : State} {m : MethodId} {args : Array Value} {below : List Frame} {meth : Method} {c : Code} {T : State} {locs : List Loc} {cells slots : Nat} {Z : State} {a0 : Array Value} {target : State} (o0 : Addr) (i1 : Int32) (i2 : Int32) (i3 : Int32) (X : Stand p l e R s m args below meth c T locs cells slots) (hx : p.tables.exec = Jvm.exec) (hZ : Z.Warmed39 s.vm) (hw : ∀ d ∈ tables_1, d.before a0 Z = true) (hby : c.code = prog_1_method_8_code) (hown : s.vm.findClass "com/example/node_sieve/nodesieve/Axis" = some m.cls) (k : Steps p.tables e below (T.setTop (mkF m 78 #[.val (.ref o0), .val (.int i1), .val (.int i2), .val (.int i3)] [(.int (s_ATTRIBUTE_77_t0))])) target) :
    Steps p.tables e below (T.setTop (mkF m 77 #[.val (.ref o0), .val (.int i1), .val (.int i2), .val (.int i3)] [])) target := by
  show Steps p.tables e below (T.setTop (mkF m 77 #[.val (.ref o0), .val (.int i1), .val (.int i2), .val (.int i3)] [])) _
  refine XS.iconst X.here hx rfl (hb hby d1_77) ?_
  have e_t0 : (s_ATTRIBUTE_77_t0) = (0 : Int32) := by rfl
  rw [e_t0] at k
  exact k
set_option maxRecDepth 65536 in
set_option maxHeartbeats 40000000 in
theorem s_ATTRIBUTE_73 {p : Program} {l : Launch} {e : Env} {R : Room} {s : State} {m : MethodId} {args : Array Value} {below : List Frame} {meth : Method} {c : Code} {T : State} {locs : List Loc} {cells slots : Nat} {Z : State} {a0 : Array Value} {target : State} (o0 : Addr) (i1 : Int32) (i2 : Int32) (i3 : Int32) (X : Stand p l e R s m args below meth c T locs cells slots) (hx : p.tables.exec = Jvm.exec) (hZ : Z.Warmed39 s.vm) (hw : ∀ d ∈ tables_1, d.before a0 Z = true) (hby : c.code = prog_1_method_8_code) (hown : s.vm.findClass "com/example/node_sieve/nodesieve/Axis" = some m.cls) (k : Steps p.tables e below (T.setTop (mkF m 78 #[.val (.ref o0), .val (.int i1), .val (.int i2), .val (.int i3)] [(.int (s_ATTRIBUTE_73_t0))])) target) :
    Steps p.tables e below (T.setTop (mkF m 73 #[.val (.ref o0), .val (.int i1), .val (.int i2), .val (.int i3)] [])) target := by
  show Steps p.tables e below (T.setTop (mkF m 73 #[.val (.ref o0), .val (.int i1), .val (.int i2), .val (.int i3)] [])) _
  refine XS.iconst X.here hx rfl (hb hby d1_73) ?_
  show Steps p.tables e below (T.setTop (mkF m 74 #[.val (.ref o0), .val (.int i1), .val (.int i2), .val (.int i3)] [(.int (1 : Int32))])) _
  refine XS.goto X.here hx rfl (pc0 := 74) (pc' := 78) rfl (hb hby d1_74) (by decide) (by decide) ?_
  have e_t0 : (s_ATTRIBUTE_73_t0) = (1 : Int32) := by rfl
  rw [e_t0] at k
  exact k
set_option maxRecDepth 65536 in
set_option maxHeartbeats 40000000 in
theorem s_ATTRIBUTE_61 {p : Program} {l : Launch} {e : Env} {R : Room} {s : State} {m : MethodId} {args : Array Value} {below : List Frame} {meth : Method} {c : Code} {T : State} {locs : List Loc} {cells slots : Nat} {Z : State} {a0 : Array Value} {target : State} (o0 : Addr) (i1 : Int32) (i2 : Int32) (i3 : Int32) (X : Stand p l e R s m args below meth c T locs cells slots) (hx : p.tables.exec = Jvm.exec) (hZ : Z.Warmed39 s.vm) (hw : ∀ d ∈ tables_1, d.before a0 Z = true) (hby : c.code = prog_1_method_8_code) (hown : s.vm.findClass "com/example/node_sieve/nodesieve/Axis" = some m.cls) (k : Steps p.tables e below (T.setTop (mkF m 78 #[.val (.ref o0), .val (.int i1), .val (.int i2), .val (.int i3)] [(.int (s_ATTRIBUTE_61_t0 i1 i2 i3))])) target) :
    Steps p.tables e below (T.setTop (mkF m 61 #[.val (.ref o0), .val (.int i1), .val (.int i2), .val (.int i3)] [])) target := by
  show Steps p.tables e below (T.setTop (mkF m 61 #[.val (.ref o0), .val (.int i1), .val (.int i2), .val (.int i3)] [])) _
  refine XS.iloadN X.here hx rfl (hb hby d1_61) rfl ?_
  show Steps p.tables e below (T.setTop (mkF m 62 #[.val (.ref o0), .val (.int i1), .val (.int i2), .val (.int i3)] [(.int i2)])) _
  by_cases q62 : i2 = (0 : Int32)
  · refine XS.ifNo X.here hx rfl (hb hby d1_62) rfl ((if0 _ _).trans (teq q62).2) ?_
    show Steps p.tables e below (T.setTop (mkF m 65 #[.val (.ref o0), .val (.int i1), .val (.int i2), .val (.int i3)] [])) _
    refine XS.iloadN X.here hx rfl (hb hby d1_65) rfl ?_
    show Steps p.tables e below (T.setTop (mkF m 66 #[.val (.ref o0), .val (.int i1), .val (.int i2), .val (.int i3)] [(.int i1)])) _
    by_cases q66 : i1 = (0 : Int32)
    · refine XS.ifYes X.here hx rfl (pc0 := 66) (pc' := 77) rfl (hb hby d1_66) rfl ((if0 _ _).trans (teq q66).1) (by decide) (by decide) ?_
      have e_t0 : (s_ATTRIBUTE_61_t0 i1 i2 i3) = s_ATTRIBUTE_77_t0 := by unfold s_ATTRIBUTE_61_t0; rw [if_pos q62, if_pos q66]
      rw [e_t0] at k
      exact s_ATTRIBUTE_77 o0 i1 i2 i3 X hx hZ hw hby hown k
    · refine XS.ifNo X.here hx rfl (hb hby d1_66) rfl ((if0 _ _).trans (feq q66).1) ?_
      show Steps p.tables e below (T.setTop (mkF m 69 #[.val (.ref o0), .val (.int i1), .val (.int i2), .val (.int i3)] [])) _
      refine XS.iloadN X.here hx rfl (hb hby d1_69) rfl ?_
      show Steps p.tables e below (T.setTop (mkF m 70 #[.val (.ref o0), .val (.int i1), .val (.int i2), .val (.int i3)] [(.int i3)])) _
      by_cases q70 : i3 = (0 : Int32)
      · refine XS.ifYes X.here hx rfl (pc0 := 70) (pc' := 77) rfl (hb hby d1_70) rfl ((if0 _ _).trans (teq q70).1) (by decide) (by decide) ?_
        have e_t0 : (s_ATTRIBUTE_61_t0 i1 i2 i3) = s_ATTRIBUTE_77_t0 := by unfold s_ATTRIBUTE_61_t0; rw [if_pos q62, if_neg q66, if_pos q70]
        rw [e_t0] at k
        exact s_ATTRIBUTE_77 o0 i1 i2 i3 X hx hZ hw hby hown k
      · refine XS.ifNo X.here hx rfl (hb hby d1_70) rfl ((if0 _ _).trans (feq q70).1) ?_
        have e_t0 : (s_ATTRIBUTE_61_t0 i1 i2 i3) = s_ATTRIBUTE_73_t0 := by unfold s_ATTRIBUTE_61_t0; rw [if_pos q62, if_neg q66, if_neg q70]
        rw [e_t0] at k
        exact s_ATTRIBUTE_73 o0 i1 i2 i3 X hx hZ hw hby hown k
  · refine XS.ifYes X.here hx rfl (pc0 := 62) (pc' := 73) rfl (hb hby d1_62) rfl ((if0 _ _).trans (feq q62).2) (by decide) (by decide) ?_
    have e_t0 : (s_ATTRIBUTE_61_t0 i1 i2 i3) = s_ATTRIBUTE_73_t0 := by unfold s_ATTRIBUTE_61_t0; rw [if_neg q62]
    rw [e_t0] at k
    exact s_ATTRIBUTE_73 o0 i1 i2 i3 X hx hZ hw hby hown k
theorem z01_s_ATTRIBUTE_77_t0  : (s_ATTRIBUTE_77_t0) = 0 ∨ (s_ATTRIBUTE_77_t0) = 1 := by
  unfold s_ATTRIBUTE_77_t0
  repeat' split
  all_goals first | exact Or.inl rfl | exact Or.inr rfl
theorem z01_s_ATTRIBUTE_73_t0  : (s_ATTRIBUTE_73_t0) = 0 ∨ (s_ATTRIBUTE_73_t0) = 1 := by
  unfold s_ATTRIBUTE_73_t0
  repeat' split
  all_goals first | exact Or.inl rfl | exact Or.inr rfl
theorem z01_s_ATTRIBUTE_61_t0 (i1 : Int32) (i2 : Int32) (i3 : Int32) : (s_ATTRIBUTE_61_t0 i1 i2 i3) = 0 ∨ (s_ATTRIBUTE_61_t0 i1 i2 i3) = 1 := by
  unfold s_ATTRIBUTE_61_t0
  repeat' split
  all_goals first | exact Or.inl rfl | exact Or.inr rfl | exact z01_s_ATTRIBUTE_77_t0  | exact z01_s_ATTRIBUTE_73_t0 
theorem nz_s_ATTRIBUTE (p1 : Int32) : nar .boolean (s_ATTRIBUTE_61_t0 p1 (1 : Int32) (0 : Int32)) = (s_ATTRIBUTE_61_t0 p1 (1 : Int32) (0 : Int32)) := by rcases z01_s_ATTRIBUTE_61_t0 p1 (1 : Int32) (0 : Int32) with h | h <;> rw [h] <;> rfl
theorem ef_rm1_ATTRIBUTE (m : MethodId) (x0 : Addr) (x1 : Int32) : entryFrame m #[(.ref x0), (.int x1)] 4 = mkF m 0 #[.val (.ref x0), .val (.int x1), .unset, .unset] [] := by first | (simp [entryFrame, mkF, argsToLocals, Value.category]; done) | rfl
def Q_rm1_ATTRIBUTE (Z : State) (o0 : Addr) (p1 : Int32) (x_CHILD x_NAMESPACE x_SELF x_DESCENDANT x_DESCENDANT_OR_SELF x_SUBTREE_ATTRIBUTE : Addr) (h0 : Heap) (n0 : Nat) (v : Option Value) (h : Heap) (L : List Loc) : Prop := v = some (.int (s_ATTRIBUTE_61_t0 p1 (1 : Int32) (0 : Int32))) ∧ Fr n0 L ∧ h = h0
set_option maxRecDepth 65536 in
set_option maxHeartbeats 40000000 in
theorem rm1_ATTRIBUTE (l : Launch) (Z : State) (a0 : Array Value) (hw : ∀ d ∈ tables_1, d.before a0 Z = true) (ws : List Jvm.Cond) (o0 : Addr) (p1 : Int32) (x_CHILD x_NAMESPACE x_SELF x_DESCENDANT x_DESCENDANT_OR_SELF x_SUBTREE_ATTRIBUTE : Addr) (h0 : Heap) (n0 : Nat) (Z0 : n0 ≤ h0.size) (S_CHILD : Sta Z h0 "com/example/node_sieve/nodesieve/Axis" "CHILD" "Lcom/example/node_sieve/nodesieve/Axis;" (.ref x_CHILD)) (S_ATTRIBUTE : Sta Z h0 "com/example/node_sieve/nodesieve/Axis" "ATTRIBUTE" "Lcom/example/node_sieve/nodesieve/Axis;" (.ref o0)) (S_NAMESPACE : Sta Z h0 "com/example/node_sieve/nodesieve/Axis" "NAMESPACE" "Lcom/example/node_sieve/nodesieve/Axis;" (.ref x_NAMESPACE)) (S_SELF : Sta Z h0 "com/example/node_sieve/nodesieve/Axis" "SELF" "Lcom/example/node_sieve/nodesieve/Axis;" (.ref x_SELF)) (S_DESCENDANT : Sta Z h0 "com/example/node_sieve/nodesieve/Axis" "DESCENDANT" "Lcom/example/node_sieve/nodesieve/Axis;" (.ref x_DESCENDANT)) (S_DESCENDANT_OR_SELF : Sta Z h0 "com/example/node_sieve/nodesieve/Axis" "DESCENDANT_OR_SELF" "Lcom/example/node_sieve/nodesieve/Axis;" (.ref x_DESCENDANT_OR_SELF)) (S_SUBTREE_ATTRIBUTE : Sta Z h0 "com/example/node_sieve/nodesieve/Axis" "SUBTREE_ATTRIBUTE" "Lcom/example/node_sieve/nodesieve/Axis;" (.ref x_SUBTREE_ATTRIBUTE)) (ne_CHILD : ¬ o0 = x_CHILD) (ne_NAMESPACE : ¬ o0 = x_NAMESPACE) (ne_SELF : ¬ o0 = x_SELF) (ne_DESCENDANT : ¬ o0 = x_DESCENDANT) (ne_DESCENDANT_OR_SELF : ¬ o0 = x_DESCENDANT_OR_SELF) (ne_SUBTREE_ATTRIBUTE : ¬ o0 = x_SUBTREE_ATTRIBUTE) :
    MetFree l (⟨"com/example/node_sieve/nodesieve/Axis", "selectsOnce", "(Z)Z"⟩ : MethodName) (head1 (Jvm.Cond.code (⟨"com/example/node_sieve/nodesieve/Axis", "selectsOnce", "(Z)Z"⟩ : MethodName) prog_1_method_8_code 4 (some .boolean) :: ws) ({ frames := 0, cells := 0, slots := 0, locals := 0 } : Room)) (fun a U => a = #[(.ref o0), (.int p1)] ∧ Z.Warmed39 U.vm ∧ U.heap = h0) (fun _ _ _ _ _ => True) (fun _ U o U' => ∃ v L, o = .returned v ∧ Q_rm1_ATTRIBUTE Z o0 p1 x_CHILD x_NAMESPACE x_SELF x_DESCENDANT x_DESCENDANT_OR_SELF x_SUBTREE_ATTRIBUTE h0 n0 v U'.heap L ∧ FrameEnd U o U' L ({ frames := 0, cells := 0, slots := 0, locals := 0 } : Room).cells ({ frames := 0, cells := 0, slots := 0, locals := 0 } : Room).slots) := by
  refine MetFree.of_bodySF (plainFor_of_name pn_0) hisR ?_
  intro p e s m args below meth c s₁ Bd hml0 hP hK
  obtain ⟨rfl, hZ, hh⟩ := hP
  have hx := Bd.exec
  have hby := Bd.bytes
  have hml : c.maxLocals = 4 := hml0
  have hown : s.vm.findClass "com/example/node_sieve/nodesieve/Axis" = some m.cls := findClass_of_methodNamed Bd.named
  have hnm := (name_of_methodNamed Bd.named Bd.method).1
  have X0 : Stand p l e ({ frames := 0, cells := 0, slots := 0, locals := 0 } : Room) s m #[(.ref o0), (.int p1)] below meth c s₁ [] 0 0 := Stand.of_body Bd
  have e0 : s₁.heap = h0 := by rw [← hh, Bd.state]; rfl
  have N0 := Fr.nil n0
  have c0 : ∀ τ, Steps p.tables e below (s₁.setTop (mkF m 0 #[.val (.ref o0), .val (.int p1), .unset, .unset] [])) τ → Steps p.tables e below (s₁.setTop (entryFrame m #[(.ref o0), (.int p1)] 4)) τ := fun τ κ => castTop (ef_rm1_ATTRIBUTE m o0 p1) κ
  have c1 : ∀ τ, Steps p.tables e below (s₁.setTop (mkF m 1 #[.val (.ref o0), .val (.int p1), .unset, .unset] [(.ref o0)])) τ → Steps p.tables e below (s₁.setTop (entryFrame m #[(.ref o0), (.int p1)] 4)) τ := fun τ κ => c0 τ (by
      show Steps p.tables e below (s₁.setTop (mkF m 0 #[.val (.ref o0), .val (.int p1), .unset, .unset] [])) _
      refine XS.aloadN X0.here hx rfl (hb hby d1_0) rfl rfl ?_
      exact κ)
  obtain ⟨T2, X2, e2, st2⟩ := getS2 X0 hx hZ hown (host := "") (Or.inl (hw _ (List.mem_of_getElem? (i := 51) rfl))) Via.refl e0 S_CHILD (g := (mkF m 1 #[.val (.ref o0), .val (.int p1), .unset, .unset] [(.ref o0)])) rfl (hb hby d1_1)
  have c3 : ∀ τ, Steps p.tables e below (T2.setTop (mkF m 4 #[.val (.ref o0), .val (.int p1), .unset, .unset] [(.ref x_CHILD), (.ref o0)])) τ → Steps p.tables e below (s₁.setTop (entryFrame m #[(.ref o0), (.int p1)] 4)) τ := fun τ κ => c1 τ (st2 τ κ)
  have c4 : ∀ τ, Steps p.tables e below (T2.setTop (mkF m 8 #[.val (.ref o0), .val (.int p1), .unset, .unset] [(.ref o0)])) τ → Steps p.tables e below (s₁.setTop (entryFrame m #[(.ref o0), (.int p1)] 4)) τ := fun τ κ => c3 τ (by
      show Steps p.tables e below (T2.setTop (mkF m 4 #[.val (.ref o0), .val (.int p1), .unset, .unset] [(.ref x_CHILD), (.ref o0)])) _
      refine Jvm.RoadKit.acmp (g := (mkF m 4 #[.val (.ref o0), .val (.int p1), .unset, .unset] [(.ref x_CHILD), (.ref o0)])) X2 hx rfl rfl rfl (pc0 := 4) (pc' := 7) (same := false) rfl (hb hby d1_4) rfl (decide_eq_false fun q => ne_CHILD (Value.ref.inj q)) (by decide) (by decide) ?_
      show Steps p.tables e below (T2.setTop (mkF m 7 #[.val (.ref o0), .val (.int p1), .unset, .unset] [])) _
      refine XS.aloadN X2.here hx rfl (hb hby d1_7) rfl rfl ?_
      exact κ)
  obtain ⟨T5, X5, e5, st5⟩ := getS2 X2 hx hZ hown (host := "") (Or.inl (hw _ (List.mem_of_getElem? (i := 56) rfl))) Via.refl e2 S_ATTRIBUTE (g := (mkF m 8 #[.val (.ref o0), .val (.int p1), .unset, .unset] [(.ref o0)])) rfl (hb hby d1_8)
  have c6 : ∀ τ, Steps p.tables e below (T5.setTop (mkF m 11 #[.val (.ref o0), .val (.int p1), .unset, .unset] [(.ref o0), (.ref o0)])) τ → Steps p.tables e below (s₁.setTop (entryFrame m #[(.ref o0), (.int p1)] 4)) τ := fun τ κ => c4 τ (st5 τ κ)
  have c7 : ∀ τ, Steps p.tables e below (T5.setTop (mkF m 35 #[.val (.ref o0), .val (.int p1), .val (.int (1 : Int32)), .unset] [(.ref o0)])) τ → Steps p.tables e below (s₁.setTop (entryFrame m #[(.ref o0), (.int p1)] 4)) τ := fun τ κ => c6 τ (by
      show Steps p.tables e below (T5.setTop (mkF m 11 #[.val (.ref o0), .val (.int p1), .unset, .unset] [(.ref o0), (.ref o0)])) _
      refine Jvm.RoadKit.acmp (g := (mkF m 11 #[.val (.ref o0), .val (.int p1), .unset, .unset] [(.ref o0), (.ref o0)])) X5 hx rfl rfl rfl (pc0 := 11) (pc' := 28) (same := true) rfl (hb hby d1_11) rfl (decide_eq_true (congrArg Value.ref (rfl : o0 = o0))) (by decide) (by decide) ?_
      show Steps p.tables e below (T5.setTop (mkF m 28 #[.val (.ref o0), .val (.int p1), .unset, .unset] [])) _
      refine XS.iconst X5.here hx rfl (hb hby d1_28) ?_
      show Steps p.tables e below (T5.setTop (mkF m 29 #[.val (.ref o0), .val (.int p1), .unset, .unset] [(.int (1 : Int32))])) _
      refine XS.goto X5.here hx rfl (pc0 := 29) (pc' := 33) rfl (hb hby d1_29) (by decide) (by decide) ?_
      show Steps p.tables e below (T5.setTop (mkF m 33 #[.val (.ref o0), .val (.int p1), .unset, .unset] [(.int (1 : Int32))])) _
      refine XS.istoreN X5.here hx rfl (hb hby d1_33) rfl (l' := #[.val (.ref o0), .val (.int p1), .val (.int (1 : Int32)), .unset]) rfl ?_
      show Steps p.tables e below (T5.setTop (mkF m 34 #[.val (.ref o0), .val (.int p1), .val (.int (1 : Int32)), .unset] [])) _
      refine XS.aloadN X5.here hx rfl (hb hby d1_34) rfl rfl ?_
      exact κ)
  obtain ⟨T8, X8, e8, st8⟩ := getS2 X5 hx hZ hown (host := "") (Or.inl (hw _ (List.mem_of_getElem? (i := 52) rfl))) Via.refl e5 S_DESCENDANT (g := (mkF m 35 #[.val (.ref o0), .val (.int p1), .val (.int (1 : Int32)), .unset] [(.ref o0)])) rfl (hb hby d1_35)
  have c9 : ∀ τ, Steps p.tables e below (T8.setTop (mkF m 38 #[.val (.ref o0), .val (.int p1), .val (.int (1 : Int32)), .unset] [(.ref x_DESCENDANT), (.ref o0)])) τ → Steps p.tables e below (s₁.setTop (entryFrame m #[(.ref o0), (.int p1)] 4)) τ := fun τ κ => c7 τ (st8 τ κ)
  have c10 : ∀ τ, Steps p.tables e below (T8.setTop (mkF m 42 #[.val (.ref o0), .val (.int p1), .val (.int (1 : Int32)), .unset] [(.ref o0)])) τ → Steps p.tables e below (s₁.setTop (entryFrame m #[(.ref o0), (.int p1)] 4)) τ := fun τ κ => c9 τ (by
      show Steps p.tables e below (T8.setTop (mkF m 38 #[.val (.ref o0), .val (.int p1), .val (.int (1 : Int32)), .unset] [(.ref x_DESCENDANT), (.ref o0)])) _
      refine Jvm.RoadKit.acmp (g := (mkF m 38 #[.val (.ref o0), .val (.int p1), .val (.int (1 : Int32)), .unset] [(.ref x_DESCENDANT), (.ref o0)])) X8 hx rfl rfl rfl (pc0 := 38) (pc' := 41) (same := false) rfl (hb hby d1_38) rfl (decide_eq_false fun q => ne_DESCENDANT (Value.ref.inj q)) (by decide) (by decide) ?_
      show Steps p.tables e below (T8.setTop (mkF m 41 #[.val (.ref o0), .val (.int p1), .val (.int (1 : Int32)), .unset] [])) _
      refine XS.aloadN X8.here hx rfl (hb hby d1_41) rfl rfl ?_
      exact κ)
  obtain ⟨T11, X11, e11, st11⟩ := getS2 X8 hx hZ hown (host := "") (Or.inl (hw _ (List.mem_of_getElem? (i := 53) rfl))) Via.refl e8 S_DESCENDANT_OR_SELF (g := (mkF m 42 #[.val (.ref o0), .val (.int p1), .val (.int (1 : Int32)), .unset] [(.ref o0)])) rfl (hb hby d1_42)
  have c12 : ∀ τ, Steps p.tables e below (T11.setTop (mkF m 45 #[.val (.ref o0), .val (.int p1), .val (.int (1 : Int32)), .unset] [(.ref x_DESCENDANT_OR_SELF), (.ref o0)])) τ → Steps p.tables e below (s₁.setTop (entryFrame m #[(.ref o0), (.int p1)] 4)) τ := fun τ κ => c10 τ (st11 τ κ)
  have c13 : ∀ τ, Steps p.tables e below (T11.setTop (mkF m 49 #[.val (.ref o0), .val (.int p1), .val (.int (1 : Int32)), .unset] [(.ref o0)])) τ → Steps p.tables e below (s₁.setTop (entryFrame m #[(.ref o0), (.int p1)] 4)) τ := fun τ κ => c12 τ (by
      show Steps p.tables e below (T11.setTop (mkF m 45 #[.val (.ref o0), .val (.int p1), .val (.int (1 : Int32)), .unset] [(.ref x_DESCENDANT_OR_SELF), (.ref o0)])) _
      refine Jvm.RoadKit.acmp (g := (mkF m 45 #[.val (.ref o0), .val (.int p1), .val (.int (1 : Int32)), .unset] [(.ref x_DESCENDANT_OR_SELF), (.ref o0)])) X11 hx rfl rfl rfl (pc0 := 45) (pc' := 48) (same := false) rfl (hb hby d1_45) rfl (decide_eq_false fun q => ne_DESCENDANT_OR_SELF (Value.ref.inj q)) (by decide) (by decide) ?_
      show Steps p.tables e below (T11.setTop (mkF m 48 #[.val (.ref o0), .val (.int p1), .val (.int (1 : Int32)), .unset] [])) _
      refine XS.aloadN X11.here hx rfl (hb hby d1_48) rfl rfl ?_
      exact κ)
  obtain ⟨T14, X14, e14, st14⟩ := getS2 X11 hx hZ hown (host := "") (Or.inl (hw _ (List.mem_of_getElem? (i := 54) rfl))) Via.refl e11 S_SUBTREE_ATTRIBUTE (g := (mkF m 49 #[.val (.ref o0), .val (.int p1), .val (.int (1 : Int32)), .unset] [(.ref o0)])) rfl (hb hby d1_49)
  have c15 : ∀ τ, Steps p.tables e below (T14.setTop (mkF m 52 #[.val (.ref o0), .val (.int p1), .val (.int (1 : Int32)), .unset] [(.ref x_SUBTREE_ATTRIBUTE), (.ref o0)])) τ → Steps p.tables e below (s₁.setTop (entryFrame m #[(.ref o0), (.int p1)] 4)) τ := fun τ κ => c13 τ (st14 τ κ)
  have c16 : ∀ τ, Steps p.tables e below (T14.setTop (mkF m 61 #[.val (.ref o0), .val (.int p1), .val (.int (1 : Int32)), .val (.int (0 : Int32))] [])) τ → Steps p.tables e below (s₁.setTop (entryFrame m #[(.ref o0), (.int p1)] 4)) τ := fun τ κ => c15 τ (by
      show Steps p.tables e below (T14.setTop (mkF m 52 #[.val (.ref o0), .val (.int p1), .val (.int (1 : Int32)), .unset] [(.ref x_SUBTREE_ATTRIBUTE), (.ref o0)])) _
      refine Jvm.RoadKit.acmp (g := (mkF m 52 #[.val (.ref o0), .val (.int p1), .val (.int (1 : Int32)), .unset] [(.ref x_SUBTREE_ATTRIBUTE), (.ref o0)])) X14 hx rfl rfl rfl (pc0 := 52) (pc' := 59) (same := false) rfl (hb hby d1_52) rfl (decide_eq_false fun q => ne_SUBTREE_ATTRIBUTE (Value.ref.inj q)) (by decide) (by decide) ?_
      show Steps p.tables e below (T14.setTop (mkF m 59 #[.val (.ref o0), .val (.int p1), .val (.int (1 : Int32)), .unset] [])) _
      refine XS.iconst X14.here hx rfl (hb hby d1_59) ?_
      show Steps p.tables e below (T14.setTop (mkF m 60 #[.val (.ref o0), .val (.int p1), .val (.int (1 : Int32)), .unset] [(.int (0 : Int32))])) _
      refine XS.istoreN X14.here hx rfl (hb hby d1_60) rfl (l' := #[.val (.ref o0), .val (.int p1), .val (.int (1 : Int32)), .val (.int (0 : Int32))]) rfl ?_
      exact κ)
  have c17 : ∀ τ, Steps p.tables e below (T14.setTop (mkF m 78 #[.val (.ref o0), .val (.int p1), .val (.int (1 : Int32)), .val (.int (0 : Int32))] [(.int (s_ATTRIBUTE_61_t0 p1 (1 : Int32) (0 : Int32)))])) τ → Steps p.tables e below (s₁.setTop (entryFrame m #[(.ref o0), (.int p1)] 4)) τ := fun τ κ => c16 τ (s_ATTRIBUTE_61 o0 p1 (1 : Int32) (0 : Int32) X14 hx hZ hw hby hown κ)
  obtain ⟨fs, hr, hrun, hended, hW, hsame⟩ := X14.leave (v := some (.int (s_ATTRIBUTE_61_t0 p1 (1 : Int32) (0 : Int32)))) (fun h => by rw [Bd.returns] at h; cases h)
  refine ⟨_, _, c17 _ (retN X14 hx (t := .boolean) Bd.returns (by simp) (hb hby d1_78) (by rw [nz_s_ATTRIBUTE p1]; exact hr)), hrun, hended, _, _, rfl, ?_, ⟨_, rfl⟩, hW, hsame.mono (by decide) (by decide)⟩
  show Q_rm1_ATTRIBUTE Z o0 p1 x_CHILD x_NAMESPACE x_SELF x_DESCENDANT x_DESCENDANT_OR_SELF x_SUBTREE_ATTRIBUTE h0 n0 _ T14.heap _
  rw [e14]
  exact ⟨rfl, N0, rfl⟩
def s_NAMESPACE_77_t0  : Int32 := (0 : Int32)
def s_NAMESPACE_73_t0  : Int32 := (1 : Int32)
def s_NAMESPACE_61_t0 (i1 : Int32) (i2 : Int32) (i3 : Int32) : Int32 := if i2 = (0 : Int32) then (if i1 = (0 : Int32) then s_NAMESPACE_77_t0 else if i3 = (0 : Int32) then s_NAMESPACE_77_t0 else s_NAMESPACE_73_t0) else s_NAMESPACE_73_t0
set_option maxRecDepth 65536 in
set_option maxHeartbeats 40000000 in
theorem s_NAMESPACE_77 {p : Program} {l : Launch} {e : Env} {R : Room} {s : State} {m : MethodId} {args : Array Value} {below : List Frame} {meth : Method} {c : Code} {T : State} {locs : List Loc} {cells slots : Nat} {Z : State} {a0 : Array Value} {target : State} (o0 : Addr) (i1 : Int32) (i2 : Int32) (i3 : Int32) (X : Stand p l e R s m args below meth c T locs cells slots) (hx : p.tables.exec = Jvm.exec) (hZ : Z.Warmed39 s.vm) (hw : ∀ d ∈ tables_1, d.before a0 Z = true) (hby : c.code = prog_1_method_8_code) (hown : s.vm.findClass "com/example/node_sieve/nodesieve/Axis" = some m.cls) (k : Steps p.tables e below (T.setTop (mkF m 78 #[.val (.ref o0), .val (.int i1), .val (.int i2), .val (.int i3)] [(.int (s_NAMESPACE_77_t0))])) target) :
    Steps p.tables e below (T.setTop (mkF m 77 #[.val (.ref o0), .val (.int i1), .val (.int i2), .val (.int i3)] [])) target := by
  show Steps p.tables e below (T.setTop (mkF m 77 #[.val (.ref o0), .val (.int i1), .val (.int i2), .val (.int i3)] [])) _
  refine XS.iconst X.here hx rfl (hb hby d1_77) ?_
  have e_t0 : (s_NAMESPACE_77_t0) = (0 : Int32) := by rfl
  rw [e_t0] at k
  exact k
set_option maxRecDepth 65536 in
set_option maxHeartbeats 40000000 in
theorem s_NAMESPACE_73 {p : Program} {l : Launch} {e : Env} {R : Room} {s : State} {m : MethodId} {args : Array Value} {below : List Frame} {meth : Method} {c : Code} {T : State} {locs : List Loc} {cells slots : Nat} {Z : State} {a0 : Array Value} {target : State} (o0 : Addr) (i1 : Int32) (i2 : Int32) (i3 : Int32) (X : Stand p l e R s m args below meth c T locs cells slots) (hx : p.tables.exec = Jvm.exec) (hZ : Z.Warmed39 s.vm) (hw : ∀ d ∈ tables_1, d.before a0 Z = true) (hby : c.code = prog_1_method_8_code) (hown : s.vm.findClass "com/example/node_sieve/nodesieve/Axis" = some m.cls) (k : Steps p.tables e below (T.setTop (mkF m 78 #[.val (.ref o0), .val (.int i1), .val (.int i2), .val (.int i3)] [(.int (s_NAMESPACE_73_t0))])) target) :
    Steps p.tables e below (T.setTop (mkF m 73 #[.val (.ref o0), .val (.int i1), .val (.int i2), .val (.int i3)] [])) target := by
  show Steps p.tables e below (T.setTop (mkF m 73 #[.val (.ref o0), .val (.int i1), .val (.int i2), .val (.int i3)] [])) _
  refine XS.iconst X.here hx rfl (hb hby d1_73) ?_
  show Steps p.tables e below (T.setTop (mkF m 74 #[.val (.ref o0), .val (.int i1), .val (.int i2), .val (.int i3)] [(.int (1 : Int32))])) _
  refine XS.goto X.here hx rfl (pc0 := 74) (pc' := 78) rfl (hb hby d1_74) (by decide) (by decide) ?_
  have e_t0 : (s_NAMESPACE_73_t0) = (1 : Int32) := by rfl
  rw [e_t0] at k
  exact k
set_option maxRecDepth 65536 in
set_option maxHeartbeats 40000000 in
theorem s_NAMESPACE_61 {p : Program} {l : Launch} {e : Env} {R : Room} {s : State} {m : MethodId} {args : Array Value} {below : List Frame} {meth : Method} {c : Code} {T : State} {locs : List Loc} {cells slots : Nat} {Z : State} {a0 : Array Value} {target : State} (o0 : Addr) (i1 : Int32) (i2 : Int32) (i3 : Int32) (X : Stand p l e R s m args below meth c T locs cells slots) (hx : p.tables.exec = Jvm.exec) (hZ : Z.Warmed39 s.vm) (hw : ∀ d ∈ tables_1, d.before a0 Z = true) (hby : c.code = prog_1_method_8_code) (hown : s.vm.findClass "com/example/node_sieve/nodesieve/Axis" = some m.cls) (k : Steps p.tables e below (T.setTop (mkF m 78 #[.val (.ref o0), .val (.int i1), .val (.int i2), .val (.int i3)] [(.int (s_NAMESPACE_61_t0 i1 i2 i3))])) target) :
    Steps p.tables e below (T.setTop (mkF m 61 #[.val (.ref o0), .val (.int i1), .val (.int i2), .val (.int i3)] [])) target := by
  show Steps p.tables e below (T.setTop (mkF m 61 #[.val (.ref o0), .val (.int i1), .val (.int i2), .val (.int i3)] [])) _
  refine XS.iloadN X.here hx rfl (hb hby d1_61) rfl ?_
  show Steps p.tables e below (T.setTop (mkF m 62 #[.val (.ref o0), .val (.int i1), .val (.int i2), .val (.int i3)] [(.int i2)])) _
  by_cases q62 : i2 = (0 : Int32)
  · refine XS.ifNo X.here hx rfl (hb hby d1_62) rfl ((if0 _ _).trans (teq q62).2) ?_
    show Steps p.tables e below (T.setTop (mkF m 65 #[.val (.ref o0), .val (.int i1), .val (.int i2), .val (.int i3)] [])) _
    refine XS.iloadN X.here hx rfl (hb hby d1_65) rfl ?_
    show Steps p.tables e below (T.setTop (mkF m 66 #[.val (.ref o0), .val (.int i1), .val (.int i2), .val (.int i3)] [(.int i1)])) _
    by_cases q66 : i1 = (0 : Int32)
    · refine XS.ifYes X.here hx rfl (pc0 := 66) (pc' := 77) rfl (hb hby d1_66) rfl ((if0 _ _).trans (teq q66).1) (by decide) (by decide) ?_
      have e_t0 : (s_NAMESPACE_61_t0 i1 i2 i3) = s_NAMESPACE_77_t0 := by unfold s_NAMESPACE_61_t0; rw [if_pos q62, if_pos q66]
      rw [e_t0] at k
      exact s_NAMESPACE_77 o0 i1 i2 i3 X hx hZ hw hby hown k
    · refine XS.ifNo X.here hx rfl (hb hby d1_66) rfl ((if0 _ _).trans (feq q66).1) ?_
      show Steps p.tables e below (T.setTop (mkF m 69 #[.val (.ref o0), .val (.int i1), .val (.int i2), .val (.int i3)] [])) _
      refine XS.iloadN X.here hx rfl (hb hby d1_69) rfl ?_
      show Steps p.tables e below (T.setTop (mkF m 70 #[.val (.ref o0), .val (.int i1), .val (.int i2), .val (.int i3)] [(.int i3)])) _
      by_cases q70 : i3 = (0 : Int32)
      · refine XS.ifYes X.here hx rfl (pc0 := 70) (pc' := 77) rfl (hb hby d1_70) rfl ((if0 _ _).trans (teq q70).1) (by decide) (by decide) ?_
        have e_t0 : (s_NAMESPACE_61_t0 i1 i2 i3) = s_NAMESPACE_77_t0 := by unfold s_NAMESPACE_61_t0; rw [if_pos q62, if_neg q66, if_pos q70]
        rw [e_t0] at k
        exact s_NAMESPACE_77 o0 i1 i2 i3 X hx hZ hw hby hown k
      · refine XS.ifNo X.here hx rfl (hb hby d1_70) rfl ((if0 _ _).trans (feq q70).1) ?_
        have e_t0 : (s_NAMESPACE_61_t0 i1 i2 i3) = s_NAMESPACE_73_t0 := by unfold s_NAMESPACE_61_t0; rw [if_pos q62, if_neg q66, if_neg q70]
        rw [e_t0] at k
        exact s_NAMESPACE_73 o0 i1 i2 i3 X hx hZ hw hby hown k
  · refine XS.ifYes X.here hx rfl (pc0 := 62) (pc' := 73) rfl (hb hby d1_62) rfl ((if0 _ _).trans (feq q62).2) (by decide) (by decide) ?_
    have e_t0 : (s_NAMESPACE_61_t0 i1 i2 i3) = s_NAMESPACE_73_t0 := by unfold s_NAMESPACE_61_t0; rw [if_neg q62]
    rw [e_t0] at k
    exact s_NAMESPACE_73 o0 i1 i2 i3 X hx hZ hw hby hown k
theorem z01_s_NAMESPACE_77_t0  : (s_NAMESPACE_77_t0) = 0 ∨ (s_NAMESPACE_77_t0) = 1 := by
  unfold s_NAMESPACE_77_t0
  repeat' split
  all_goals first | exact Or.inl rfl | exact Or.inr rfl
theorem z01_s_NAMESPACE_73_t0  : (s_NAMESPACE_73_t0) = 0 ∨ (s_NAMESPACE_73_t0) = 1 := by
  unfold s_NAMESPACE_73_t0
  repeat' split
  all_goals first | exact Or.inl rfl | exact Or.inr rfl
theorem z01_s_NAMESPACE_61_t0 (i1 : Int32) (i2 : Int32) (i3 : Int32) : (s_NAMESPACE_61_t0 i1 i2 i3) = 0 ∨ (s_NAMESPACE_61_t0 i1 i2 i3) = 1 := by
  unfold s_NAMESPACE_61_t0
  repeat' split
  all_goals first | exact Or.inl rfl | exact Or.inr rfl | exact z01_s_NAMESPACE_77_t0  | exact z01_s_NAMESPACE_73_t0 
theorem nz_s_NAMESPACE (p1 : Int32) : nar .boolean (s_NAMESPACE_61_t0 p1 (1 : Int32) (0 : Int32)) = (s_NAMESPACE_61_t0 p1 (1 : Int32) (0 : Int32)) := by rcases z01_s_NAMESPACE_61_t0 p1 (1 : Int32) (0 : Int32) with h | h <;> rw [h] <;> rfl
theorem ef_rm1_NAMESPACE (m : MethodId) (x0 : Addr) (x1 : Int32) : entryFrame m #[(.ref x0), (.int x1)] 4 = mkF m 0 #[.val (.ref x0), .val (.int x1), .unset, .unset] [] := by first | (simp [entryFrame, mkF, argsToLocals, Value.category]; done) | rfl
def Q_rm1_NAMESPACE (Z : State) (o0 : Addr) (p1 : Int32) (x_CHILD x_ATTRIBUTE x_SELF x_DESCENDANT x_DESCENDANT_OR_SELF x_SUBTREE_ATTRIBUTE : Addr) (h0 : Heap) (n0 : Nat) (v : Option Value) (h : Heap) (L : List Loc) : Prop := v = some (.int (s_NAMESPACE_61_t0 p1 (1 : Int32) (0 : Int32))) ∧ Fr n0 L ∧ h = h0
set_option maxRecDepth 65536 in
set_option maxHeartbeats 40000000 in
theorem rm1_NAMESPACE (l : Launch) (Z : State) (a0 : Array Value) (hw : ∀ d ∈ tables_1, d.before a0 Z = true) (ws : List Jvm.Cond) (o0 : Addr) (p1 : Int32) (x_CHILD x_ATTRIBUTE x_SELF x_DESCENDANT x_DESCENDANT_OR_SELF x_SUBTREE_ATTRIBUTE : Addr) (h0 : Heap) (n0 : Nat) (Z0 : n0 ≤ h0.size) (S_CHILD : Sta Z h0 "com/example/node_sieve/nodesieve/Axis" "CHILD" "Lcom/example/node_sieve/nodesieve/Axis;" (.ref x_CHILD)) (S_ATTRIBUTE : Sta Z h0 "com/example/node_sieve/nodesieve/Axis" "ATTRIBUTE" "Lcom/example/node_sieve/nodesieve/Axis;" (.ref x_ATTRIBUTE)) (S_NAMESPACE : Sta Z h0 "com/example/node_sieve/nodesieve/Axis" "NAMESPACE" "Lcom/example/node_sieve/nodesieve/Axis;" (.ref o0)) (S_SELF : Sta Z h0 "com/example/node_sieve/nodesieve/Axis" "SELF" "Lcom/example/node_sieve/nodesieve/Axis;" (.ref x_SELF)) (S_DESCENDANT : Sta Z h0 "com/example/node_sieve/nodesieve/Axis" "DESCENDANT" "Lcom/example/node_sieve/nodesieve/Axis;" (.ref x_DESCENDANT)) (S_DESCENDANT_OR_SELF : Sta Z h0 "com/example/node_sieve/nodesieve/Axis" "DESCENDANT_OR_SELF" "Lcom/example/node_sieve/nodesieve/Axis;" (.ref x_DESCENDANT_OR_SELF)) (S_SUBTREE_ATTRIBUTE : Sta Z h0 "com/example/node_sieve/nodesieve/Axis" "SUBTREE_ATTRIBUTE" "Lcom/example/node_sieve/nodesieve/Axis;" (.ref x_SUBTREE_ATTRIBUTE)) (ne_CHILD : ¬ o0 = x_CHILD) (ne_ATTRIBUTE : ¬ o0 = x_ATTRIBUTE) (ne_SELF : ¬ o0 = x_SELF) (ne_DESCENDANT : ¬ o0 = x_DESCENDANT) (ne_DESCENDANT_OR_SELF : ¬ o0 = x_DESCENDANT_OR_SELF) (ne_SUBTREE_ATTRIBUTE : ¬ o0 = x_SUBTREE_ATTRIBUTE) :
    MetFree l (⟨"com/example/node_sieve/nodesieve/Axis", "selectsOnce", "(Z)Z"⟩ : MethodName) (head1 (Jvm.Cond.code (⟨"com/example/node_sieve/nodesieve/Axis", "selectsOnce", "(Z)Z"⟩ : MethodName) prog_1_method_8_code 4 (some .boolean) :: ws) ({ frames := 0, cells := 0, slots := 0, locals := 0 } : Room)) (fun a U => a = #[(.ref o0), (.int p1)] ∧ Z.Warmed39 U.vm ∧ U.heap = h0) (fun _ _ _ _ _ => True) (fun _ U o U' => ∃ v L, o = .returned v ∧ Q_rm1_NAMESPACE Z o0 p1 x_CHILD x_ATTRIBUTE x_SELF x_DESCENDANT x_DESCENDANT_OR_SELF x_SUBTREE_ATTRIBUTE h0 n0 v U'.heap L ∧ FrameEnd U o U' L ({ frames := 0, cells := 0, slots := 0, locals := 0 } : Room).cells ({ frames := 0, cells := 0, slots := 0, locals := 0 } : Room).slots) := by
  refine MetFree.of_bodySF (plainFor_of_name pn_0) hisR ?_
  intro p e s m args below meth c s₁ Bd hml0 hP hK
  obtain ⟨rfl, hZ, hh⟩ := hP
  have hx := Bd.exec
  have hby := Bd.bytes
  have hml : c.maxLocals = 4 := hml0
  have hown : s.vm.findClass "com/example/node_sieve/nodesieve/Axis" = some m.cls := findClass_of_methodNamed Bd.named
  have hnm := (name_of_methodNamed Bd.named Bd.method).1
  have X0 : Stand p l e ({ frames := 0, cells := 0, slots := 0, locals := 0 } : Room) s m #[(.ref o0), (.int p1)] below meth c s₁ [] 0 0 := Stand.of_body Bd
  have e0 : s₁.heap = h0 := by rw [← hh, Bd.state]; rfl
  have N0 := Fr.nil n0
  have c0 : ∀ τ, Steps p.tables e below (s₁.setTop (mkF m 0 #[.val (.ref o0), .val (.int p1), .unset, .unset] [])) τ → Steps p.tables e below (s₁.setTop (entryFrame m #[(.ref o0), (.int p1)] 4)) τ := fun τ κ => castTop (ef_rm1_NAMESPACE m o0 p1) κ
  have c1 : ∀ τ, Steps p.tables e below (s₁.setTop (mkF m 1 #[.val (.ref o0), .val (.int p1), .unset, .unset] [(.ref o0)])) τ → Steps p.tables e below (s₁.setTop (entryFrame m #[(.ref o0), (.int p1)] 4)) τ := fun τ κ => c0 τ (by
      show Steps p.tables e below (s₁.setTop (mkF m 0 #[.val (.ref o0), .val (.int p1), .unset, .unset] [])) _
      refine XS.aloadN X0.here hx rfl (hb hby d1_0) rfl rfl ?_
      exact κ)
  obtain ⟨T2, X2, e2, st2⟩ := getS2 X0 hx hZ hown (host := "") (Or.inl (hw _ (List.mem_of_getElem? (i := 51) rfl))) Via.refl e0 S_CHILD (g := (mkF m 1 #[.val (.ref o0), .val (.int p1), .unset, .unset] [(.ref o0)])) rfl (hb hby d1_1)
  have c3 : ∀ τ, Steps p.tables e below (T2.setTop (mkF m 4 #[.val (.ref o0), .val (.int p1), .unset, .unset] [(.ref x_CHILD), (.ref o0)])) τ → Steps p.tables e below (s₁.setTop (entryFrame m #[(.ref o0), (.int p1)] 4)) τ := fun τ κ => c1 τ (st2 τ κ)
  have c4 : ∀ τ, Steps p.tables e below (T2.setTop (mkF m 8 #[.val (.ref o0), .val (.int p1), .unset, .unset] [(.ref o0)])) τ → Steps p.tables e below (s₁.setTop (entryFrame m #[(.ref o0), (.int p1)] 4)) τ := fun τ κ => c3 τ (by
      show Steps p.tables e below (T2.setTop (mkF m 4 #[.val (.ref o0), .val (.int p1), .unset, .unset] [(.ref x_CHILD), (.ref o0)])) _
      refine Jvm.RoadKit.acmp (g := (mkF m 4 #[.val (.ref o0), .val (.int p1), .unset, .unset] [(.ref x_CHILD), (.ref o0)])) X2 hx rfl rfl rfl (pc0 := 4) (pc' := 7) (same := false) rfl (hb hby d1_4) rfl (decide_eq_false fun q => ne_CHILD (Value.ref.inj q)) (by decide) (by decide) ?_
      show Steps p.tables e below (T2.setTop (mkF m 7 #[.val (.ref o0), .val (.int p1), .unset, .unset] [])) _
      refine XS.aloadN X2.here hx rfl (hb hby d1_7) rfl rfl ?_
      exact κ)
  obtain ⟨T5, X5, e5, st5⟩ := getS2 X2 hx hZ hown (host := "") (Or.inl (hw _ (List.mem_of_getElem? (i := 56) rfl))) Via.refl e2 S_ATTRIBUTE (g := (mkF m 8 #[.val (.ref o0), .val (.int p1), .unset, .unset] [(.ref o0)])) rfl (hb hby d1_8)
  have c6 : ∀ τ, Steps p.tables e below (T5.setTop (mkF m 11 #[.val (.ref o0), .val (.int p1), .unset, .unset] [(.ref x_ATTRIBUTE), (.ref o0)])) τ → Steps p.tables e below (s₁.setTop (entryFrame m #[(.ref o0), (.int p1)] 4)) τ := fun τ κ => c4 τ (st5 τ κ)
  have c7 : ∀ τ, Steps p.tables e below (T5.setTop (mkF m 15 #[.val (.ref o0), .val (.int p1), .unset, .unset] [(.ref o0)])) τ → Steps p.tables e below (s₁.setTop (entryFrame m #[(.ref o0), (.int p1)] 4)) τ := fun τ κ => c6 τ (by
      show Steps p.tables e below (T5.setTop (mkF m 11 #[.val (.ref o0), .val (.int p1), .unset, .unset] [(.ref x_ATTRIBUTE), (.ref o0)])) _
      refine Jvm.RoadKit.acmp (g := (mkF m 11 #[.val (.ref o0), .val (.int p1), .unset, .unset] [(.ref x_ATTRIBUTE), (.ref o0)])) X5 hx rfl rfl rfl (pc0 := 11) (pc' := 14) (same := false) rfl (hb hby d1_11) rfl (decide_eq_false fun q => ne_ATTRIBUTE (Value.ref.inj q)) (by decide) (by decide) ?_
      show Steps p.tables e below (T5.setTop (mkF m 14 #[.val (.ref o0), .val (.int p1), .unset, .unset] [])) _
      refine XS.aloadN X5.here hx rfl (hb hby d1_14) rfl rfl ?_
      exact κ)
  obtain ⟨T8, X8, e8, st8⟩ := getS2 X5 hx hZ hown (host := "") (Or.inl (hw _ (List.mem_of_getElem? (i := 57) rfl))) Via.refl e5 S_NAMESPACE (g := (mkF m 15 #[.val (.ref o0), .val (.int p1), .unset, .unset] [(.ref o0)])) rfl (hb hby d1_15)
  have c9 : ∀ τ, Steps p.tables e below (T8.setTop (mkF m 18 #[.val (.ref o0), .val (.int p1), .unset, .unset] [(.ref o0), (.ref o0)])) τ → Steps p.tables e below (s₁.setTop (entryFrame m #[(.ref o0), (.int p1)] 4)) τ := fun τ κ => c7 τ (st8 τ κ)
  have c10 : ∀ τ, Steps p.tables e below (T8.setTop (mkF m 35 #[.val (.ref o0), .val (.int p1), .val (.int (1 : Int32)), .unset] [(.ref o0)])) τ → Steps p.tables e below (s₁.setTop (entryFrame m #[(.ref o0), (.int p1)] 4)) τ := fun τ κ => c9 τ (by
      show Steps p.tables e below (T8.setTop (mkF m 18 #[.val (.ref o0), .val (.int p1), .unset, .unset] [(.ref o0), (.ref o0)])) _
      refine Jvm.RoadKit.acmp (g := (mkF m 18 #[.val (.ref o0), .val (.int p1), .unset, .unset] [(.ref o0), (.ref o0)])) X8 hx rfl rfl rfl (pc0 := 18) (pc' := 28) (same := true) rfl (hb hby d1_18) rfl (decide_eq_true (congrArg Value.ref (rfl : o0 = o0))) (by decide) (by decide) ?_
      show Steps p.tables e below (T8.setTop (mkF m 28 #[.val (.ref o0), .val (.int p1), .unset, .unset] [])) _
      refine XS.iconst X8.here hx rfl (hb hby d1_28) ?_
      show Steps p.tables e below (T8.setTop (mkF m 29 #[.val (.ref o0), .val (.int p1), .unset, .unset] [(.int (1 : Int32))])) _
      refine XS.goto X8.here hx rfl (pc0 := 29) (pc' := 33) rfl (hb hby d1_29) (by decide) (by decide) ?_
      show Steps p.tables e below (T8.setTop (mkF m 33 #[.val (.ref o0), .val (.int p1), .unset, .unset] [(.int (1 : Int32))])) _
      refine XS.istoreN X8.here hx rfl (hb hby d1_33) rfl (l' := #[.val (.ref o0), .val (.int p1), .val (.int (1 : Int32)), .unset]) rfl ?_
      show Steps p.tables e below (T8.setTop (mkF m 34 #[.val (.ref o0), .val (.int p1), .val (.int (1 : Int32)), .unset] [])) _
      refine XS.aloadN X8.here hx rfl (hb hby d1_34) rfl rfl ?_
      exact κ)
  obtain ⟨T11, X11, e11, st11⟩ := getS2 X8 hx hZ hown (host := "") (Or.inl (hw _ (List.mem_of_getElem? (i := 52) rfl))) Via.refl e8 S_DESCENDANT (g := (mkF m 35 #[.val (.ref o0), .val (.int p1), .val (.int (1 : Int32)), .unset] [(.ref o0)])) rfl (hb hby d1_35)
  have c12 : ∀ τ, Steps p.tables e below (T11.setTop (mkF m 38 #[.val (.ref o0), .val (.int p1), .val (.int (1 : Int32)), .unset] [(.ref x_DESCENDANT), (.ref o0)])) τ → Steps p.tables e below (s₁.setTop (entryFrame m #[(.ref o0), (.int p1)] 4)) τ := fun τ κ => c10 τ (st11 τ κ)
  have c13 : ∀ τ, Steps p.tables e below (T11.setTop (mkF m 42 #[.val (.ref o0), .val (.int p1), .val (.int (1 : Int32)), .unset] [(.ref o0)])) τ → Steps p.tables e below (s₁.setTop (entryFrame m #[(.ref o0), (.int p1)] 4)) τ := fun τ κ => c12 τ (by
      show Steps p.tables e below (T11.setTop (mkF m 38 #[.val (.ref o0), .val (.int p1), .val (.int (1 : Int32)), .unset] [(.ref x_DESCENDANT), (.ref o0)])) _
      refine Jvm.RoadKit.acmp (g := (mkF m 38 #[.val (.ref o0), .val (.int p1), .val (.int (1 : Int32)), .unset] [(.ref x_DESCENDANT), (.ref o0)])) X11 hx rfl rfl rfl (pc0 := 38) (pc' := 41) (same := false) rfl (hb hby d1_38) rfl (decide_eq_false fun q => ne_DESCENDANT (Value.ref.inj q)) (by decide) (by decide) ?_
      show Steps p.tables e below (T11.setTop (mkF m 41 #[.val (.ref o0), .val (.int p1), .val (.int (1 : Int32)), .unset] [])) _
      refine XS.aloadN X11.here hx rfl (hb hby d1_41) rfl rfl ?_
      exact κ)
  obtain ⟨T14, X14, e14, st14⟩ := getS2 X11 hx hZ hown (host := "") (Or.inl (hw _ (List.mem_of_getElem? (i := 53) rfl))) Via.refl e11 S_DESCENDANT_OR_SELF (g := (mkF m 42 #[.val (.ref o0), .val (.int p1), .val (.int (1 : Int32)), .unset] [(.ref o0)])) rfl (hb hby d1_42)
  have c15 : ∀ τ, Steps p.tables e below (T14.setTop (mkF m 45 #[.val (.ref o0), .val (.int p1), .val (.int (1 : Int32)), .unset] [(.ref x_DESCENDANT_OR_SELF), (.ref o0)])) τ → Steps p.tables e below (s₁.setTop (entryFrame m #[(.ref o0), (.int p1)] 4)) τ := fun τ κ => c13 τ (st14 τ κ)
  have c16 : ∀ τ, Steps p.tables e below (T14.setTop (mkF m 49 #[.val (.ref o0), .val (.int p1), .val (.int (1 : Int32)), .unset] [(.ref o0)])) τ → Steps p.tables e below (s₁.setTop (entryFrame m #[(.ref o0), (.int p1)] 4)) τ := fun τ κ => c15 τ (by
      show Steps p.tables e below (T14.setTop (mkF m 45 #[.val (.ref o0), .val (.int p1), .val (.int (1 : Int32)), .unset] [(.ref x_DESCENDANT_OR_SELF), (.ref o0)])) _
      refine Jvm.RoadKit.acmp (g := (mkF m 45 #[.val (.ref o0), .val (.int p1), .val (.int (1 : Int32)), .unset] [(.ref x_DESCENDANT_OR_SELF), (.ref o0)])) X14 hx rfl rfl rfl (pc0 := 45) (pc' := 48) (same := false) rfl (hb hby d1_45) rfl (decide_eq_false fun q => ne_DESCENDANT_OR_SELF (Value.ref.inj q)) (by decide) (by decide) ?_
      show Steps p.tables e below (T14.setTop (mkF m 48 #[.val (.ref o0), .val (.int p1), .val (.int (1 : Int32)), .unset] [])) _
      refine XS.aloadN X14.here hx rfl (hb hby d1_48) rfl rfl ?_
      exact κ)
  obtain ⟨T17, X17, e17, st17⟩ := getS2 X14 hx hZ hown (host := "") (Or.inl (hw _ (List.mem_of_getElem? (i := 54) rfl))) Via.refl e14 S_SUBTREE_ATTRIBUTE (g := (mkF m 49 #[.val (.ref o0), .val (.int p1), .val (.int (1 : Int32)), .unset] [(.ref o0)])) rfl (hb hby d1_49)
  have c18 : ∀ τ, Steps p.tables e below (T17.setTop (mkF m 52 #[.val (.ref o0), .val (.int p1), .val (.int (1 : Int32)), .unset] [(.ref x_SUBTREE_ATTRIBUTE), (.ref o0)])) τ → Steps p.tables e below (s₁.setTop (entryFrame m #[(.ref o0), (.int p1)] 4)) τ := fun τ κ => c16 τ (st17 τ κ)
  have c19 : ∀ τ, Steps p.tables e below (T17.setTop (mkF m 61 #[.val (.ref o0), .val (.int p1), .val (.int (1 : Int32)), .val (.int (0 : Int32))] [])) τ → Steps p.tables e below (s₁.setTop (entryFrame m #[(.ref o0), (.int p1)] 4)) τ := fun τ κ => c18 τ (by
      show Steps p.tables e below (T17.setTop (mkF m 52 #[.val (.ref o0), .val (.int p1), .val (.int (1 : Int32)), .unset] [(.ref x_SUBTREE_ATTRIBUTE), (.ref o0)])) _
      refine Jvm.RoadKit.acmp (g := (mkF m 52 #[.val (.ref o0), .val (.int p1), .val (.int (1 : Int32)), .unset] [(.ref x_SUBTREE_ATTRIBUTE), (.ref o0)])) X17 hx rfl rfl rfl (pc0 := 52) (pc' := 59) (same := false) rfl (hb hby d1_52) rfl (decide_eq_false fun q => ne_SUBTREE_ATTRIBUTE (Value.ref.inj q)) (by decide) (by decide) ?_
      show Steps p.tables e below (T17.setTop (mkF m 59 #[.val (.ref o0), .val (.int p1), .val (.int (1 : Int32)), .unset] [])) _
      refine XS.iconst X17.here hx rfl (hb hby d1_59) ?_
      show Steps p.tables e below (T17.setTop (mkF m 60 #[.val (.ref o0), .val (.int p1), .val (.int (1 : Int32)), .unset] [(.int (0 : Int32))])) _
      refine XS.istoreN X17.here hx rfl (hb hby d1_60) rfl (l' := #[.val (.ref o0), .val (.int p1), .val (.int (1 : Int32)), .val (.int (0 : Int32))]) rfl ?_
      exact κ)
  have c20 : ∀ τ, Steps p.tables e below (T17.setTop (mkF m 78 #[.val (.ref o0), .val (.int p1), .val (.int (1 : Int32)), .val (.int (0 : Int32))] [(.int (s_NAMESPACE_61_t0 p1 (1 : Int32) (0 : Int32)))])) τ → Steps p.tables e below (s₁.setTop (entryFrame m #[(.ref o0), (.int p1)] 4)) τ := fun τ κ => c19 τ (s_NAMESPACE_61 o0 p1 (1 : Int32) (0 : Int32) X17 hx hZ hw hby hown κ)
  obtain ⟨fs, hr, hrun, hended, hW, hsame⟩ := X17.leave (v := some (.int (s_NAMESPACE_61_t0 p1 (1 : Int32) (0 : Int32)))) (fun h => by rw [Bd.returns] at h; cases h)
  refine ⟨_, _, c20 _ (retN X17 hx (t := .boolean) Bd.returns (by simp) (hb hby d1_78) (by rw [nz_s_NAMESPACE p1]; exact hr)), hrun, hended, _, _, rfl, ?_, ⟨_, rfl⟩, hW, hsame.mono (by decide) (by decide)⟩
  show Q_rm1_NAMESPACE Z o0 p1 x_CHILD x_ATTRIBUTE x_SELF x_DESCENDANT x_DESCENDANT_OR_SELF x_SUBTREE_ATTRIBUTE h0 n0 _ T17.heap _
  rw [e17]
  exact ⟨rfl, N0, rfl⟩
def s_SELF_77_t0  : Int32 := (0 : Int32)
def s_SELF_73_t0  : Int32 := (1 : Int32)
def s_SELF_61_t0 (i1 : Int32) (i2 : Int32) (i3 : Int32) : Int32 := if i2 = (0 : Int32) then (if i1 = (0 : Int32) then s_SELF_77_t0 else if i3 = (0 : Int32) then s_SELF_77_t0 else s_SELF_73_t0) else s_SELF_73_t0
set_option maxRecDepth 65536 in
set_option maxHeartbeats 40000000 in
theorem s_SELF_77 {p : Program} {l : Launch} {e : Env} {R : Room} {s : State} {m : MethodId} {args : Array Value} {below : List Frame} {meth : Method} {c : Code} {T : State} {locs : List Loc} {cells slots : Nat} {Z : State} {a0 : Array Value} {target : State} (o0 : Addr) (i1 : Int32) (i2 : Int32) (i3 : Int32) (X : Stand p l e R s m args below meth c T locs cells slots) (hx : p.tables.exec = Jvm.exec) (hZ : Z.Warmed39 s.vm) (hw : ∀ d ∈ tables_1, d.before a0 Z = true) (hby : c.code = prog_1_method_8_code) (hown : s.vm.findClass "com/example/node_sieve/nodesieve/Axis" = some m.cls) (k : Steps p.tables e below (T.setTop (mkF m 78 #[.val (.ref o0), .val (.int i1), .val (.int i2), .val (.int i3)] [(.int (s_SELF_77_t0))])) target) :
    Steps p.tables e below (T.setTop (mkF m 77 #[.val (.ref o0), .val (.int i1), .val (.int i2), .val (.int i3)] [])) target := by
  show Steps p.tables e below (T.setTop (mkF m 77 #[.val (.ref o0), .val (.int i1), .val (.int i2), .val (.int i3)] [])) _
  refine XS.iconst X.here hx rfl (hb hby d1_77) ?_
  have e_t0 : (s_SELF_77_t0) = (0 : Int32) := by rfl
  rw [e_t0] at k
  exact k
set_option maxRecDepth 65536 in
set_option maxHeartbeats 40000000 in
theorem s_SELF_73 {p : Program} {l : Launch} {e : Env} {R : Room} {s : State} {m : MethodId} {args : Array Value} {below : List Frame} {meth : Method} {c : Code} {T : State} {locs : List Loc} {cells slots : Nat} {Z : State} {a0 : Array Value} {target : State} (o0 : Addr) (i1 : Int32) (i2 : Int32) (i3 : Int32) (X : Stand p l e R s m args below meth c T locs cells slots) (hx : p.tables.exec = Jvm.exec) (hZ : Z.Warmed39 s.vm) (hw : ∀ d ∈ tables_1, d.before a0 Z = true) (hby : c.code = prog_1_method_8_code) (hown : s.vm.findClass "com/example/node_sieve/nodesieve/Axis" = some m.cls) (k : Steps p.tables e below (T.setTop (mkF m 78 #[.val (.ref o0), .val (.int i1), .val (.int i2), .val (.int i3)] [(.int (s_SELF_73_t0))])) target) :
    Steps p.tables e below (T.setTop (mkF m 73 #[.val (.ref o0), .val (.int i1), .val (.int i2), .val (.int i3)] [])) target := by
  show Steps p.tables e below (T.setTop (mkF m 73 #[.val (.ref o0), .val (.int i1), .val (.int i2), .val (.int i3)] [])) _
  refine XS.iconst X.here hx rfl (hb hby d1_73) ?_
  show Steps p.tables e below (T.setTop (mkF m 74 #[.val (.ref o0), .val (.int i1), .val (.int i2), .val (.int i3)] [(.int (1 : Int32))])) _
  refine XS.goto X.here hx rfl (pc0 := 74) (pc' := 78) rfl (hb hby d1_74) (by decide) (by decide) ?_
  have e_t0 : (s_SELF_73_t0) = (1 : Int32) := by rfl
  rw [e_t0] at k
  exact k
set_option maxRecDepth 65536 in
set_option maxHeartbeats 40000000 in
theorem s_SELF_61 {p : Program} {l : Launch} {e : Env} {R : Room} {s : State} {m : MethodId} {args : Array Value} {below : List Frame} {meth : Method} {c : Code} {T : State} {locs : List Loc} {cells slots : Nat} {Z : State} {a0 : Array Value} {target : State} (o0 : Addr) (i1 : Int32) (i2 : Int32) (i3 : Int32) (X : Stand p l e R s m args below meth c T locs cells slots) (hx : p.tables.exec = Jvm.exec) (hZ : Z.Warmed39 s.vm) (hw : ∀ d ∈ tables_1, d.before a0 Z = true) (hby : c.code = prog_1_method_8_code) (hown : s.vm.findClass "com/example/node_sieve/nodesieve/Axis" = some m.cls) (k : Steps p.tables e below (T.setTop (mkF m 78 #[.val (.ref o0), .val (.int i1), .val (.int i2), .val (.int i3)] [(.int (s_SELF_61_t0 i1 i2 i3))])) target) :
    Steps p.tables e below (T.setTop (mkF m 61 #[.val (.ref o0), .val (.int i1), .val (.int i2), .val (.int i3)] [])) target := by
  show Steps p.tables e below (T.setTop (mkF m 61 #[.val (.ref o0), .val (.int i1), .val (.int i2), .val (.int i3)] [])) _
  refine XS.iloadN X.here hx rfl (hb hby d1_61) rfl ?_
  show Steps p.tables e below (T.setTop (mkF m 62 #[.val (.ref o0), .val (.int i1), .val (.int i2), .val (.int i3)] [(.int i2)])) _
  by_cases q62 : i2 = (0 : Int32)
  · refine XS.ifNo X.here hx rfl (hb hby d1_62) rfl ((if0 _ _).trans (teq q62).2) ?_
    show Steps p.tables e below (T.setTop (mkF m 65 #[.val (.ref o0), .val (.int i1), .val (.int i2), .val (.int i3)] [])) _
    refine XS.iloadN X.here hx rfl (hb hby d1_65) rfl ?_
    show Steps p.tables e below (T.setTop (mkF m 66 #[.val (.ref o0), .val (.int i1), .val (.int i2), .val (.int i3)] [(.int i1)])) _
    by_cases q66 : i1 = (0 : Int32)
    · refine XS.ifYes X.here hx rfl (pc0 := 66) (pc' := 77) rfl (hb hby d1_66) rfl ((if0 _ _).trans (teq q66).1) (by decide) (by decide) ?_
      have e_t0 : (s_SELF_61_t0 i1 i2 i3) = s_SELF_77_t0 := by unfold s_SELF_61_t0; rw [if_pos q62, if_pos q66]
      rw [e_t0] at k
      exact s_SELF_77 o0 i1 i2 i3 X hx hZ hw hby hown k
    · refine XS.ifNo X.here hx rfl (hb hby d1_66) rfl ((if0 _ _).trans (feq q66).1) ?_
      show Steps p.tables e below (T.setTop (mkF m 69 #[.val (.ref o0), .val (.int i1), .val (.int i2), .val (.int i3)] [])) _
      refine XS.iloadN X.here hx rfl (hb hby d1_69) rfl ?_
      show Steps p.tables e below (T.setTop (mkF m 70 #[.val (.ref o0), .val (.int i1), .val (.int i2), .val (.int i3)] [(.int i3)])) _
      by_cases q70 : i3 = (0 : Int32)
      · refine XS.ifYes X.here hx rfl (pc0 := 70) (pc' := 77) rfl (hb hby d1_70) rfl ((if0 _ _).trans (teq q70).1) (by decide) (by decide) ?_
        have e_t0 : (s_SELF_61_t0 i1 i2 i3) = s_SELF_77_t0 := by unfold s_SELF_61_t0; rw [if_pos q62, if_neg q66, if_pos q70]
        rw [e_t0] at k
        exact s_SELF_77 o0 i1 i2 i3 X hx hZ hw hby hown k
      · refine XS.ifNo X.here hx rfl (hb hby d1_70) rfl ((if0 _ _).trans (feq q70).1) ?_
        have e_t0 : (s_SELF_61_t0 i1 i2 i3) = s_SELF_73_t0 := by unfold s_SELF_61_t0; rw [if_pos q62, if_neg q66, if_neg q70]
        rw [e_t0] at k
        exact s_SELF_73 o0 i1 i2 i3 X hx hZ hw hby hown k
  · refine XS.ifYes X.here hx rfl (pc0 := 62) (pc' := 73) rfl (hb hby d1_62) rfl ((if0 _ _).trans (feq q62).2) (by decide) (by decide) ?_
    have e_t0 : (s_SELF_61_t0 i1 i2 i3) = s_SELF_73_t0 := by unfold s_SELF_61_t0; rw [if_neg q62]
    rw [e_t0] at k
    exact s_SELF_73 o0 i1 i2 i3 X hx hZ hw hby hown k
theorem z01_s_SELF_77_t0  : (s_SELF_77_t0) = 0 ∨ (s_SELF_77_t0) = 1 := by
  unfold s_SELF_77_t0
  repeat' split
  all_goals first | exact Or.inl rfl | exact Or.inr rfl
theorem z01_s_SELF_73_t0  : (s_SELF_73_t0) = 0 ∨ (s_SELF_73_t0) = 1 := by
  unfold s_SELF_73_t0
  repeat' split
  all_goals first | exact Or.inl rfl | exact Or.inr rfl
theorem z01_s_SELF_61_t0 (i1 : Int32) (i2 : Int32) (i3 : Int32) : (s_SELF_61_t0 i1 i2 i3) = 0 ∨ (s_SELF_61_t0 i1 i2 i3) = 1 := by
  unfold s_SELF_61_t0
  repeat' split
  all_goals first | exact Or.inl rfl | exact Or.inr rfl | exact z01_s_SELF_77_t0  | exact z01_s_SELF_73_t0 
theorem nz_s_SELF (p1 : Int32) : nar .boolean (s_SELF_61_t0 p1 (1 : Int32) (0 : Int32)) = (s_SELF_61_t0 p1 (1 : Int32) (0 : Int32)) := by rcases z01_s_SELF_61_t0 p1 (1 : Int32) (0 : Int32) with h | h <;> rw [h] <;> rfl
theorem ef_rm1_SELF (m : MethodId) (x0 : Addr) (x1 : Int32) : entryFrame m #[(.ref x0), (.int x1)] 4 = mkF m 0 #[.val (.ref x0), .val (.int x1), .unset, .unset] [] := by first | (simp [entryFrame, mkF, argsToLocals, Value.category]; done) | rfl
def Q_rm1_SELF (Z : State) (o0 : Addr) (p1 : Int32) (x_CHILD x_ATTRIBUTE x_NAMESPACE x_DESCENDANT x_DESCENDANT_OR_SELF x_SUBTREE_ATTRIBUTE : Addr) (h0 : Heap) (n0 : Nat) (v : Option Value) (h : Heap) (L : List Loc) : Prop := v = some (.int (s_SELF_61_t0 p1 (1 : Int32) (0 : Int32))) ∧ Fr n0 L ∧ h = h0
set_option maxRecDepth 65536 in
set_option maxHeartbeats 40000000 in
theorem rm1_SELF (l : Launch) (Z : State) (a0 : Array Value) (hw : ∀ d ∈ tables_1, d.before a0 Z = true) (ws : List Jvm.Cond) (o0 : Addr) (p1 : Int32) (x_CHILD x_ATTRIBUTE x_NAMESPACE x_DESCENDANT x_DESCENDANT_OR_SELF x_SUBTREE_ATTRIBUTE : Addr) (h0 : Heap) (n0 : Nat) (Z0 : n0 ≤ h0.size) (S_CHILD : Sta Z h0 "com/example/node_sieve/nodesieve/Axis" "CHILD" "Lcom/example/node_sieve/nodesieve/Axis;" (.ref x_CHILD)) (S_ATTRIBUTE : Sta Z h0 "com/example/node_sieve/nodesieve/Axis" "ATTRIBUTE" "Lcom/example/node_sieve/nodesieve/Axis;" (.ref x_ATTRIBUTE)) (S_NAMESPACE : Sta Z h0 "com/example/node_sieve/nodesieve/Axis" "NAMESPACE" "Lcom/example/node_sieve/nodesieve/Axis;" (.ref x_NAMESPACE)) (S_SELF : Sta Z h0 "com/example/node_sieve/nodesieve/Axis" "SELF" "Lcom/example/node_sieve/nodesieve/Axis;" (.ref o0)) (S_DESCENDANT : Sta Z h0 "com/example/node_sieve/nodesieve/Axis" "DESCENDANT" "Lcom/example/node_sieve/nodesieve/Axis;" (.ref x_DESCENDANT)) (S_DESCENDANT_OR_SELF : Sta Z h0 "com/example/node_sieve/nodesieve/Axis" "DESCENDANT_OR_SELF" "Lcom/example/node_sieve/nodesieve/Axis;" (.ref x_DESCENDANT_OR_SELF)) (S_SUBTREE_ATTRIBUTE : Sta Z h0 "com/example/node_sieve/nodesieve/Axis" "SUBTREE_ATTRIBUTE" "Lcom/example/node_sieve/nodesieve/Axis;" (.ref x_SUBTREE_ATTRIBUTE)) (ne_CHILD : ¬ o0 = x_CHILD) (ne_ATTRIBUTE : ¬ o0 = x_ATTRIBUTE) (ne_NAMESPACE : ¬ o0 = x_NAMESPACE) (ne_DESCENDANT : ¬ o0 = x_DESCENDANT) (ne_DESCENDANT_OR_SELF : ¬ o0 = x_DESCENDANT_OR_SELF) (ne_SUBTREE_ATTRIBUTE : ¬ o0 = x_SUBTREE_ATTRIBUTE) :
    MetFree l (⟨"com/example/node_sieve/nodesieve/Axis", "selectsOnce", "(Z)Z"⟩ : MethodName) (head1 (Jvm.Cond.code (⟨"com/example/node_sieve/nodesieve/Axis", "selectsOnce", "(Z)Z"⟩ : MethodName) prog_1_method_8_code 4 (some .boolean) :: ws) ({ frames := 0, cells := 0, slots := 0, locals := 0 } : Room)) (fun a U => a = #[(.ref o0), (.int p1)] ∧ Z.Warmed39 U.vm ∧ U.heap = h0) (fun _ _ _ _ _ => True) (fun _ U o U' => ∃ v L, o = .returned v ∧ Q_rm1_SELF Z o0 p1 x_CHILD x_ATTRIBUTE x_NAMESPACE x_DESCENDANT x_DESCENDANT_OR_SELF x_SUBTREE_ATTRIBUTE h0 n0 v U'.heap L ∧ FrameEnd U o U' L ({ frames := 0, cells := 0, slots := 0, locals := 0 } : Room).cells ({ frames := 0, cells := 0, slots := 0, locals := 0 } : Room).slots) := by
  refine MetFree.of_bodySF (plainFor_of_name pn_0) hisR ?_
  intro p e s m args below meth c s₁ Bd hml0 hP hK
  obtain ⟨rfl, hZ, hh⟩ := hP
  have hx := Bd.exec
  have hby := Bd.bytes
  have hml : c.maxLocals = 4 := hml0
  have hown : s.vm.findClass "com/example/node_sieve/nodesieve/Axis" = some m.cls := findClass_of_methodNamed Bd.named
  have hnm := (name_of_methodNamed Bd.named Bd.method).1
  have X0 : Stand p l e ({ frames := 0, cells := 0, slots := 0, locals := 0 } : Room) s m #[(.ref o0), (.int p1)] below meth c s₁ [] 0 0 := Stand.of_body Bd
  have e0 : s₁.heap = h0 := by rw [← hh, Bd.state]; rfl
  have N0 := Fr.nil n0
  have c0 : ∀ τ, Steps p.tables e below (s₁.setTop (mkF m 0 #[.val (.ref o0), .val (.int p1), .unset, .unset] [])) τ → Steps p.tables e below (s₁.setTop (entryFrame m #[(.ref o0), (.int p1)] 4)) τ := fun τ κ => castTop (ef_rm1_SELF m o0 p1) κ
  have c1 : ∀ τ, Steps p.tables e below (s₁.setTop (mkF m 1 #[.val (.ref o0), .val (.int p1), .unset, .unset] [(.ref o0)])) τ → Steps p.tables e below (s₁.setTop (entryFrame m #[(.ref o0), (.int p1)] 4)) τ := fun τ κ => c0 τ (by
      show Steps p.tables e below (s₁.setTop (mkF m 0 #[.val (.ref o0), .val (.int p1), .unset, .unset] [])) _
      refine XS.aloadN X0.here hx rfl (hb hby d1_0) rfl rfl ?_
      exact κ)
  obtain ⟨T2, X2, e2, st2⟩ := getS2 X0 hx hZ hown (host := "") (Or.inl (hw _ (List.mem_of_getElem? (i := 51) rfl))) Via.refl e0 S_CHILD (g := (mkF m 1 #[.val (.ref o0), .val (.int p1), .unset, .unset] [(.ref o0)])) rfl (hb hby d1_1)
  have c3 : ∀ τ, Steps p.tables e below (T2.setTop (mkF m 4 #[.val (.ref o0), .val (.int p1), .unset, .unset] [(.ref x_CHILD), (.ref o0)])) τ → Steps p.tables e below (s₁.setTop (entryFrame m #[(.ref o0), (.int p1)] 4)) τ := fun τ κ => c1 τ (st2 τ κ)
  have c4 : ∀ τ, Steps p.tables e below (T2.setTop (mkF m 8 #[.val (.ref o0), .val (.int p1), .unset, .unset] [(.ref o0)])) τ → Steps p.tables e below (s₁.setTop (entryFrame m #[(.ref o0), (.int p1)] 4)) τ := fun τ κ => c3 τ (by
      show Steps p.tables e below (T2.setTop (mkF m 4 #[.val (.ref o0), .val (.int p1), .unset, .unset] [(.ref x_CHILD), (.ref o0)])) _
      refine Jvm.RoadKit.acmp (g := (mkF m 4 #[.val (.ref o0), .val (.int p1), .unset, .unset] [(.ref x_CHILD), (.ref o0)])) X2 hx rfl rfl rfl (pc0 := 4) (pc' := 7) (same := false) rfl (hb hby d1_4) rfl (decide_eq_false fun q => ne_CHILD (Value.ref.inj q)) (by decide) (by decide) ?_
      show Steps p.tables e below (T2.setTop (mkF m 7 #[.val (.ref o0), .val (.int p1), .unset, .unset] [])) _
      refine XS.aloadN X2.here hx rfl (hb hby d1_7) rfl rfl ?_
      exact κ)
  obtain ⟨T5, X5, e5, st5⟩ := getS2 X2 hx hZ hown (host := "") (Or.inl (hw _ (List.mem_of_getElem? (i := 56) rfl))) Via.refl e2 S_ATTRIBUTE (g := (mkF m 8 #[.val (.ref o0), .val (.int p1), .unset, .unset] [(.ref o0)])) rfl (hb hby d1_8)
  have c6 : ∀ τ, Steps p.tables e below (T5.setTop (mkF m 11 #[.val (.ref o0), .val (.int p1), .unset, .unset] [(.ref x_ATTRIBUTE), (.ref o0)])) τ → Steps p.tables e below (s₁.setTop (entryFrame m #[(.ref o0), (.int p1)] 4)) τ := fun τ κ => c4 τ (st5 τ κ)
  have c7 : ∀ τ, Steps p.tables e below (T5.setTop (mkF m 15 #[.val (.ref o0), .val (.int p1), .unset, .unset] [(.ref o0)])) τ → Steps p.tables e below (s₁.setTop (entryFrame m #[(.ref o0), (.int p1)] 4)) τ := fun τ κ => c6 τ (by
      show Steps p.tables e below (T5.setTop (mkF m 11 #[.val (.ref o0), .val (.int p1), .unset, .unset] [(.ref x_ATTRIBUTE), (.ref o0)])) _
      refine Jvm.RoadKit.acmp (g := (mkF m 11 #[.val (.ref o0), .val (.int p1), .unset, .unset] [(.ref x_ATTRIBUTE), (.ref o0)])) X5 hx rfl rfl rfl (pc0 := 11) (pc' := 14) (same := false) rfl (hb hby d1_11) rfl (decide_eq_false fun q => ne_ATTRIBUTE (Value.ref.inj q)) (by decide) (by decide) ?_
      show Steps p.tables e below (T5.setTop (mkF m 14 #[.val (.ref o0), .val (.int p1), .unset, .unset] [])) _
      refine XS.aloadN X5.here hx rfl (hb hby d1_14) rfl rfl ?_
      exact κ)
  obtain ⟨T8, X8, e8, st8⟩ := getS2 X5 hx hZ hown (host := "") (Or.inl (hw _ (List.mem_of_getElem? (i := 57) rfl))) Via.refl e5 S_NAMESPACE (g := (mkF m 15 #[.val (.ref o0), .val (.int p1), .unset, .unset] [(.ref o0)])) rfl (hb hby d1_15)
  have c9 : ∀ τ, Steps p.tables e below (T8.setTop (mkF m 18 #[.val (.ref o0), .val (.int p1), .unset, .unset] [(.ref x_NAMESPACE), (.ref o0)])) τ → Steps p.tables e below (s₁.setTop (entryFrame m #[(.ref o0), (.int p1)] 4)) τ := fun τ κ => c7 τ (st8 τ κ)
  have c10 : ∀ τ, Steps p.tables e below (T8.setTop (mkF m 22 #[.val (.ref o0), .val (.int p1), .unset, .unset] [(.ref o0)])) τ → Steps p.tables e below (s₁.setTop (entryFrame m #[(.ref o0), (.int p1)] 4)) τ := fun τ κ => c9 τ (by
      show Steps p.tables e below (T8.setTop (mkF m 18 #[.val (.ref o0), .val (.int p1), .unset, .unset] [(.ref x_NAMESPACE), (.ref o0)])) _
      refine Jvm.RoadKit.acmp (g := (mkF m 18 #[.val (.ref o0), .val (.int p1), .unset, .unset] [(.ref x_NAMESPACE), (.ref o0)])) X8 hx rfl rfl rfl (pc0 := 18) (pc' := 21) (same := false) rfl (hb hby d1_18) rfl (decide_eq_false fun q => ne_NAMESPACE (Value.ref.inj q)) (by decide) (by decide) ?_
      show Steps p.tables e below (T8.setTop (mkF m 21 #[.val (.ref o0), .val (.int p1), .unset, .unset] [])) _
      refine XS.aloadN X8.here hx rfl (hb hby d1_21) rfl rfl ?_
      exact κ)
  obtain ⟨T11, X11, e11, st11⟩ := getS2 X8 hx hZ hown (host := "") (Or.inl (hw _ (List.mem_of_getElem? (i := 58) rfl))) Via.refl e8 S_SELF (g := (mkF m 22 #[.val (.ref o0), .val (.int p1), .unset, .unset] [(.ref o0)])) rfl (hb hby d1_22)
  have c12 : ∀ τ, Steps p.tables e below (T11.setTop (mkF m 25 #[.val (.ref o0), .val (.int p1), .unset, .unset] [(.ref o0), (.ref o0)])) τ → Steps p.tables e below (s₁.setTop (entryFrame m #[(.ref o0), (.int p1)] 4)) τ := fun τ κ => c10 τ (st11 τ κ)
  have c13 : ∀ τ, Steps p.tables e below (T11.setTop (mkF m 35 #[.val (.ref o0), .val (.int p1), .val (.int (1 : Int32)), .unset] [(.ref o0)])) τ → Steps p.tables e below (s₁.setTop (entryFrame m #[(.ref o0), (.int p1)] 4)) τ := fun τ κ => c12 τ (by
      show Steps p.tables e below (T11.setTop (mkF m 25 #[.val (.ref o0), .val (.int p1), .unset, .unset] [(.ref o0), (.ref o0)])) _
      refine Jvm.RoadKit.acmp (g := (mkF m 25 #[.val (.ref o0), .val (.int p1), .unset, .unset] [(.ref o0), (.ref o0)])) X11 hx rfl rfl rfl (pc0 := 25) (pc' := 28) (same := true) rfl (hb hby d1_25) rfl (decide_eq_true (congrArg Value.ref (rfl : o0 = o0))) (by decide) (by decide) ?_
      show Steps p.tables e below (T11.setTop (mkF m 28 #[.val (.ref o0), .val (.int p1), .unset, .unset] [])) _
      refine XS.iconst X11.here hx rfl (hb hby d1_28) ?_
      show Steps p.tables e below (T11.setTop (mkF m 29 #[.val (.ref o0), .val (.int p1), .unset, .unset] [(.int (1 : Int32))])) _
      refine XS.goto X11.here hx rfl (pc0 := 29) (pc' := 33) rfl (hb hby d1_29) (by decide) (by decide) ?_
      show Steps p.tables e below (T11.setTop (mkF m 33 #[.val (.ref o0), .val (.int p1), .unset, .unset] [(.int (1 : Int32))])) _
      refine XS.istoreN X11.here hx rfl (hb hby d1_33) rfl (l' := #[.val (.ref o0), .val (.int p1), .val (.int (1 : Int32)), .unset]) rfl ?_
      show Steps p.tables e below (T11.setTop (mkF m 34 #[.val (.ref o0), .val (.int p1), .val (.int (1 : Int32)), .unset] [])) _
      refine XS.aloadN X11.here hx rfl (hb hby d1_34) rfl rfl ?_
      exact κ)
  obtain ⟨T14, X14, e14, st14⟩ := getS2 X11 hx hZ hown (host := "") (Or.inl (hw _ (List.mem_of_getElem? (i := 52) rfl))) Via.refl e11 S_DESCENDANT (g := (mkF m 35 #[.val (.ref o0), .val (.int p1), .val (.int (1 : Int32)), .unset] [(.ref o0)])) rfl (hb hby d1_35)
  have c15 : ∀ τ, Steps p.tables e below (T14.setTop (mkF m 38 #[.val (.ref o0), .val (.int p1), .val (.int (1 : Int32)), .unset] [(.ref x_DESCENDANT), (.ref o0)])) τ → Steps p.tables e below (s₁.setTop (entryFrame m #[(.ref o0), (.int p1)] 4)) τ := fun τ κ => c13 τ (st14 τ κ)
  have c16 : ∀ τ, Steps p.tables e below (T14.setTop (mkF m 42 #[.val (.ref o0), .val (.int p1), .val (.int (1 : Int32)), .unset] [(.ref o0)])) τ → Steps p.tables e below (s₁.setTop (entryFrame m #[(.ref o0), (.int p1)] 4)) τ := fun τ κ => c15 τ (by
      show Steps p.tables e below (T14.setTop (mkF m 38 #[.val (.ref o0), .val (.int p1), .val (.int (1 : Int32)), .unset] [(.ref x_DESCENDANT), (.ref o0)])) _
      refine Jvm.RoadKit.acmp (g := (mkF m 38 #[.val (.ref o0), .val (.int p1), .val (.int (1 : Int32)), .unset] [(.ref x_DESCENDANT), (.ref o0)])) X14 hx rfl rfl rfl (pc0 := 38) (pc' := 41) (same := false) rfl (hb hby d1_38) rfl (decide_eq_false fun q => ne_DESCENDANT (Value.ref.inj q)) (by decide) (by decide) ?_
      show Steps p.tables e below (T14.setTop (mkF m 41 #[.val (.ref o0), .val (.int p1), .val (.int (1 : Int32)), .unset] [])) _
      refine XS.aloadN X14.here hx rfl (hb hby d1_41) rfl rfl ?_
      exact κ)
  obtain ⟨T17, X17, e17, st17⟩ := getS2 X14 hx hZ hown (host := "") (Or.inl (hw _ (List.mem_of_getElem? (i := 53) rfl))) Via.refl e14 S_DESCENDANT_OR_SELF (g := (mkF m 42 #[.val (.ref o0), .val (.int p1), .val (.int (1 : Int32)), .unset] [(.ref o0)])) rfl (hb hby d1_42)
  have c18 : ∀ τ, Steps p.tables e below (T17.setTop (mkF m 45 #[.val (.ref o0), .val (.int p1), .val (.int (1 : Int32)), .unset] [(.ref x_DESCENDANT_OR_SELF), (.ref o0)])) τ → Steps p.tables e below (s₁.setTop (entryFrame m #[(.ref o0), (.int p1)] 4)) τ := fun τ κ => c16 τ (st17 τ κ)
  have c19 : ∀ τ, Steps p.tables e below (T17.setTop (mkF m 49 #[.val (.ref o0), .val (.int p1), .val (.int (1 : Int32)), .unset] [(.ref o0)])) τ → Steps p.tables e below (s₁.setTop (entryFrame m #[(.ref o0), (.int p1)] 4)) τ := fun τ κ => c18 τ (by
      show Steps p.tables e below (T17.setTop (mkF m 45 #[.val (.ref o0), .val (.int p1), .val (.int (1 : Int32)), .unset] [(.ref x_DESCENDANT_OR_SELF), (.ref o0)])) _
      refine Jvm.RoadKit.acmp (g := (mkF m 45 #[.val (.ref o0), .val (.int p1), .val (.int (1 : Int32)), .unset] [(.ref x_DESCENDANT_OR_SELF), (.ref o0)])) X17 hx rfl rfl rfl (pc0 := 45) (pc' := 48) (same := false) rfl (hb hby d1_45) rfl (decide_eq_false fun q => ne_DESCENDANT_OR_SELF (Value.ref.inj q)) (by decide) (by decide) ?_
      show Steps p.tables e below (T17.setTop (mkF m 48 #[.val (.ref o0), .val (.int p1), .val (.int (1 : Int32)), .unset] [])) _
      refine XS.aloadN X17.here hx rfl (hb hby d1_48) rfl rfl ?_
      exact κ)
  obtain ⟨T20, X20, e20, st20⟩ := getS2 X17 hx hZ hown (host := "") (Or.inl (hw _ (List.mem_of_getElem? (i := 54) rfl))) Via.refl e17 S_SUBTREE_ATTRIBUTE (g := (mkF m 49 #[.val (.ref o0), .val (.int p1), .val (.int (1 : Int32)), .unset] [(.ref o0)])) rfl (hb hby d1_49)
  have c21 : ∀ τ, Steps p.tables e below (T20.setTop (mkF m 52 #[.val (.ref o0), .val (.int p1), .val (.int (1 : Int32)), .unset] [(.ref x_SUBTREE_ATTRIBUTE), (.ref o0)])) τ → Steps p.tables e below (s₁.setTop (entryFrame m #[(.ref o0), (.int p1)] 4)) τ := fun τ κ => c19 τ (st20 τ κ)
  have c22 : ∀ τ, Steps p.tables e below (T20.setTop (mkF m 61 #[.val (.ref o0), .val (.int p1), .val (.int (1 : Int32)), .val (.int (0 : Int32))] [])) τ → Steps p.tables e below (s₁.setTop (entryFrame m #[(.ref o0), (.int p1)] 4)) τ := fun τ κ => c21 τ (by
      show Steps p.tables e below (T20.setTop (mkF m 52 #[.val (.ref o0), .val (.int p1), .val (.int (1 : Int32)), .unset] [(.ref x_SUBTREE_ATTRIBUTE), (.ref o0)])) _
      refine Jvm.RoadKit.acmp (g := (mkF m 52 #[.val (.ref o0), .val (.int p1), .val (.int (1 : Int32)), .unset] [(.ref x_SUBTREE_ATTRIBUTE), (.ref o0)])) X20 hx rfl rfl rfl (pc0 := 52) (pc' := 59) (same := false) rfl (hb hby d1_52) rfl (decide_eq_false fun q => ne_SUBTREE_ATTRIBUTE (Value.ref.inj q)) (by decide) (by decide) ?_
      show Steps p.tables e below (T20.setTop (mkF m 59 #[.val (.ref o0), .val (.int p1), .val (.int (1 : Int32)), .unset] [])) _
      refine XS.iconst X20.here hx rfl (hb hby d1_59) ?_
      show Steps p.tables e below (T20.setTop (mkF m 60 #[.val (.ref o0), .val (.int p1), .val (.int (1 : Int32)), .unset] [(.int (0 : Int32))])) _
      refine XS.istoreN X20.here hx rfl (hb hby d1_60) rfl (l' := #[.val (.ref o0), .val (.int p1), .val (.int (1 : Int32)), .val (.int (0 : Int32))]) rfl ?_
      exact κ)
  have c23 : ∀ τ, Steps p.tables e below (T20.setTop (mkF m 78 #[.val (.ref o0), .val (.int p1), .val (.int (1 : Int32)), .val (.int (0 : Int32))] [(.int (s_SELF_61_t0 p1 (1 : Int32) (0 : Int32)))])) τ → Steps p.tables e below (s₁.setTop (entryFrame m #[(.ref o0), (.int p1)] 4)) τ := fun τ κ => c22 τ (s_SELF_61 o0 p1 (1 : Int32) (0 : Int32) X20 hx hZ hw hby hown κ)
  obtain ⟨fs, hr, hrun, hended, hW, hsame⟩ := X20.leave (v := some (.int (s_SELF_61_t0 p1 (1 : Int32) (0 : Int32)))) (fun h => by rw [Bd.returns] at h; cases h)
  refine ⟨_, _, c23 _ (retN X20 hx (t := .boolean) Bd.returns (by simp) (hb hby d1_78) (by rw [nz_s_SELF p1]; exact hr)), hrun, hended, _, _, rfl, ?_, ⟨_, rfl⟩, hW, hsame.mono (by decide) (by decide)⟩
  show Q_rm1_SELF Z o0 p1 x_CHILD x_ATTRIBUTE x_NAMESPACE x_DESCENDANT x_DESCENDANT_OR_SELF x_SUBTREE_ATTRIBUTE h0 n0 _ T20.heap _
  rw [e20]
  exact ⟨rfl, N0, rfl⟩
def s_DESCENDANT_77_t0  : Int32 := (0 : Int32)
def s_DESCENDANT_73_t0  : Int32 := (1 : Int32)
def s_DESCENDANT_61_t0 (i1 : Int32) (i2 : Int32) (i3 : Int32) : Int32 := if i2 = (0 : Int32) then (if i1 = (0 : Int32) then s_DESCENDANT_77_t0 else if i3 = (0 : Int32) then s_DESCENDANT_77_t0 else s_DESCENDANT_73_t0) else s_DESCENDANT_73_t0
set_option maxRecDepth 65536 in
set_option maxHeartbeats 40000000 in
theorem s_DESCENDANT_77 {p : Program} {l : Launch} {e : Env} {R : Room} {s : State} {m : MethodId} {args : Array Value} {below : List Frame} {meth : Method} {c : Code} {T : State} {locs : List Loc} {cells slots : Nat} {Z : State} {a0 : Array Value} {target : State} (o0 : Addr) (i1 : Int32) (i2 : Int32) (i3 : Int32) (X : Stand p l e R s m args below meth c T locs cells slots) (hx : p.tables.exec = Jvm.exec) (hZ : Z.Warmed39 s.vm) (hw : ∀ d ∈ tables_1, d.before a0 Z = true) (hby : c.code = prog_1_method_8_code) (hown : s.vm.findClass "com/example/node_sieve/nodesieve/Axis" = some m.cls) (k : Steps p.tables e below (T.setTop (mkF m 78 #[.val (.ref o0), .val (.int i1), .val (.int i2), .val (.int i3)] [(.int (s_DESCENDANT_77_t0))])) target) :
    Steps p.tables e below (T.setTop (mkF m 77 #[.val (.ref o0), .val (.int i1), .val (.int i2), .val (.int i3)] [])) target := by
  show Steps p.tables e below (T.setTop (mkF m 77 #[.val (.ref o0), .val (.int i1), .val (.int i2), .val (.int i3)] [])) _
  refine XS.iconst X.here hx rfl (hb hby d1_77) ?_
  have e_t0 : (s_DESCENDANT_77_t0) = (0 : Int32) := by rfl
  rw [e_t0] at k
  exact k
set_option maxRecDepth 65536 in
set_option maxHeartbeats 40000000 in
theorem s_DESCENDANT_73 {p : Program} {l : Launch} {e : Env} {R : Room} {s : State} {m : MethodId} {args : Array Value} {below : List Frame} {meth : Method} {c : Code} {T : State} {locs : List Loc} {cells slots : Nat} {Z : State} {a0 : Array Value} {target : State} (o0 : Addr) (i1 : Int32) (i2 : Int32) (i3 : Int32) (X : Stand p l e R s m args below meth c T locs cells slots) (hx : p.tables.exec = Jvm.exec) (hZ : Z.Warmed39 s.vm) (hw : ∀ d ∈ tables_1, d.before a0 Z = true) (hby : c.code = prog_1_method_8_code) (hown : s.vm.findClass "com/example/node_sieve/nodesieve/Axis" = some m.cls) (k : Steps p.tables e below (T.setTop (mkF m 78 #[.val (.ref o0), .val (.int i1), .val (.int i2), .val (.int i3)] [(.int (s_DESCENDANT_73_t0))])) target) :
    Steps p.tables e below (T.setTop (mkF m 73 #[.val (.ref o0), .val (.int i1), .val (.int i2), .val (.int i3)] [])) target := by
  show Steps p.tables e below (T.setTop (mkF m 73 #[.val (.ref o0), .val (.int i1), .val (.int i2), .val (.int i3)] [])) _
  refine XS.iconst X.here hx rfl (hb hby d1_73) ?_
  show Steps p.tables e below (T.setTop (mkF m 74 #[.val (.ref o0), .val (.int i1), .val (.int i2), .val (.int i3)] [(.int (1 : Int32))])) _
  refine XS.goto X.here hx rfl (pc0 := 74) (pc' := 78) rfl (hb hby d1_74) (by decide) (by decide) ?_
  have e_t0 : (s_DESCENDANT_73_t0) = (1 : Int32) := by rfl
  rw [e_t0] at k
  exact k
set_option maxRecDepth 65536 in
set_option maxHeartbeats 40000000 in
theorem s_DESCENDANT_61 {p : Program} {l : Launch} {e : Env} {R : Room} {s : State} {m : MethodId} {args : Array Value} {below : List Frame} {meth : Method} {c : Code} {T : State} {locs : List Loc} {cells slots : Nat} {Z : State} {a0 : Array Value} {target : State} (o0 : Addr) (i1 : Int32) (i2 : Int32) (i3 : Int32) (X : Stand p l e R s m args below meth c T locs cells slots) (hx : p.tables.exec = Jvm.exec) (hZ : Z.Warmed39 s.vm) (hw : ∀ d ∈ tables_1, d.before a0 Z = true) (hby : c.code = prog_1_method_8_code) (hown : s.vm.findClass "com/example/node_sieve/nodesieve/Axis" = some m.cls) (k : Steps p.tables e below (T.setTop (mkF m 78 #[.val (.ref o0), .val (.int i1), .val (.int i2), .val (.int i3)] [(.int (s_DESCENDANT_61_t0 i1 i2 i3))])) target) :
    Steps p.tables e below (T.setTop (mkF m 61 #[.val (.ref o0), .val (.int i1), .val (.int i2), .val (.int i3)] [])) target := by
  show Steps p.tables e below (T.setTop (mkF m 61 #[.val (.ref o0), .val (.int i1), .val (.int i2), .val (.int i3)] [])) _
  refine XS.iloadN X.here hx rfl (hb hby d1_61) rfl ?_
  show Steps p.tables e below (T.setTop (mkF m 62 #[.val (.ref o0), .val (.int i1), .val (.int i2), .val (.int i3)] [(.int i2)])) _
  by_cases q62 : i2 = (0 : Int32)
  · refine XS.ifNo X.here hx rfl (hb hby d1_62) rfl ((if0 _ _).trans (teq q62).2) ?_
    show Steps p.tables e below (T.setTop (mkF m 65 #[.val (.ref o0), .val (.int i1), .val (.int i2), .val (.int i3)] [])) _
    refine XS.iloadN X.here hx rfl (hb hby d1_65) rfl ?_
    show Steps p.tables e below (T.setTop (mkF m 66 #[.val (.ref o0), .val (.int i1), .val (.int i2), .val (.int i3)] [(.int i1)])) _
    by_cases q66 : i1 = (0 : Int32)
    · refine XS.ifYes X.here hx rfl (pc0 := 66) (pc' := 77) rfl (hb hby d1_66) rfl ((if0 _ _).trans (teq q66).1) (by decide) (by decide) ?_
      have e_t0 : (s_DESCENDANT_61_t0 i1 i2 i3) = s_DESCENDANT_77_t0 := by unfold s_DESCENDANT_61_t0; rw [if_pos q62, if_pos q66]
      rw [e_t0] at k
      exact s_DESCENDANT_77 o0 i1 i2 i3 X hx hZ hw hby hown k
    · refine XS.ifNo X.here hx rfl (hb hby d1_66) rfl ((if0 _ _).trans (feq q66).1) ?_
      show Steps p.tables e below (T.setTop (mkF m 69 #[.val (.ref o0), .val (.int i1), .val (.int i2), .val (.int i3)] [])) _
      refine XS.iloadN X.here hx rfl (hb hby d1_69) rfl ?_
      show Steps p.tables e below (T.setTop (mkF m 70 #[.val (.ref o0), .val (.int i1), .val (.int i2), .val (.int i3)] [(.int i3)])) _
      by_cases q70 : i3 = (0 : Int32)
      · refine XS.ifYes X.here hx rfl (pc0 := 70) (pc' := 77) rfl (hb hby d1_70) rfl ((if0 _ _).trans (teq q70).1) (by decide) (by decide) ?_
        have e_t0 : (s_DESCENDANT_61_t0 i1 i2 i3) = s_DESCENDANT_77_t0 := by unfold s_DESCENDANT_61_t0; rw [if_pos q62, if_neg q66, if_pos q70]
        rw [e_t0] at k
        exact s_DESCENDANT_77 o0 i1 i2 i3 X hx hZ hw hby hown k
      · refine XS.ifNo X.here hx rfl (hb hby d1_70) rfl ((if0 _ _).trans (feq q70).1) ?_
        have e_t0 : (s_DESCENDANT_61_t0 i1 i2 i3) = s_DESCENDANT_73_t0 := by unfold s_DESCENDANT_61_t0; rw [if_pos q62, if_neg q66, if_neg q70]
        rw [e_t0] at k
        exact s_DESCENDANT_73 o0 i1 i2 i3 X hx hZ hw hby hown k
  · refine XS.ifYes X.here hx rfl (pc0 := 62) (pc' := 73) rfl (hb hby d1_62) rfl ((if0 _ _).trans (feq q62).2) (by decide) (by decide) ?_
    have e_t0 : (s_DESCENDANT_61_t0 i1 i2 i3) = s_DESCENDANT_73_t0 := by unfold s_DESCENDANT_61_t0; rw [if_neg q62]
    rw [e_t0] at k
    exact s_DESCENDANT_73 o0 i1 i2 i3 X hx hZ hw hby hown k
theorem z01_s_DESCENDANT_77_t0  : (s_DESCENDANT_77_t0) = 0 ∨ (s_DESCENDANT_77_t0) = 1 := by
  unfold s_DESCENDANT_77_t0
  repeat' split
  all_goals first | exact Or.inl rfl | exact Or.inr rfl
theorem z01_s_DESCENDANT_73_t0  : (s_DESCENDANT_73_t0) = 0 ∨ (s_DESCENDANT_73_t0) = 1 := by
  unfold s_DESCENDANT_73_t0
  repeat' split
  all_goals first | exact Or.inl rfl | exact Or.inr rfl
theorem z01_s_DESCENDANT_61_t0 (i1 : Int32) (i2 : Int32) (i3 : Int32) : (s_DESCENDANT_61_t0 i1 i2 i3) = 0 ∨ (s_DESCENDANT_61_t0 i1 i2 i3) = 1 := by
  unfold s_DESCENDANT_61_t0
  repeat' split
  all_goals first | exact Or.inl rfl | exact Or.inr rfl | exact z01_s_DESCENDANT_77_t0  | exact z01_s_DESCENDANT_73_t0 
theorem nz_s_DESCENDANT (p1 : Int32) : nar .boolean (s_DESCENDANT_61_t0 p1 (0 : Int32) (1 : Int32)) = (s_DESCENDANT_61_t0 p1 (0 : Int32) (1 : Int32)) := by rcases z01_s_DESCENDANT_61_t0 p1 (0 : Int32) (1 : Int32) with h | h <;> rw [h] <;> rfl
theorem ef_rm1_DESCENDANT (m : MethodId) (x0 : Addr) (x1 : Int32) : entryFrame m #[(.ref x0), (.int x1)] 4 = mkF m 0 #[.val (.ref x0), .val (.int x1), .unset, .unset] [] := by first | (simp [entryFrame, mkF, argsToLocals, Value.category]; done) | rfl
def Q_rm1_DESCENDANT (Z : State) (o0 : Addr) (p1 : Int32) (x_CHILD x_ATTRIBUTE x_NAMESPACE x_SELF x_DESCENDANT_OR_SELF x_SUBTREE_ATTRIBUTE : Addr) (h0 : Heap) (n0 : Nat) (v : Option Value) (h : Heap) (L : List Loc) : Prop := v = some (.int (s_DESCENDANT_61_t0 p1 (0 : Int32) (1 : Int32))) ∧ Fr n0 L ∧ h = h0
set_option maxRecDepth 65536 in
set_option maxHeartbeats 40000000 in
theorem rm1_DESCENDANT (l : Launch) (Z : State) (a0 : Array Value) (hw : ∀ d ∈ tables_1, d.before a0 Z = true) (ws : List Jvm.Cond) (o0 : Addr) (p1 : Int32) (x_CHILD x_ATTRIBUTE x_NAMESPACE x_SELF x_DESCENDANT_OR_SELF x_SUBTREE_ATTRIBUTE : Addr) (h0 : Heap) (n0 : Nat) (Z0 : n0 ≤ h0.size) (S_CHILD : Sta Z h0 "com/example/node_sieve/nodesieve/Axis" "CHILD" "Lcom/example/node_sieve/nodesieve/Axis;" (.ref x_CHILD)) (S_ATTRIBUTE : Sta Z h0 "com/example/node_sieve/nodesieve/Axis" "ATTRIBUTE" "Lcom/example/node_sieve/nodesieve/Axis;" (.ref x_ATTRIBUTE)) (S_NAMESPACE : Sta Z h0 "com/example/node_sieve/nodesieve/Axis" "NAMESPACE" "Lcom/example/node_sieve/nodesieve/Axis;" (.ref x_NAMESPACE)) (S_SELF : Sta Z h0 "com/example/node_sieve/nodesieve/Axis" "SELF" "Lcom/example/node_sieve/nodesieve/Axis;" (.ref x_SELF)) (S_DESCENDANT : Sta Z h0 "com/example/node_sieve/nodesieve/Axis" "DESCENDANT" "Lcom/example/node_sieve/nodesieve/Axis;" (.ref o0)) (S_DESCENDANT_OR_SELF : Sta Z h0 "com/example/node_sieve/nodesieve/Axis" "DESCENDANT_OR_SELF" "Lcom/example/node_sieve/nodesieve/Axis;" (.ref x_DESCENDANT_OR_SELF)) (S_SUBTREE_ATTRIBUTE : Sta Z h0 "com/example/node_sieve/nodesieve/Axis" "SUBTREE_ATTRIBUTE" "Lcom/example/node_sieve/nodesieve/Axis;" (.ref x_SUBTREE_ATTRIBUTE)) (ne_CHILD : ¬ o0 = x_CHILD) (ne_ATTRIBUTE : ¬ o0 = x_ATTRIBUTE) (ne_NAMESPACE : ¬ o0 = x_NAMESPACE) (ne_SELF : ¬ o0 = x_SELF) (ne_DESCENDANT_OR_SELF : ¬ o0 = x_DESCENDANT_OR_SELF) (ne_SUBTREE_ATTRIBUTE : ¬ o0 = x_SUBTREE_ATTRIBUTE) :
    MetFree l (⟨"com/example/node_sieve/nodesieve/Axis", "selectsOnce", "(Z)Z"⟩ : MethodName) (head1 (Jvm.Cond.code (⟨"com/example/node_sieve/nodesieve/Axis", "selectsOnce", "(Z)Z"⟩ : MethodName) prog_1_method_8_code 4 (some .boolean) :: ws) ({ frames := 0, cells := 0, slots := 0, locals := 0 } : Room)) (fun a U => a = #[(.ref o0), (.int p1)] ∧ Z.Warmed39 U.vm ∧ U.heap = h0) (fun _ _ _ _ _ => True) (fun _ U o U' => ∃ v L, o = .returned v ∧ Q_rm1_DESCENDANT Z o0 p1 x_CHILD x_ATTRIBUTE x_NAMESPACE x_SELF x_DESCENDANT_OR_SELF x_SUBTREE_ATTRIBUTE h0 n0 v U'.heap L ∧ FrameEnd U o U' L ({ frames := 0, cells := 0, slots := 0, locals := 0 } : Room).cells ({ frames := 0, cells := 0, slots := 0, locals := 0 } : Room).slots) := by
  refine MetFree.of_bodySF (plainFor_of_name pn_0) hisR ?_
  intro p e s m args below meth c s₁ Bd hml0 hP hK
  obtain ⟨rfl, hZ, hh⟩ := hP
  have hx := Bd.exec
  have hby := Bd.bytes
  have hml : c.maxLocals = 4 := hml0
  have hown : s.vm.findClass "com/example/node_sieve/nodesieve/Axis" = some m.cls := findClass_of_methodNamed Bd.named
  have hnm := (name_of_methodNamed Bd.named Bd.method).1
  have X0 : Stand p l e ({ frames := 0, cells := 0, slots := 0, locals := 0 } : Room) s m #[(.ref o0), (.int p1)] below meth c s₁ [] 0 0 := Stand.of_body Bd
  have e0 : s₁.heap = h0 := by rw [← hh, Bd.state]; rfl
  have N0 := Fr.nil n0
  have c0 : ∀ τ, Steps p.tables e below (s₁.setTop (mkF m 0 #[.val (.ref o0), .val (.int p1), .unset, .unset] [])) τ → Steps p.tables e below (s₁.setTop (entryFrame m #[(.ref o0), (.int p1)] 4)) τ := fun τ κ => castTop (ef_rm1_DESCENDANT m o0 p1) κ
  have c1 : ∀ τ, Steps p.tables e below (s₁.setTop (mkF m 1 #[.val (.ref o0), .val (.int p1), .unset, .unset] [(.ref o0)])) τ → Steps p.tables e below (s₁.setTop (entryFrame m #[(.ref o0), (.int p1)] 4)) τ := fun τ κ => c0 τ (by
      show Steps p.tables e below (s₁.setTop (mkF m 0 #[.val (.ref o0), .val (.int p1), .unset, .unset] [])) _
      refine XS.aloadN X0.here hx rfl (hb hby d1_0) rfl rfl ?_
      exact κ)
  obtain ⟨T2, X2, e2, st2⟩ := getS2 X0 hx hZ hown (host := "") (Or.inl (hw _ (List.mem_of_getElem? (i := 51) rfl))) Via.refl e0 S_CHILD (g := (mkF m 1 #[.val (.ref o0), .val (.int p1), .unset, .unset] [(.ref o0)])) rfl (hb hby d1_1)
  have c3 : ∀ τ, Steps p.tables e below (T2.setTop (mkF m 4 #[.val (.ref o0), .val (.int p1), .unset, .unset] [(.ref x_CHILD), (.ref o0)])) τ → Steps p.tables e below (s₁.setTop (entryFrame m #[(.ref o0), (.int p1)] 4)) τ := fun τ κ => c1 τ (st2 τ κ)
  have c4 : ∀ τ, Steps p.tables e below (T2.setTop (mkF m 8 #[.val (.ref o0), .val (.int p1), .unset, .unset] [(.ref o0)])) τ → Steps p.tables e below (s₁.setTop (entryFrame m #[(.ref o0), (.int p1)] 4)) τ := fun τ κ => c3 τ (by
      show Steps p.tables e below (T2.setTop (mkF m 4 #[.val (.ref o0), .val (.int p1), .unset, .unset] [(.ref x_CHILD), (.ref o0)])) _
      refine Jvm.RoadKit.acmp (g := (mkF m 4 #[.val (.ref o0), .val (.int p1), .unset, .unset] [(.ref x_CHILD), (.ref o0)])) X2 hx rfl rfl rfl (pc0 := 4) (pc' := 7) (same := false) rfl (hb hby d1_4) rfl (decide_eq_false fun q => ne_CHILD (Value.ref.inj q)) (by decide) (by decide) ?_
      show Steps p.tables e below (T2.setTop (mkF m 7 #[.val (.ref o0), .val (.int p1), .unset, .unset] [])) _
      refine XS.aloadN X2.here hx rfl (hb hby d1_7) rfl rfl ?_
      exact κ)
  obtain ⟨T5, X5, e5, st5⟩ := getS2 X2 hx hZ hown (host := "") (Or.inl (hw _ (List.mem_of_getElem? (i := 56) rfl))) Via.refl e2 S_ATTRIBUTE (g := (mkF m 8 #[.val (.ref o0), .val (.int p1), .unset, .unset] [(.ref o0)])) rfl (hb hby d1_8)
  have c6 : ∀ τ, Steps p.tables e below (T5.setTop (mkF m 11 #[.val (.ref o0), .val (.int p1), .unset, .unset] [(.ref x_ATTRIBUTE), (.ref o0)])) τ → Steps p.tables e below (s₁.setTop (entryFrame m #[(.ref o0), (.int p1)] 4)) τ := fun τ κ => c4 τ (st5 τ κ)
  have c7 : ∀ τ, Steps p.tables e below (T5.setTop (mkF m 15 #[.val (.ref o0), .val (.int p1), .unset, .unset] [(.ref o0)])) τ → Steps p.tables e below (s₁.setTop (entryFrame m #[(.ref o0), (.int p1)] 4)) τ := fun τ κ => c6 τ (by
      show Steps p.tables e below (T5.setTop (mkF m 11 #[.val (.ref o0), .val (.int p1), .unset, .unset] [(.ref x_ATTRIBUTE), (.ref o0)])) _
      refine Jvm.RoadKit.acmp (g := (mkF m 11 #[.val (.ref o0), .val (.int p1), .unset, .unset] [(.ref x_ATTRIBUTE), (.ref o0)])) X5 hx rfl rfl rfl (pc0 := 11) (pc' := 14) (same := false) rfl (hb hby d1_11) rfl (decide_eq_false fun q => ne_ATTRIBUTE (Value.ref.inj q)) (by decide) (by decide) ?_
      show Steps p.tables e below (T5.setTop (mkF m 14 #[.val (.ref o0), .val (.int p1), .unset, .unset] [])) _
      refine XS.aloadN X5.here hx rfl (hb hby d1_14) rfl rfl ?_
      exact κ)
  obtain ⟨T8, X8, e8, st8⟩ := getS2 X5 hx hZ hown (host := "") (Or.inl (hw _ (List.mem_of_getElem? (i := 57) rfl))) Via.refl e5 S_NAMESPACE (g := (mkF m 15 #[.val (.ref o0), .val (.int p1), .unset, .unset] [(.ref o0)])) rfl (hb hby d1_15)
  have c9 : ∀ τ, Steps p.tables e below (T8.setTop (mkF m 18 #[.val (.ref o0), .val (.int p1), .unset, .unset] [(.ref x_NAMESPACE), (.ref o0)])) τ → Steps p.tables e below (s₁.setTop (entryFrame m #[(.ref o0), (.int p1)] 4)) τ := fun τ κ => c7 τ (st8 τ κ)
  have c10 : ∀ τ, Steps p.tables e below (T8.setTop (mkF m 22 #[.val (.ref o0), .val (.int p1), .unset, .unset] [(.ref o0)])) τ → Steps p.tables e below (s₁.setTop (entryFrame m #[(.ref o0), (.int p1)] 4)) τ := fun τ κ => c9 τ (by
      show Steps p.tables e below (T8.setTop (mkF m 18 #[.val (.ref o0), .val (.int p1), .unset, .unset] [(.ref x_NAMESPACE), (.ref o0)])) _
      refine Jvm.RoadKit.acmp (g := (mkF m 18 #[.val (.ref o0), .val (.int p1), .unset, .unset] [(.ref x_NAMESPACE), (.ref o0)])) X8 hx rfl rfl rfl (pc0 := 18) (pc' := 21) (same := false) rfl (hb hby d1_18) rfl (decide_eq_false fun q => ne_NAMESPACE (Value.ref.inj q)) (by decide) (by decide) ?_
      show Steps p.tables e below (T8.setTop (mkF m 21 #[.val (.ref o0), .val (.int p1), .unset, .unset] [])) _
      refine XS.aloadN X8.here hx rfl (hb hby d1_21) rfl rfl ?_
      exact κ)
  obtain ⟨T11, X11, e11, st11⟩ := getS2 X8 hx hZ hown (host := "") (Or.inl (hw _ (List.mem_of_getElem? (i := 58) rfl))) Via.refl e8 S_SELF (g := (mkF m 22 #[.val (.ref o0), .val (.int p1), .unset, .unset] [(.ref o0)])) rfl (hb hby d1_22)
  have c12 : ∀ τ, Steps p.tables e below (T11.setTop (mkF m 25 #[.val (.ref o0), .val (.int p1), .unset, .unset] [(.ref x_SELF), (.ref o0)])) τ → Steps p.tables e below (s₁.setTop (entryFrame m #[(.ref o0), (.int p1)] 4)) τ := fun τ κ => c10 τ (st11 τ κ)
  have c13 : ∀ τ, Steps p.tables e below (T11.setTop (mkF m 35 #[.val (.ref o0), .val (.int p1), .val (.int (0 : Int32)), .unset] [(.ref o0)])) τ → Steps p.tables e below (s₁.setTop (entryFrame m #[(.ref o0), (.int p1)] 4)) τ := fun τ κ => c12 τ (by
      show Steps p.tables e below (T11.setTop (mkF m 25 #[.val (.ref o0), .val (.int p1), .unset, .unset] [(.ref x_SELF), (.ref o0)])) _
      refine Jvm.RoadKit.acmp (g := (mkF m 25 #[.val (.ref o0), .val (.int p1), .unset, .unset] [(.ref x_SELF), (.ref o0)])) X11 hx rfl rfl rfl (pc0 := 25) (pc' := 32) (same := false) rfl (hb hby d1_25) rfl (decide_eq_false fun q => ne_SELF (Value.ref.inj q)) (by decide) (by decide) ?_
      show Steps p.tables e below (T11.setTop (mkF m 32 #[.val (.ref o0), .val (.int p1), .unset, .unset] [])) _
      refine XS.iconst X11.here hx rfl (hb hby d1_32) ?_
      show Steps p.tables e below (T11.setTop (mkF m 33 #[.val (.ref o0), .val (.int p1), .unset, .unset] [(.int (0 : Int32))])) _
      refine XS.istoreN X11.here hx rfl (hb hby d1_33) rfl (l' := #[.val (.ref o0), .val (.int p1), .val (.int (0 : Int32)), .unset]) rfl ?_
      show Steps p.tables e below (T11.setTop (mkF m 34 #[.val (.ref o0), .val (.int p1), .val (.int (0 : Int32)), .unset] [])) _
      refine XS.aloadN X11.here hx rfl (hb hby d1_34) rfl rfl ?_
      exact κ)
  obtain ⟨T14, X14, e14, st14⟩ := getS2 X11 hx hZ hown (host := "") (Or.inl (hw _ (List.mem_of_getElem? (i := 52) rfl))) Via.refl e11 S_DESCENDANT (g := (mkF m 35 #[.val (.ref o0), .val (.int p1), .val (.int (0 : Int32)), .unset] [(.ref o0)])) rfl (hb hby d1_35)
  have c15 : ∀ τ, Steps p.tables e below (T14.setTop (mkF m 38 #[.val (.ref o0), .val (.int p1), .val (.int (0 : Int32)), .unset] [(.ref o0), (.ref o0)])) τ → Steps p.tables e below (s₁.setTop (entryFrame m #[(.ref o0), (.int p1)] 4)) τ := fun τ κ => c13 τ (st14 τ κ)
  have c16 : ∀ τ, Steps p.tables e below (T14.setTop (mkF m 61 #[.val (.ref o0), .val (.int p1), .val (.int (0 : Int32)), .val (.int (1 : Int32))] [])) τ → Steps p.tables e below (s₁.setTop (entryFrame m #[(.ref o0), (.int p1)] 4)) τ := fun τ κ => c15 τ (by
      show Steps p.tables e below (T14.setTop (mkF m 38 #[.val (.ref o0), .val (.int p1), .val (.int (0 : Int32)), .unset] [(.ref o0), (.ref o0)])) _
      refine Jvm.RoadKit.acmp (g := (mkF m 38 #[.val (.ref o0), .val (.int p1), .val (.int (0 : Int32)), .unset] [(.ref o0), (.ref o0)])) X14 hx rfl rfl rfl (pc0 := 38) (pc' := 55) (same := true) rfl (hb hby d1_38) rfl (decide_eq_true (congrArg Value.ref (rfl : o0 = o0))) (by decide) (by decide) ?_
      show Steps p.tables e below (T14.setTop (mkF m 55 #[.val (.ref o0), .val (.int p1), .val (.int (0 : Int32)), .unset] [])) _
      refine XS.iconst X14.here hx rfl (hb hby d1_55) ?_
      show Steps p.tables e below (T14.setTop (mkF m 56 #[.val (.ref o0), .val (.int p1), .val (.int (0 : Int32)), .unset] [(.int (1 : Int32))])) _
      refine XS.goto X14.here hx rfl (pc0 := 56) (pc' := 60) rfl (hb hby d1_56) (by decide) (by decide) ?_
      show Steps p.tables e below (T14.setTop (mkF m 60 #[.val (.ref o0), .val (.int p1), .val (.int (0 : Int32)), .unset] [(.int (1 : Int32))])) _
      refine XS.istoreN X14.here hx rfl (hb hby d1_60) rfl (l' := #[.val (.ref o0), .val (.int p1), .val (.int (0 : Int32)), .val (.int (1 : Int32))]) rfl ?_
      exact κ)
  have c17 : ∀ τ, Steps p.tables e below (T14.setTop (mkF m 78 #[.val (.ref o0), .val (.int p1), .val (.int (0 : Int32)), .val (.int (1 : Int32))] [(.int (s_DESCENDANT_61_t0 p1 (0 : Int32) (1 : Int32)))])) τ → Steps p.tables e below (s₁.setTop (entryFrame m #[(.ref o0), (.int p1)] 4)) τ := fun τ κ => c16 τ (s_DESCENDANT_61 o0 p1 (0 : Int32) (1 : Int32) X14 hx hZ hw hby hown κ)
  obtain ⟨fs, hr, hrun, hended, hW, hsame⟩ := X14.leave (v := some (.int (s_DESCENDANT_61_t0 p1 (0 : Int32) (1 : Int32)))) (fun h => by rw [Bd.returns] at h; cases h)
  refine ⟨_, _, c17 _ (retN X14 hx (t := .boolean) Bd.returns (by simp) (hb hby d1_78) (by rw [nz_s_DESCENDANT p1]; exact hr)), hrun, hended, _, _, rfl, ?_, ⟨_, rfl⟩, hW, hsame.mono (by decide) (by decide)⟩
  show Q_rm1_DESCENDANT Z o0 p1 x_CHILD x_ATTRIBUTE x_NAMESPACE x_SELF x_DESCENDANT_OR_SELF x_SUBTREE_ATTRIBUTE h0 n0 _ T14.heap _
  rw [e14]
  exact ⟨rfl, N0, rfl⟩
def s_DESCENDANT_OR_SELF_77_t0  : Int32 := (0 : Int32)
def s_DESCENDANT_OR_SELF_73_t0  : Int32 := (1 : Int32)
def s_DESCENDANT_OR_SELF_61_t0 (i1 : Int32) (i2 : Int32) (i3 : Int32) : Int32 := if i2 = (0 : Int32) then (if i1 = (0 : Int32) then s_DESCENDANT_OR_SELF_77_t0 else if i3 = (0 : Int32) then s_DESCENDANT_OR_SELF_77_t0 else s_DESCENDANT_OR_SELF_73_t0) else s_DESCENDANT_OR_SELF_73_t0
set_option maxRecDepth 65536 in
set_option maxHeartbeats 40000000 in
theorem s_DESCENDANT_OR_SELF_77 {p : Program} {l : Launch} {e : Env} {R : Room} {s : State} {m : MethodId} {args : Array Value} {below : List Frame} {meth : Method} {c : Code} {T : State} {locs : List Loc} {cells slots : Nat} {Z : State} {a0 : Array Value} {target : State} (o0 : Addr) (i1 : Int32) (i2 : Int32) (i3 : Int32) (X : Stand p l e R s m args below meth c T locs cells slots) (hx : p.tables.exec = Jvm.exec) (hZ : Z.Warmed39 s.vm) (hw : ∀ d ∈ tables_1, d.before a0 Z = true) (hby : c.code = prog_1_method_8_code) (hown : s.vm.findClass "com/example/node_sieve/nodesieve/Axis" = some m.cls) (k : Steps p.tables e below (T.setTop (mkF m 78 #[.val (.ref o0), .val (.int i1), .val (.int i2), .val (.int i3)] [(.int (s_DESCENDANT_OR_SELF_77_t0))])) target) :
    Steps p.tables e below (T.setTop (mkF m 77 #[.val (.ref o0), .val (.int i1), .val (.int i2), .val (.int i3)] [])) target := by
  show Steps p.tables e below (T.setTop (mkF m 77 #[.val (.ref o0), .val (.int i1), .val (.int i2), .val (.int i3)] [])) _
  refine XS.iconst X.here hx rfl (hb hby d1_77) ?_
  have e_t0 : (s_DESCENDANT_OR_SELF_77_t0) = (0 : Int32) := by rfl
  rw [e_t0] at k
  exact k
set_option maxRecDepth 65536 in
set_option maxHeartbeats 40000000 in
theorem s_DESCENDANT_OR_SELF_73 {p : Program} {l : Launch} {e : Env} {R : Room} {s : State} {m : MethodId} {args : Array Value} {below : List Frame} {meth : Method} {c : Code} {T : State} {locs : List Loc} {cells slots : Nat} {Z : State} {a0 : Array Value} {target : State} (o0 : Addr) (i1 : Int32) (i2 : Int32) (i3 : Int32) (X : Stand p l e R s m args below meth c T locs cells slots) (hx : p.tables.exec = Jvm.exec) (hZ : Z.Warmed39 s.vm) (hw : ∀ d ∈ tables_1, d.before a0 Z = true) (hby : c.code = prog_1_method_8_code) (hown : s.vm.findClass "com/example/node_sieve/nodesieve/Axis" = some m.cls) (k : Steps p.tables e below (T.setTop (mkF m 78 #[.val (.ref o0), .val (.int i1), .val (.int i2), .val (.int i3)] [(.int (s_DESCENDANT_OR_SELF_73_t0))])) target) :
    Steps p.tables e below (T.setTop (mkF m 73 #[.val (.ref o0), .val (.int i1), .val (.int i2), .val (.int i3)] [])) target := by
  show Steps p.tables e below (T.setTop (mkF m 73 #[.val (.ref o0), .val (.int i1), .val (.int i2), .val (.int i3)] [])) _
  refine XS.iconst X.here hx rfl (hb hby d1_73) ?_
  show Steps p.tables e below (T.setTop (mkF m 74 #[.val (.ref o0), .val (.int i1), .val (.int i2), .val (.int i3)] [(.int (1 : Int32))])) _
  refine XS.goto X.here hx rfl (pc0 := 74) (pc' := 78) rfl (hb hby d1_74) (by decide) (by decide) ?_
  have e_t0 : (s_DESCENDANT_OR_SELF_73_t0) = (1 : Int32) := by rfl
  rw [e_t0] at k
  exact k
set_option maxRecDepth 65536 in
set_option maxHeartbeats 40000000 in
theorem s_DESCENDANT_OR_SELF_61 {p : Program} {l : Launch} {e : Env} {R : Room} {s : State} {m : MethodId} {args : Array Value} {below : List Frame} {meth : Method} {c : Code} {T : State} {locs : List Loc} {cells slots : Nat} {Z : State} {a0 : Array Value} {target : State} (o0 : Addr) (i1 : Int32) (i2 : Int32) (i3 : Int32) (X : Stand p l e R s m args below meth c T locs cells slots) (hx : p.tables.exec = Jvm.exec) (hZ : Z.Warmed39 s.vm) (hw : ∀ d ∈ tables_1, d.before a0 Z = true) (hby : c.code = prog_1_method_8_code) (hown : s.vm.findClass "com/example/node_sieve/nodesieve/Axis" = some m.cls) (k : Steps p.tables e below (T.setTop (mkF m 78 #[.val (.ref o0), .val (.int i1), .val (.int i2), .val (.int i3)] [(.int (s_DESCENDANT_OR_SELF_61_t0 i1 i2 i3))])) target) :
    Steps p.tables e below (T.setTop (mkF m 61 #[.val (.ref o0), .val (.int i1), .val (.int i2), .val (.int i3)] [])) target := by
  show Steps p.tables e below (T.setTop (mkF m 61 #[.val (.ref o0), .val (.int i1), .val (.int i2), .val (.int i3)] [])) _
  refine XS.iloadN X.here hx rfl (hb hby d1_61) rfl ?_
  show Steps p.tables e below (T.setTop (mkF m 62 #[.val (.ref o0), .val (.int i1), .val (.int i2), .val (.int i3)] [(.int i2)])) _
  by_cases q62 : i2 = (0 : Int32)
  · refine XS.ifNo X.here hx rfl (hb hby d1_62) rfl ((if0 _ _).trans (teq q62).2) ?_
    show Steps p.tables e below (T.setTop (mkF m 65 #[.val (.ref o0), .val (.int i1), .val (.int i2), .val (.int i3)] [])) _
    refine XS.iloadN X.here hx rfl (hb hby d1_65) rfl ?_
    show Steps p.tables e below (T.setTop (mkF m 66 #[.val (.ref o0), .val (.int i1), .val (.int i2), .val (.int i3)] [(.int i1)])) _
    by_cases q66 : i1 = (0 : Int32)
    · refine XS.ifYes X.here hx rfl (pc0 := 66) (pc' := 77) rfl (hb hby d1_66) rfl ((if0 _ _).trans (teq q66).1) (by decide) (by decide) ?_
      have e_t0 : (s_DESCENDANT_OR_SELF_61_t0 i1 i2 i3) = s_DESCENDANT_OR_SELF_77_t0 := by unfold s_DESCENDANT_OR_SELF_61_t0; rw [if_pos q62, if_pos q66]
      rw [e_t0] at k
      exact s_DESCENDANT_OR_SELF_77 o0 i1 i2 i3 X hx hZ hw hby hown k
    · refine XS.ifNo X.here hx rfl (hb hby d1_66) rfl ((if0 _ _).trans (feq q66).1) ?_
      show Steps p.tables e below (T.setTop (mkF m 69 #[.val (.ref o0), .val (.int i1), .val (.int i2), .val (.int i3)] [])) _
      refine XS.iloadN X.here hx rfl (hb hby d1_69) rfl ?_
      show Steps p.tables e below (T.setTop (mkF m 70 #[.val (.ref o0), .val (.int i1), .val (.int i2), .val (.int i3)] [(.int i3)])) _
      by_cases q70 : i3 = (0 : Int32)
      · refine XS.ifYes X.here hx rfl (pc0 := 70) (pc' := 77) rfl (hb hby d1_70) rfl ((if0 _ _).trans (teq q70).1) (by decide) (by decide) ?_
        have e_t0 : (s_DESCENDANT_OR_SELF_61_t0 i1 i2 i3) = s_DESCENDANT_OR_SELF_77_t0 := by unfold s_DESCENDANT_OR_SELF_61_t0; rw [if_pos q62, if_neg q66, if_pos q70]
        rw [e_t0] at k
        exact s_DESCENDANT_OR_SELF_77 o0 i1 i2 i3 X hx hZ hw hby hown k
      · refine XS.ifNo X.here hx rfl (hb hby d1_70) rfl ((if0 _ _).trans (feq q70).1) ?_
        have e_t0 : (s_DESCENDANT_OR_SELF_61_t0 i1 i2 i3) = s_DESCENDANT_OR_SELF_73_t0 := by unfold s_DESCENDANT_OR_SELF_61_t0; rw [if_pos q62, if_neg q66, if_neg q70]
        rw [e_t0] at k
        exact s_DESCENDANT_OR_SELF_73 o0 i1 i2 i3 X hx hZ hw hby hown k
  · refine XS.ifYes X.here hx rfl (pc0 := 62) (pc' := 73) rfl (hb hby d1_62) rfl ((if0 _ _).trans (feq q62).2) (by decide) (by decide) ?_
    have e_t0 : (s_DESCENDANT_OR_SELF_61_t0 i1 i2 i3) = s_DESCENDANT_OR_SELF_73_t0 := by unfold s_DESCENDANT_OR_SELF_61_t0; rw [if_neg q62]
    rw [e_t0] at k
    exact s_DESCENDANT_OR_SELF_73 o0 i1 i2 i3 X hx hZ hw hby hown k
theorem z01_s_DESCENDANT_OR_SELF_77_t0  : (s_DESCENDANT_OR_SELF_77_t0) = 0 ∨ (s_DESCENDANT_OR_SELF_77_t0) = 1 := by
  unfold s_DESCENDANT_OR_SELF_77_t0
  repeat' split
  all_goals first | exact Or.inl rfl | exact Or.inr rfl
theorem z01_s_DESCENDANT_OR_SELF_73_t0  : (s_DESCENDANT_OR_SELF_73_t0) = 0 ∨ (s_DESCENDANT_OR_SELF_73_t0) = 1 := by
  unfold s_DESCENDANT_OR_SELF_73_t0
  repeat' split
  all_goals first | exact Or.inl rfl | exact Or.inr rfl
theorem z01_s_DESCENDANT_OR_SELF_61_t0 (i1 : Int32) (i2 : Int32) (i3 : Int32) : (s_DESCENDANT_OR_SELF_61_t0 i1 i2 i3) = 0 ∨ (s_DESCENDANT_OR_SELF_61_t0 i1 i2 i3) = 1 := by
  unfold s_DESCENDANT_OR_SELF_61_t0
  repeat' split
  all_goals first | exact Or.inl rfl | exact Or.inr rfl | exact z01_s_DESCENDANT_OR_SELF_77_t0  | exact z01_s_DESCENDANT_OR_SELF_73_t0 
theorem nz_s_DESCENDANT_OR_SELF (p1 : Int32) : nar .boolean (s_DESCENDANT_OR_SELF_61_t0 p1 (0 : Int32) (1 : Int32)) = (s_DESCENDANT_OR_SELF_61_t0 p1 (0 : Int32) (1 : Int32)) := by rcases z01_s_DESCENDANT_OR_SELF_61_t0 p1 (0 : Int32) (1 : Int32) with h | h <;> rw [h] <;> rfl
theorem ef_rm1_DESCENDANT_OR_SELF (m : MethodId) (x0 : Addr) (x1 : Int32) : entryFrame m #[(.ref x0), (.int x1)] 4 = mkF m 0 #[.val (.ref x0), .val (.int x1), .unset, .unset] [] := by first | (simp [entryFrame, mkF, argsToLocals, Value.category]; done) | rfl
def Q_rm1_DESCENDANT_OR_SELF (Z : State) (o0 : Addr) (p1 : Int32) (x_CHILD x_ATTRIBUTE x_NAMESPACE x_SELF x_DESCENDANT x_SUBTREE_ATTRIBUTE : Addr) (h0 : Heap) (n0 : Nat) (v : Option Value) (h : Heap) (L : List Loc) : Prop := v = some (.int (s_DESCENDANT_OR_SELF_61_t0 p1 (0 : Int32) (1 : Int32))) ∧ Fr n0 L ∧ h = h0
set_option maxRecDepth 65536 in
set_option maxHeartbeats 40000000 in
theorem rm1_DESCENDANT_OR_SELF (l : Launch) (Z : State) (a0 : Array Value) (hw : ∀ d ∈ tables_1, d.before a0 Z = true) (ws : List Jvm.Cond) (o0 : Addr) (p1 : Int32) (x_CHILD x_ATTRIBUTE x_NAMESPACE x_SELF x_DESCENDANT x_SUBTREE_ATTRIBUTE : Addr) (h0 : Heap) (n0 : Nat) (Z0 : n0 ≤ h0.size) (S_CHILD : Sta Z h0 "com/example/node_sieve/nodesieve/Axis" "CHILD" "Lcom/example/node_sieve/nodesieve/Axis;" (.ref x_CHILD)) (S_ATTRIBUTE : Sta Z h0 "com/example/node_sieve/nodesieve/Axis" "ATTRIBUTE" "Lcom/example/node_sieve/nodesieve/Axis;" (.ref x_ATTRIBUTE)) (S_NAMESPACE : Sta Z h0 "com/example/node_sieve/nodesieve/Axis" "NAMESPACE" "Lcom/example/node_sieve/nodesieve/Axis;" (.ref x_NAMESPACE)) (S_SELF : Sta Z h0 "com/example/node_sieve/nodesieve/Axis" "SELF" "Lcom/example/node_sieve/nodesieve/Axis;" (.ref x_SELF)) (S_DESCENDANT : Sta Z h0 "com/example/node_sieve/nodesieve/Axis" "DESCENDANT" "Lcom/example/node_sieve/nodesieve/Axis;" (.ref x_DESCENDANT)) (S_DESCENDANT_OR_SELF : Sta Z h0 "com/example/node_sieve/nodesieve/Axis" "DESCENDANT_OR_SELF" "Lcom/example/node_sieve/nodesieve/Axis;" (.ref o0)) (S_SUBTREE_ATTRIBUTE : Sta Z h0 "com/example/node_sieve/nodesieve/Axis" "SUBTREE_ATTRIBUTE" "Lcom/example/node_sieve/nodesieve/Axis;" (.ref x_SUBTREE_ATTRIBUTE)) (ne_CHILD : ¬ o0 = x_CHILD) (ne_ATTRIBUTE : ¬ o0 = x_ATTRIBUTE) (ne_NAMESPACE : ¬ o0 = x_NAMESPACE) (ne_SELF : ¬ o0 = x_SELF) (ne_DESCENDANT : ¬ o0 = x_DESCENDANT) (ne_SUBTREE_ATTRIBUTE : ¬ o0 = x_SUBTREE_ATTRIBUTE) :
    MetFree l (⟨"com/example/node_sieve/nodesieve/Axis", "selectsOnce", "(Z)Z"⟩ : MethodName) (head1 (Jvm.Cond.code (⟨"com/example/node_sieve/nodesieve/Axis", "selectsOnce", "(Z)Z"⟩ : MethodName) prog_1_method_8_code 4 (some .boolean) :: ws) ({ frames := 0, cells := 0, slots := 0, locals := 0 } : Room)) (fun a U => a = #[(.ref o0), (.int p1)] ∧ Z.Warmed39 U.vm ∧ U.heap = h0) (fun _ _ _ _ _ => True) (fun _ U o U' => ∃ v L, o = .returned v ∧ Q_rm1_DESCENDANT_OR_SELF Z o0 p1 x_CHILD x_ATTRIBUTE x_NAMESPACE x_SELF x_DESCENDANT x_SUBTREE_ATTRIBUTE h0 n0 v U'.heap L ∧ FrameEnd U o U' L ({ frames := 0, cells := 0, slots := 0, locals := 0 } : Room).cells ({ frames := 0, cells := 0, slots := 0, locals := 0 } : Room).slots) := by
  refine MetFree.of_bodySF (plainFor_of_name pn_0) hisR ?_
  intro p e s m args below meth c s₁ Bd hml0 hP hK
  obtain ⟨rfl, hZ, hh⟩ := hP
  have hx := Bd.exec
  have hby := Bd.bytes
  have hml : c.maxLocals = 4 := hml0
  have hown : s.vm.findClass "com/example/node_sieve/nodesieve/Axis" = some m.cls := findClass_of_methodNamed Bd.named
  have hnm := (name_of_methodNamed Bd.named Bd.method).1
  have X0 : Stand p l e ({ frames := 0, cells := 0, slots := 0, locals := 0 } : Room) s m #[(.ref o0), (.int p1)] below meth c s₁ [] 0 0 := Stand.of_body Bd
  have e0 : s₁.heap = h0 := by rw [← hh, Bd.state]; rfl
  have N0 := Fr.nil n0
  have c0 : ∀ τ, Steps p.tables e below (s₁.setTop (mkF m 0 #[.val (.ref o0), .val (.int p1), .unset, .unset] [])) τ → Steps p.tables e below (s₁.setTop (entryFrame m #[(.ref o0), (.int p1)] 4)) τ := fun τ κ => castTop (ef_rm1_DESCENDANT_OR_SELF m o0 p1) κ
  have c1 : ∀ τ, Steps p.tables e below (s₁.setTop (mkF m 1 #[.val (.ref o0), .val (.int p1), .unset, .unset] [(.ref o0)])) τ → Steps p.tables e below (s₁.setTop (entryFrame m #[(.ref o0), (.int p1)] 4)) τ := fun τ κ => c0 τ (by
      show Steps p.tables e below (s₁.setTop (mkF m 0 #[.val (.ref o0), .val (.int p1), .unset, .unset] [])) _
      refine XS.aloadN X0.here hx rfl (hb hby d1_0) rfl rfl ?_
      exact κ)
  obtain ⟨T2, X2, e2, st2⟩ := getS2 X0 hx hZ hown (host := "") (Or.inl (hw _ (List.mem_of_getElem? (i := 51) rfl))) Via.refl e0 S_CHILD (g := (mkF m 1 #[.val (.ref o0), .val (.int p1), .unset, .unset] [(.ref o0)])) rfl (hb hby d1_1)
  have c3 : ∀ τ, Steps p.tables e below (T2.setTop (mkF m 4 #[.val (.ref o0), .val (.int p1), .unset, .unset] [(.ref x_CHILD), (.ref o0)])) τ → Steps p.tables e below (s₁.setTop (entryFrame m #[(.ref o0), (.int p1)] 4)) τ := fun τ κ => c1 τ (st2 τ κ)
  have c4 : ∀ τ, Steps p.tables e below (T2.setTop (mkF m 8 #[.val (.ref o0), .val (.int p1), .unset, .unset] [(.ref o0)])) τ → Steps p.tables e below (s₁.setTop (entryFrame m #[(.ref o0), (.int p1)] 4)) τ := fun τ κ => c3 τ (by
      show Steps p.tables e below (T2.setTop (mkF m 4 #[.val (.ref o0), .val (.int p1), .unset, .unset] [(.ref x_CHILD), (.ref o0)])) _
      refine Jvm.RoadKit.acmp (g := (mkF m 4 #[.val (.ref o0), .val (.int p1), .unset, .unset] [(.ref x_CHILD), (.ref o0)])) X2 hx rfl rfl rfl (pc0 := 4) (pc' := 7) (same := false) rfl (hb hby d1_4) rfl (decide_eq_false fun q => ne_CHILD (Value.ref.inj q)) (by decide) (by decide) ?_
      show Steps p.tables e below (T2.setTop (mkF m 7 #[.val (.ref o0), .val (.int p1), .unset, .unset] [])) _
      refine XS.aloadN X2.here hx rfl (hb hby d1_7) rfl rfl ?_
      exact κ)
  obtain ⟨T5, X5, e5, st5⟩ := getS2 X2 hx hZ hown (host := "") (Or.inl (hw _ (List.mem_of_getElem? (i := 56) rfl))) Via.refl e2 S_ATTRIBUTE (g := (mkF m 8 #[.val (.ref o0), .val (.int p1), .unset, .unset] [(.ref o0)])) rfl (hb hby d1_8)
  have c6 : ∀ τ, Steps p.tables e below (T5.setTop (mkF m 11 #[.val (.ref o0), .val (.int p1), .unset, .unset] [(.ref x_ATTRIBUTE), (.ref o0)])) τ → Steps p.tables e below (s₁.setTop (entryFrame m #[(.ref o0), (.int p1)] 4)) τ := fun τ κ => c4 τ (st5 τ κ)
  have c7 : ∀ τ, Steps p.tables e below (T5.setTop (mkF m 15 #[.val (.ref o0), .val (.int p1), .unset, .unset] [(.ref o0)])) τ → Steps p.tables e below (s₁.setTop (entryFrame m #[(.ref o0), (.int p1)] 4)) τ := fun τ κ => c6 τ (by
      show Steps p.tables e below (T5.setTop (mkF m 11 #[.val (.ref o0), .val (.int p1), .unset, .unset] [(.ref x_ATTRIBUTE), (.ref o0)])) _
      refine Jvm.RoadKit.acmp (g := (mkF m 11 #[.val (.ref o0), .val (.int p1), .unset, .unset] [(.ref x_ATTRIBUTE), (.ref o0)])) X5 hx rfl rfl rfl (pc0 := 11) (pc' := 14) (same := false) rfl (hb hby d1_11) rfl (decide_eq_false fun q => ne_ATTRIBUTE (Value.ref.inj q)) (by decide) (by decide) ?_
      show Steps p.tables e below (T5.setTop (mkF m 14 #[.val (.ref o0), .val (.int p1), .unset, .unset] [])) _
      refine XS.aloadN X5.here hx rfl (hb hby d1_14) rfl rfl ?_
      exact κ)
  obtain ⟨T8, X8, e8, st8⟩ := getS2 X5 hx hZ hown (host := "") (Or.inl (hw _ (List.mem_of_getElem? (i := 57) rfl))) Via.refl e5 S_NAMESPACE (g := (mkF m 15 #[.val (.ref o0), .val (.int p1), .unset, .unset] [(.ref o0)])) rfl (hb hby d1_15)
  have c9 : ∀ τ, Steps p.tables e below (T8.setTop (mkF m 18 #[.val (.ref o0), .val (.int p1), .unset, .unset] [(.ref x_NAMESPACE), (.ref o0)])) τ → Steps p.tables e below (s₁.setTop (entryFrame m #[(.ref o0), (.int p1)] 4)) τ := fun τ κ => c7 τ (st8 τ κ)
  have c10 : ∀ τ, Steps p.tables e below (T8.setTop (mkF m 22 #[.val (.ref o0), .val (.int p1), .unset, .unset] [(.ref o0)])) τ → Steps p.tables e below (s₁.setTop (entryFrame m #[(.ref o0), (.int p1)] 4)) τ := fun τ κ => c9 τ (by
      show Steps p.tables e below (T8.setTop (mkF m 18 #[.val (.ref o0), .val (.int p1), .unset, .unset] [(.ref x_NAMESPACE), (.ref o0)])) _
      refine Jvm.RoadKit.acmp (g := (mkF m 18 #[.val (.ref o0), .val (.int p1), .unset, .unset] [(.ref x_NAMESPACE), (.ref o0)])) X8 hx rfl rfl rfl (pc0 := 18) (pc' := 21) (same := false) rfl (hb hby d1_18) rfl (decide_eq_false fun q => ne_NAMESPACE (Value.ref.inj q)) (by decide) (by decide) ?_
      show Steps p.tables e below (T8.setTop (mkF m 21 #[.val (.ref o0), .val (.int p1), .unset, .unset] [])) _
      refine XS.aloadN X8.here hx rfl (hb hby d1_21) rfl rfl ?_
      exact κ)
  obtain ⟨T11, X11, e11, st11⟩ := getS2 X8 hx hZ hown (host := "") (Or.inl (hw _ (List.mem_of_getElem? (i := 58) rfl))) Via.refl e8 S_SELF (g := (mkF m 22 #[.val (.ref o0), .val (.int p1), .unset, .unset] [(.ref o0)])) rfl (hb hby d1_22)
  have c12 : ∀ τ, Steps p.tables e below (T11.setTop (mkF m 25 #[.val (.ref o0), .val (.int p1), .unset, .unset] [(.ref x_SELF), (.ref o0)])) τ → Steps p.tables e below (s₁.setTop (entryFrame m #[(.ref o0), (.int p1)] 4)) τ := fun τ κ => c10 τ (st11 τ κ)
  have c13 : ∀ τ, Steps p.tables e below (T11.setTop (mkF m 35 #[.val (.ref o0), .val (.int p1), .val (.int (0 : Int32)), .unset] [(.ref o0)])) τ → Steps p.tables e below (s₁.setTop (entryFrame m #[(.ref o0), (.int p1)] 4)) τ := fun τ κ => c12 τ (by
      show Steps p.tables e below (T11.setTop (mkF m 25 #[.val (.ref o0), .val (.int p1), .unset, .unset] [(.ref x_SELF), (.ref o0)])) _
      refine Jvm.RoadKit.acmp (g := (mkF m 25 #[.val (.ref o0), .val (.int p1), .unset, .unset] [(.ref x_SELF), (.ref o0)])) X11 hx rfl rfl rfl (pc0 := 25) (pc' := 32) (same := false) rfl (hb hby d1_25) rfl (decide_eq_false fun q => ne_SELF (Value.ref.inj q)) (by decide) (by decide) ?_
      show Steps p.tables e below (T11.setTop (mkF m 32 #[.val (.ref o0), .val (.int p1), .unset, .unset] [])) _
      refine XS.iconst X11.here hx rfl (hb hby d1_32) ?_
      show Steps p.tables e below (T11.setTop (mkF m 33 #[.val (.ref o0), .val (.int p1), .unset, .unset] [(.int (0 : Int32))])) _
      refine XS.istoreN X11.here hx rfl (hb hby d1_33) rfl (l' := #[.val (.ref o0), .val (.int p1), .val (.int (0 : Int32)), .unset]) rfl ?_
      show Steps p.tables e below (T11.setTop (mkF m 34 #[.val (.ref o0), .val (.int p1), .val (.int (0 : Int32)), .unset] [])) _
      refine XS.aloadN X11.here hx rfl (hb hby d1_34) rfl rfl ?_
      exact κ)
  obtain ⟨T14, X14, e14, st14⟩ := getS2 X11 hx hZ hown (host := "") (Or.inl (hw _ (List.mem_of_getElem? (i := 52) rfl))) Via.refl e11 S_DESCENDANT (g := (mkF m 35 #[.val (.ref o0), .val (.int p1), .val (.int (0 : Int32)), .unset] [(.ref o0)])) rfl (hb hby d1_35)
  have c15 : ∀ τ, Steps p.tables e below (T14.setTop (mkF m 38 #[.val (.ref o0), .val (.int p1), .val (.int (0 : Int32)), .unset] [(.ref x_DESCENDANT), (.ref o0)])) τ → Steps p.tables e below (s₁.setTop (entryFrame m #[(.ref o0), (.int p1)] 4)) τ := fun τ κ => c13 τ (st14 τ κ)
  have c16 : ∀ τ, Steps p.tables e below (T14.setTop (mkF m 42 #[.val (.ref o0), .val (.int p1), .val (.int (0 : Int32)), .unset] [(.ref o0)])) τ → Steps p.tables e below (s₁.setTop (entryFrame m #[(.ref o0), (.int p1)] 4)) τ := fun τ κ => c15 τ (by
      show Steps p.tables e below (T14.setTop (mkF m 38 #[.val (.ref o0), .val (.int p1), .val (.int (0 : Int32)), .unset] [(.ref x_DESCENDANT), (.ref o0)])) _
      refine Jvm.RoadKit.acmp (g := (mkF m 38 #[.val (.ref o0), .val (.int p1), .val (.int (0 : Int32)), .unset] [(.ref x_DESCENDANT), (.ref o0)])) X14 hx rfl rfl rfl (pc0 := 38) (pc' := 41) (same := false) rfl (hb hby d1_38) rfl (decide_eq_false fun q => ne_DESCENDANT (Value.ref.inj q)) (by decide) (by decide) ?_
      show Steps p.tables e below (T14.setTop (mkF m 41 #[.val (.ref o0), .val (.int p1), .val (.int (0 : Int32)), .unset] [])) _
      refine XS.aloadN X14.here hx rfl (hb hby d1_41) rfl rfl ?_
      exact κ)
  obtain ⟨T17, X17, e17, st17⟩ := getS2 X14 hx hZ hown (host := "") (Or.inl (hw _ (List.mem_of_getElem? (i := 53) rfl))) Via.refl e14 S_DESCENDANT_OR_SELF (g := (mkF m 42 #[.val (.ref o0), .val (.int p1), .val (.int (0 : Int32)), .unset] [(.ref o0)])) rfl (hb hby d1_42)
  have c18 : ∀ τ, Steps p.tables e below (T17.setTop (mkF m 45 #[.val (.ref o0), .val (.int p1), .val (.int (0 : Int32)), .unset] [(.ref o0), (.ref o0)])) τ → Steps p.tables e below (s₁.setTop (entryFrame m #[(.ref o0), (.int p1)] 4)) τ := fun τ κ => c16 τ (st17 τ κ)
  have c19 : ∀ τ, Steps p.tables e below (T17.setTop (mkF m 61 #[.val (.ref o0), .val (.int p1), .val (.int (0 : Int32)), .val (.int (1 : Int32))] [])) τ → Steps p.tables e below (s₁.setTop (entryFrame m #[(.ref o0), (.int p1)] 4)) τ := fun τ κ => c18 τ (by
      show Steps p.tables e below (T17.setTop (mkF m 45 #[.val (.ref o0), .val (.int p1), .val (.int (0 : Int32)), .unset] [(.ref o0), (.ref o0)])) _
      refine Jvm.RoadKit.acmp (g := (mkF m 45 #[.val (.ref o0), .val (.int p1), .val (.int (0 : Int32)), .unset] [(.ref o0), (.ref o0)])) X17 hx rfl rfl rfl (pc0 := 45) (pc' := 55) (same := true) rfl (hb hby d1_45) rfl (decide_eq_true (congrArg Value.ref (rfl : o0 = o0))) (by decide) (by decide) ?_
      show Steps p.tables e below (T17.setTop (mkF m 55 #[.val (.ref o0), .val (.int p1), .val (.int (0 : Int32)), .unset] [])) _
      refine XS.iconst X17.here hx rfl (hb hby d1_55) ?_
      show Steps p.tables e below (T17.setTop (mkF m 56 #[.val (.ref o0), .val (.int p1), .val (.int (0 : Int32)), .unset] [(.int (1 : Int32))])) _
      refine XS.goto X17.here hx rfl (pc0 := 56) (pc' := 60) rfl (hb hby d1_56) (by decide) (by decide) ?_
      show Steps p.tables e below (T17.setTop (mkF m 60 #[.val (.ref o0), .val (.int p1), .val (.int (0 : Int32)), .unset] [(.int (1 : Int32))])) _
      refine XS.istoreN X17.here hx rfl (hb hby d1_60) rfl (l' := #[.val (.ref o0), .val (.int p1), .val (.int (0 : Int32)), .val (.int (1 : Int32))]) rfl ?_
      exact κ)
  have c20 : ∀ τ, Steps p.tables e below (T17.setTop (mkF m 78 #[.val (.ref o0), .val (.int p1), .val (.int (0 : Int32)), .val (.int (1 : Int32))] [(.int (s_DESCENDANT_OR_SELF_61_t0 p1 (0 : Int32) (1 : Int32)))])) τ → Steps p.tables e below (s₁.setTop (entryFrame m #[(.ref o0), (.int p1)] 4)) τ := fun τ κ => c19 τ (s_DESCENDANT_OR_SELF_61 o0 p1 (0 : Int32) (1 : Int32) X17 hx hZ hw hby hown κ)
  obtain ⟨fs, hr, hrun, hended, hW, hsame⟩ := X17.leave (v := some (.int (s_DESCENDANT_OR_SELF_61_t0 p1 (0 : Int32) (1 : Int32)))) (fun h => by rw [Bd.returns] at h; cases h)
  refine ⟨_, _, c20 _ (retN X17 hx (t := .boolean) Bd.returns (by simp) (hb hby d1_78) (by rw [nz_s_DESCENDANT_OR_SELF p1]; exact hr)), hrun, hended, _, _, rfl, ?_, ⟨_, rfl⟩, hW, hsame.mono (by decide) (by decide)⟩
  show Q_rm1_DESCENDANT_OR_SELF Z o0 p1 x_CHILD x_ATTRIBUTE x_NAMESPACE x_SELF x_DESCENDANT x_SUBTREE_ATTRIBUTE h0 n0 _ T17.heap _
  rw [e17]
  exact ⟨rfl, N0, rfl⟩
def s_SUBTREE_ATTRIBUTE_77_t0  : Int32 := (0 : Int32)
def s_SUBTREE_ATTRIBUTE_73_t0  : Int32 := (1 : Int32)
def s_SUBTREE_ATTRIBUTE_61_t0 (i1 : Int32) (i2 : Int32) (i3 : Int32) : Int32 := if i2 = (0 : Int32) then (if i1 = (0 : Int32) then s_SUBTREE_ATTRIBUTE_77_t0 else if i3 = (0 : Int32) then s_SUBTREE_ATTRIBUTE_77_t0 else s_SUBTREE_ATTRIBUTE_73_t0) else s_SUBTREE_ATTRIBUTE_73_t0
set_option maxRecDepth 65536 in
set_option maxHeartbeats 40000000 in
theorem s_SUBTREE_ATTRIBUTE_77 {p : Program} {l : Launch} {e : Env} {R : Room} {s : State} {m : MethodId} {args : Array Value} {below : List Frame} {meth : Method} {c : Code} {T : State} {locs : List Loc} {cells slots : Nat} {Z : State} {a0 : Array Value} {target : State} (o0 : Addr) (i1 : Int32) (i2 : Int32) (i3 : Int32) (X : Stand p l e R s m args below meth c T locs cells slots) (hx : p.tables.exec = Jvm.exec) (hZ : Z.Warmed39 s.vm) (hw : ∀ d ∈ tables_1, d.before a0 Z = true) (hby : c.code = prog_1_method_8_code) (hown : s.vm.findClass "com/example/node_sieve/nodesieve/Axis" = some m.cls) (k : Steps p.tables e below (T.setTop (mkF m 78 #[.val (.ref o0), .val (.int i1), .val (.int i2), .val (.int i3)] [(.int (s_SUBTREE_ATTRIBUTE_77_t0))])) target) :
    Steps p.tables e below (T.setTop (mkF m 77 #[.val (.ref o0), .val (.int i1), .val (.int i2), .val (.int i3)] [])) target := by
  show Steps p.tables e below (T.setTop (mkF m 77 #[.val (.ref o0), .val (.int i1), .val (.int i2), .val (.int i3)] [])) _
  refine XS.iconst X.here hx rfl (hb hby d1_77) ?_
  have e_t0 : (s_SUBTREE_ATTRIBUTE_77_t0) = (0 : Int32) := by rfl
  rw [e_t0] at k
  exact k
set_option maxRecDepth 65536 in
set_option maxHeartbeats 40000000 in
theorem s_SUBTREE_ATTRIBUTE_73 {p : Program} {l : Launch} {e : Env} {R : Room} {s : State} {m : MethodId} {args : Array Value} {below : List Frame} {meth : Method} {c : Code} {T : State} {locs : List Loc} {cells slots : Nat} {Z : State} {a0 : Array Value} {target : State} (o0 : Addr) (i1 : Int32) (i2 : Int32) (i3 : Int32) (X : Stand p l e R s m args below meth c T locs cells slots) (hx : p.tables.exec = Jvm.exec) (hZ : Z.Warmed39 s.vm) (hw : ∀ d ∈ tables_1, d.before a0 Z = true) (hby : c.code = prog_1_method_8_code) (hown : s.vm.findClass "com/example/node_sieve/nodesieve/Axis" = some m.cls) (k : Steps p.tables e below (T.setTop (mkF m 78 #[.val (.ref o0), .val (.int i1), .val (.int i2), .val (.int i3)] [(.int (s_SUBTREE_ATTRIBUTE_73_t0))])) target) :
    Steps p.tables e below (T.setTop (mkF m 73 #[.val (.ref o0), .val (.int i1), .val (.int i2), .val (.int i3)] [])) target := by
  show Steps p.tables e below (T.setTop (mkF m 73 #[.val (.ref o0), .val (.int i1), .val (.int i2), .val (.int i3)] [])) _
  refine XS.iconst X.here hx rfl (hb hby d1_73) ?_
  show Steps p.tables e below (T.setTop (mkF m 74 #[.val (.ref o0), .val (.int i1), .val (.int i2), .val (.int i3)] [(.int (1 : Int32))])) _
  refine XS.goto X.here hx rfl (pc0 := 74) (pc' := 78) rfl (hb hby d1_74) (by decide) (by decide) ?_
  have e_t0 : (s_SUBTREE_ATTRIBUTE_73_t0) = (1 : Int32) := by rfl
  rw [e_t0] at k
  exact k
set_option maxRecDepth 65536 in
set_option maxHeartbeats 40000000 in
theorem s_SUBTREE_ATTRIBUTE_61 {p : Program} {l : Launch} {e : Env} {R : Room} {s : State} {m : MethodId} {args : Array Value} {below : List Frame} {meth : Method} {c : Code} {T : State} {locs : List Loc} {cells slots : Nat} {Z : State} {a0 : Array Value} {target : State} (o0 : Addr) (i1 : Int32) (i2 : Int32) (i3 : Int32) (X : Stand p l e R s m args below meth c T locs cells slots) (hx : p.tables.exec = Jvm.exec) (hZ : Z.Warmed39 s.vm) (hw : ∀ d ∈ tables_1, d.before a0 Z = true) (hby : c.code = prog_1_method_8_code) (hown : s.vm.findClass "com/example/node_sieve/nodesieve/Axis" = some m.cls) (k : Steps p.tables e below (T.setTop (mkF m 78 #[.val (.ref o0), .val (.int i1), .val (.int i2), .val (.int i3)] [(.int (s_SUBTREE_ATTRIBUTE_61_t0 i1 i2 i3))])) target) :
    Steps p.tables e below (T.setTop (mkF m 61 #[.val (.ref o0), .val (.int i1), .val (.int i2), .val (.int i3)] [])) target := by
  show Steps p.tables e below (T.setTop (mkF m 61 #[.val (.ref o0), .val (.int i1), .val (.int i2), .val (.int i3)] [])) _
  refine XS.iloadN X.here hx rfl (hb hby d1_61) rfl ?_
  show Steps p.tables e below (T.setTop (mkF m 62 #[.val (.ref o0), .val (.int i1), .val (.int i2), .val (.int i3)] [(.int i2)])) _
  by_cases q62 : i2 = (0 : Int32)
  · refine XS.ifNo X.here hx rfl (hb hby d1_62) rfl ((if0 _ _).trans (teq q62).2) ?_
    show Steps p.tables e below (T.setTop (mkF m 65 #[.val (.ref o0), .val (.int i1), .val (.int i2), .val (.int i3)] [])) _
    refine XS.iloadN X.here hx rfl (hb hby d1_65) rfl ?_
    show Steps p.tables e below (T.setTop (mkF m 66 #[.val (.ref o0), .val (.int i1), .val (.int i2), .val (.int i3)] [(.int i1)])) _
    by_cases q66 : i1 = (0 : Int32)
    · refine XS.ifYes X.here hx rfl (pc0 := 66) (pc' := 77) rfl (hb hby d1_66) rfl ((if0 _ _).trans (teq q66).1) (by decide) (by decide) ?_
      have e_t0 : (s_SUBTREE_ATTRIBUTE_61_t0 i1 i2 i3) = s_SUBTREE_ATTRIBUTE_77_t0 := by unfold s_SUBTREE_ATTRIBUTE_61_t0; rw [if_pos q62, if_pos q66]
      rw [e_t0] at k
      exact s_SUBTREE_ATTRIBUTE_77 o0 i1 i2 i3 X hx hZ hw hby hown k
    · refine XS.ifNo X.here hx rfl (hb hby d1_66) rfl ((if0 _ _).trans (feq q66).1) ?_
      show Steps p.tables e below (T.setTop (mkF m 69 #[.val (.ref o0), .val (.int i1), .val (.int i2), .val (.int i3)] [])) _
      refine XS.iloadN X.here hx rfl (hb hby d1_69) rfl ?_
      show Steps p.tables e below (T.setTop (mkF m 70 #[.val (.ref o0), .val (.int i1), .val (.int i2), .val (.int i3)] [(.int i3)])) _
      by_cases q70 : i3 = (0 : Int32)
      · refine XS.ifYes X.here hx rfl (pc0 := 70) (pc' := 77) rfl (hb hby d1_70) rfl ((if0 _ _).trans (teq q70).1) (by decide) (by decide) ?_
        have e_t0 : (s_SUBTREE_ATTRIBUTE_61_t0 i1 i2 i3) = s_SUBTREE_ATTRIBUTE_77_t0 := by unfold s_SUBTREE_ATTRIBUTE_61_t0; rw [if_pos q62, if_neg q66, if_pos q70]
        rw [e_t0] at k
        exact s_SUBTREE_ATTRIBUTE_77 o0 i1 i2 i3 X hx hZ hw hby hown k
      · refine XS.ifNo X.here hx rfl (hb hby d1_70) rfl ((if0 _ _).trans (feq q70).1) ?_
        have e_t0 : (s_SUBTREE_ATTRIBUTE_61_t0 i1 i2 i3) = s_SUBTREE_ATTRIBUTE_73_t0 := by unfold s_SUBTREE_ATTRIBUTE_61_t0; rw [if_pos q62, if_neg q66, if_neg q70]
        rw [e_t0] at k
        exact s_SUBTREE_ATTRIBUTE_73 o0 i1 i2 i3 X hx hZ hw hby hown k
  · refine XS.ifYes X.here hx rfl (pc0 := 62) (pc' := 73) rfl (hb hby d1_62) rfl ((if0 _ _).trans (feq q62).2) (by decide) (by decide) ?_
    have e_t0 : (s_SUBTREE_ATTRIBUTE_61_t0 i1 i2 i3) = s_SUBTREE_ATTRIBUTE_73_t0 := by unfold s_SUBTREE_ATTRIBUTE_61_t0; rw [if_neg q62]
    rw [e_t0] at k
    exact s_SUBTREE_ATTRIBUTE_73 o0 i1 i2 i3 X hx hZ hw hby hown k
theorem z01_s_SUBTREE_ATTRIBUTE_77_t0  : (s_SUBTREE_ATTRIBUTE_77_t0) = 0 ∨ (s_SUBTREE_ATTRIBUTE_77_t0) = 1 := by
  unfold s_SUBTREE_ATTRIBUTE_77_t0
  repeat' split
  all_goals first | exact Or.inl rfl | exact Or.inr rfl
theorem z01_s_SUBTREE_ATTRIBUTE_73_t0  : (s_SUBTREE_ATTRIBUTE_73_t0) = 0 ∨ (s_SUBTREE_ATTRIBUTE_73_t0) = 1 := by
  unfold s_SUBTREE_ATTRIBUTE_73_t0
  repeat' split
  all_goals first | exact Or.inl rfl | exact Or.inr rfl
theorem z01_s_SUBTREE_ATTRIBUTE_61_t0 (i1 : Int32) (i2 : Int32) (i3 : Int32) : (s_SUBTREE_ATTRIBUTE_61_t0 i1 i2 i3) = 0 ∨ (s_SUBTREE_ATTRIBUTE_61_t0 i1 i2 i3) = 1 := by
  unfold s_SUBTREE_ATTRIBUTE_61_t0
  repeat' split
  all_goals first | exact Or.inl rfl | exact Or.inr rfl | exact z01_s_SUBTREE_ATTRIBUTE_77_t0  | exact z01_s_SUBTREE_ATTRIBUTE_73_t0 
theorem nz_s_SUBTREE_ATTRIBUTE (p1 : Int32) : nar .boolean (s_SUBTREE_ATTRIBUTE_61_t0 p1 (0 : Int32) (1 : Int32)) = (s_SUBTREE_ATTRIBUTE_61_t0 p1 (0 : Int32) (1 : Int32)) := by rcases z01_s_SUBTREE_ATTRIBUTE_61_t0 p1 (0 : Int32) (1 : Int32) with h | h <;> rw [h] <;> rfl
theorem ef_rm1_SUBTREE_ATTRIBUTE (m : MethodId) (x0 : Addr) (x1 : Int32) : entryFrame m #[(.ref x0), (.int x1)] 4 = mkF m 0 #[.val (.ref x0), .val (.int x1), .unset, .unset] [] := by first | (simp [entryFrame, mkF, argsToLocals, Value.category]; done) | rfl
def Q_rm1_SUBTREE_ATTRIBUTE (Z : State) (o0 : Addr) (p1 : Int32) (x_CHILD x_ATTRIBUTE x_NAMESPACE x_SELF x_DESCENDANT x_DESCENDANT_OR_SELF : Addr) (h0 : Heap) (n0 : Nat) (v : Option Value) (h : Heap) (L : List Loc) : Prop := v = some (.int (s_SUBTREE_ATTRIBUTE_61_t0 p1 (0 : Int32) (1 : Int32))) ∧ Fr n0 L ∧ h = h0
set_option maxRecDepth 65536 in
set_option maxHeartbeats 40000000 in
theorem rm1_SUBTREE_ATTRIBUTE (l : Launch) (Z : State) (a0 : Array Value) (hw : ∀ d ∈ tables_1, d.before a0 Z = true) (ws : List Jvm.Cond) (o0 : Addr) (p1 : Int32) (x_CHILD x_ATTRIBUTE x_NAMESPACE x_SELF x_DESCENDANT x_DESCENDANT_OR_SELF : Addr) (h0 : Heap) (n0 : Nat) (Z0 : n0 ≤ h0.size) (S_CHILD : Sta Z h0 "com/example/node_sieve/nodesieve/Axis" "CHILD" "Lcom/example/node_sieve/nodesieve/Axis;" (.ref x_CHILD)) (S_ATTRIBUTE : Sta Z h0 "com/example/node_sieve/nodesieve/Axis" "ATTRIBUTE" "Lcom/example/node_sieve/nodesieve/Axis;" (.ref x_ATTRIBUTE)) (S_NAMESPACE : Sta Z h0 "com/example/node_sieve/nodesieve/Axis" "NAMESPACE" "Lcom/example/node_sieve/nodesieve/Axis;" (.ref x_NAMESPACE)) (S_SELF : Sta Z h0 "com/example/node_sieve/nodesieve/Axis" "SELF" "Lcom/example/node_sieve/nodesieve/Axis;" (.ref x_SELF)) (S_DESCENDANT : Sta Z h0 "com/example/node_sieve/nodesieve/Axis" "DESCENDANT" "Lcom/example/node_sieve/nodesieve/Axis;" (.ref x_DESCENDANT)) (S_DESCENDANT_OR_SELF : Sta Z h0 "com/example/node_sieve/nodesieve/Axis" "DESCENDANT_OR_SELF" "Lcom/example/node_sieve/nodesieve/Axis;" (.ref x_DESCENDANT_OR_SELF)) (S_SUBTREE_ATTRIBUTE : Sta Z h0 "com/example/node_sieve/nodesieve/Axis" "SUBTREE_ATTRIBUTE" "Lcom/example/node_sieve/nodesieve/Axis;" (.ref o0)) (ne_CHILD : ¬ o0 = x_CHILD) (ne_ATTRIBUTE : ¬ o0 = x_ATTRIBUTE) (ne_NAMESPACE : ¬ o0 = x_NAMESPACE) (ne_SELF : ¬ o0 = x_SELF) (ne_DESCENDANT : ¬ o0 = x_DESCENDANT) (ne_DESCENDANT_OR_SELF : ¬ o0 = x_DESCENDANT_OR_SELF) :
    MetFree l (⟨"com/example/node_sieve/nodesieve/Axis", "selectsOnce", "(Z)Z"⟩ : MethodName) (head1 (Jvm.Cond.code (⟨"com/example/node_sieve/nodesieve/Axis", "selectsOnce", "(Z)Z"⟩ : MethodName) prog_1_method_8_code 4 (some .boolean) :: ws) ({ frames := 0, cells := 0, slots := 0, locals := 0 } : Room)) (fun a U => a = #[(.ref o0), (.int p1)] ∧ Z.Warmed39 U.vm ∧ U.heap = h0) (fun _ _ _ _ _ => True) (fun _ U o U' => ∃ v L, o = .returned v ∧ Q_rm1_SUBTREE_ATTRIBUTE Z o0 p1 x_CHILD x_ATTRIBUTE x_NAMESPACE x_SELF x_DESCENDANT x_DESCENDANT_OR_SELF h0 n0 v U'.heap L ∧ FrameEnd U o U' L ({ frames := 0, cells := 0, slots := 0, locals := 0 } : Room).cells ({ frames := 0, cells := 0, slots := 0, locals := 0 } : Room).slots) := by
  refine MetFree.of_bodySF (plainFor_of_name pn_0) hisR ?_
  intro p e s m args below meth c s₁ Bd hml0 hP hK
  obtain ⟨rfl, hZ, hh⟩ := hP
  have hx := Bd.exec
  have hby := Bd.bytes
  have hml : c.maxLocals = 4 := hml0
  have hown : s.vm.findClass "com/example/node_sieve/nodesieve/Axis" = some m.cls := findClass_of_methodNamed Bd.named
  have hnm := (name_of_methodNamed Bd.named Bd.method).1
  have X0 : Stand p l e ({ frames := 0, cells := 0, slots := 0, locals := 0 } : Room) s m #[(.ref o0), (.int p1)] below meth c s₁ [] 0 0 := Stand.of_body Bd
  have e0 : s₁.heap = h0 := by rw [← hh, Bd.state]; rfl
  have N0 := Fr.nil n0
  have c0 : ∀ τ, Steps p.tables e below (s₁.setTop (mkF m 0 #[.val (.ref o0), .val (.int p1), .unset, .unset] [])) τ → Steps p.tables e below (s₁.setTop (entryFrame m #[(.ref o0), (.int p1)] 4)) τ := fun τ κ => castTop (ef_rm1_SUBTREE_ATTRIBUTE m o0 p1) κ
  have c1 : ∀ τ, Steps p.tables e below (s₁.setTop (mkF m 1 #[.val (.ref o0), .val (.int p1), .unset, .unset] [(.ref o0)])) τ → Steps p.tables e below (s₁.setTop (entryFrame m #[(.ref o0), (.int p1)] 4)) τ := fun τ κ => c0 τ (by
      show Steps p.tables e below (s₁.setTop (mkF m 0 #[.val (.ref o0), .val (.int p1), .unset, .unset] [])) _
      refine XS.aloadN X0.here hx rfl (hb hby d1_0) rfl rfl ?_
      exact κ)
  obtain ⟨T2, X2, e2, st2⟩ := getS2 X0 hx hZ hown (host := "") (Or.inl (hw _ (List.mem_of_getElem? (i := 51) rfl))) Via.refl e0 S_CHILD (g := (mkF m 1 #[.val (.ref o0), .val (.int p1), .unset, .unset] [(.ref o0)])) rfl (hb hby d1_1)
  have c3 : ∀ τ, Steps p.tables e below (T2.setTop (mkF m 4 #[.val (.ref o0), .val (.int p1), .unset, .unset] [(.ref x_CHILD), (.ref o0)])) τ → Steps p.tables e below (s₁.setTop (entryFrame m #[(.ref o0), (.int p1)] 4)) τ := fun τ κ => c1 τ (st2 τ κ)
  have c4 : ∀ τ, Steps p.tables e below (T2.setTop (mkF m 8 #[.val (.ref o0), .val (.int p1), .unset, .unset] [(.ref o0)])) τ → Steps p.tables e below (s₁.setTop (entryFrame m #[(.ref o0), (.int p1)] 4)) τ := fun τ κ => c3 τ (by
      show Steps p.tables e below (T2.setTop (mkF m 4 #[.val (.ref o0), .val (.int p1), .unset, .unset] [(.ref x_CHILD), (.ref o0)])) _
      refine Jvm.RoadKit.acmp (g := (mkF m 4 #[.val (.ref o0), .val (.int p1), .unset, .unset] [(.ref x_CHILD), (.ref o0)])) X2 hx rfl rfl rfl (pc0 := 4) (pc' := 7) (same := false) rfl (hb hby d1_4) rfl (decide_eq_false fun q => ne_CHILD (Value.ref.inj q)) (by decide) (by decide) ?_
      show Steps p.tables e below (T2.setTop (mkF m 7 #[.val (.ref o0), .val (.int p1), .unset, .unset] [])) _
      refine XS.aloadN X2.here hx rfl (hb hby d1_7) rfl rfl ?_
      exact κ)
  obtain ⟨T5, X5, e5, st5⟩ := getS2 X2 hx hZ hown (host := "") (Or.inl (hw _ (List.mem_of_getElem? (i := 56) rfl))) Via.refl e2 S_ATTRIBUTE (g := (mkF m 8 #[.val (.ref o0), .val (.int p1), .unset, .unset] [(.ref o0)])) rfl (hb hby d1_8)
  have c6 : ∀ τ, Steps p.tables e below (T5.setTop (mkF m 11 #[.val (.ref o0), .val (.int p1), .unset, .unset] [(.ref x_ATTRIBUTE), (.ref o0)])) τ → Steps p.tables e below (s₁.setTop (entryFrame m #[(.ref o0), (.int p1)] 4)) τ := fun τ κ => c4 τ (st5 τ κ)
  have c7 : ∀ τ, Steps p.tables e below (T5.setTop (mkF m 15 #[.val (.ref o0), .val (.int p1), .unset, .unset] [(.ref o0)])) τ → Steps p.tables e below (s₁.setTop (entryFrame m #[(.ref o0), (.int p1)] 4)) τ := fun τ κ => c6 τ (by
      show Steps p.tables e below (T5.setTop (mkF m 11 #[.val (.ref o0), .val (.int p1), .unset, .unset] [(.ref x_ATTRIBUTE), (.ref o0)])) _
      refine Jvm.RoadKit.acmp (g := (mkF m 11 #[.val (.ref o0), .val (.int p1), .unset, .unset] [(.ref x_ATTRIBUTE), (.ref o0)])) X5 hx rfl rfl rfl (pc0 := 11) (pc' := 14) (same := false) rfl (hb hby d1_11) rfl (decide_eq_false fun q => ne_ATTRIBUTE (Value.ref.inj q)) (by decide) (by decide) ?_
      show Steps p.tables e below (T5.setTop (mkF m 14 #[.val (.ref o0), .val (.int p1), .unset, .unset] [])) _
      refine XS.aloadN X5.here hx rfl (hb hby d1_14) rfl rfl ?_
      exact κ)
  obtain ⟨T8, X8, e8, st8⟩ := getS2 X5 hx hZ hown (host := "") (Or.inl (hw _ (List.mem_of_getElem? (i := 57) rfl))) Via.refl e5 S_NAMESPACE (g := (mkF m 15 #[.val (.ref o0), .val (.int p1), .unset, .unset] [(.ref o0)])) rfl (hb hby d1_15)
  have c9 : ∀ τ, Steps p.tables e below (T8.setTop (mkF m 18 #[.val (.ref o0), .val (.int p1), .unset, .unset] [(.ref x_NAMESPACE), (.ref o0)])) τ → Steps p.tables e below (s₁.setTop (entryFrame m #[(.ref o0), (.int p1)] 4)) τ := fun τ κ => c7 τ (st8 τ κ)
  have c10 : ∀ τ, Steps p.tables e below (T8.setTop (mkF m 22 #[.val (.ref o0), .val (.int p1), .unset, .unset] [(.ref o0)])) τ → Steps p.tables e below (s₁.setTop (entryFrame m #[(.ref o0), (.int p1)] 4)) τ := fun τ κ => c9 τ (by
      show Steps p.tables e below (T8.setTop (mkF m 18 #[.val (.ref o0), .val (.int p1), .unset, .unset] [(.ref x_NAMESPACE), (.ref o0)])) _
      refine Jvm.RoadKit.acmp (g := (mkF m 18 #[.val (.ref o0), .val (.int p1), .unset, .unset] [(.ref x_NAMESPACE), (.ref o0)])) X8 hx rfl rfl rfl (pc0 := 18) (pc' := 21) (same := false) rfl (hb hby d1_18) rfl (decide_eq_false fun q => ne_NAMESPACE (Value.ref.inj q)) (by decide) (by decide) ?_
      show Steps p.tables e below (T8.setTop (mkF m 21 #[.val (.ref o0), .val (.int p1), .unset, .unset] [])) _
      refine XS.aloadN X8.here hx rfl (hb hby d1_21) rfl rfl ?_
      exact κ)
  obtain ⟨T11, X11, e11, st11⟩ := getS2 X8 hx hZ hown (host := "") (Or.inl (hw _ (List.mem_of_getElem? (i := 58) rfl))) Via.refl e8 S_SELF (g := (mkF m 22 #[.val (.ref o0), .val (.int p1), .unset, .unset] [(.ref o0)])) rfl (hb hby d1_22)
  have c12 : ∀ τ, Steps p.tables e below (T11.setTop (mkF m 25 #[.val (.ref o0), .val (.int p1), .unset, .unset] [(.ref x_SELF), (.ref o0)])) τ → Steps p.tables e below (s₁.setTop (entryFrame m #[(.ref o0), (.int p1)] 4)) τ := fun τ κ => c10 τ (st11 τ κ)
  have c13 : ∀ τ, Steps p.tables e below (T11.setTop (mkF m 35 #[.val (.ref o0), .val (.int p1), .val (.int (0 : Int32)), .unset] [(.ref o0)])) τ → Steps p.tables e below (s₁.setTop (entryFrame m #[(.ref o0), (.int p1)] 4)) τ := fun τ κ => c12 τ (by
      show Steps p.tables e below (T11.setTop (mkF m 25 #[.val (.ref o0), .val (.int p1), .unset, .unset] [(.ref x_SELF), (.ref o0)])) _
      refine Jvm.RoadKit.acmp (g := (mkF m 25 #[.val (.ref o0), .val (.int p1), .unset, .unset] [(.ref x_SELF), (.ref o0)])) X11 hx rfl rfl rfl (pc0 := 25) (pc' := 32) (same := false) rfl (hb hby d1_25) rfl (decide_eq_false fun q => ne_SELF (Value.ref.inj q)) (by decide) (by decide) ?_
      show Steps p.tables e below (T11.setTop (mkF m 32 #[.val (.ref o0), .val (.int p1), .unset, .unset] [])) _
      refine XS.iconst X11.here hx rfl (hb hby d1_32) ?_
      show Steps p.tables e below (T11.setTop (mkF m 33 #[.val (.ref o0), .val (.int p1), .unset, .unset] [(.int (0 : Int32))])) _
      refine XS.istoreN X11.here hx rfl (hb hby d1_33) rfl (l' := #[.val (.ref o0), .val (.int p1), .val (.int (0 : Int32)), .unset]) rfl ?_
      show Steps p.tables e below (T11.setTop (mkF m 34 #[.val (.ref o0), .val (.int p1), .val (.int (0 : Int32)), .unset] [])) _
      refine XS.aloadN X11.here hx rfl (hb hby d1_34) rfl rfl ?_
      exact κ)
  obtain ⟨T14, X14, e14, st14⟩ := getS2 X11 hx hZ hown (host := "") (Or.inl (hw _ (List.mem_of_getElem? (i := 52) rfl))) Via.refl e11 S_DESCENDANT (g := (mkF m 35 #[.val (.ref o0), .val (.int p1), .val (.int (0 : Int32)), .unset] [(.ref o0)])) rfl (hb hby d1_35)
  have c15 : ∀ τ, Steps p.tables e below (T14.setTop (mkF m 38 #[.val (.ref o0), .val (.int p1), .val (.int (0 : Int32)), .unset] [(.ref x_DESCENDANT), (.ref o0)])) τ → Steps p.tables e below (s₁.setTop (entryFrame m #[(.ref o0), (.int p1)] 4)) τ := fun τ κ => c13 τ (st14 τ κ)
  have c16 : ∀ τ, Steps p.tables e below (T14.setTop (mkF m 42 #[.val (.ref o0), .val (.int p1), .val (.int (0 : Int32)), .unset] [(.ref o0)])) τ → Steps p.tables e below (s₁.setTop (entryFrame m #[(.ref o0), (.int p1)] 4)) τ := fun τ κ => c15 τ (by
      show Steps p.tables e below (T14.setTop (mkF m 38 #[.val (.ref o0), .val (.int p1), .val (.int (0 : Int32)), .unset] [(.ref x_DESCENDANT), (.ref o0)])) _
      refine Jvm.RoadKit.acmp (g := (mkF m 38 #[.val (.ref o0), .val (.int p1), .val (.int (0 : Int32)), .unset] [(.ref x_DESCENDANT), (.ref o0)])) X14 hx rfl rfl rfl (pc0 := 38) (pc' := 41) (same := false) rfl (hb hby d1_38) rfl (decide_eq_false fun q => ne_DESCENDANT (Value.ref.inj q)) (by decide) (by decide) ?_
      show Steps p.tables e below (T14.setTop (mkF m 41 #[.val (.ref o0), .val (.int p1), .val (.int (0 : Int32)), .unset] [])) _
      refine XS.aloadN X14.here hx rfl (hb hby d1_41) rfl rfl ?_
      exact κ)
  obtain ⟨T17, X17, e17, st17⟩ := getS2 X14 hx hZ hown (host := "") (Or.inl (hw _ (List.mem_of_getElem? (i := 53) rfl))) Via.refl e14 S_DESCENDANT_OR_SELF (g := (mkF m 42 #[.val (.ref o0), .val (.int p1), .val (.int (0 : Int32)), .unset] [(.ref o0)])) rfl (hb hby d1_42)
  have c18 : ∀ τ, Steps p.tables e below (T17.setTop (mkF m 45 #[.val (.ref o0), .val (.int p1), .val (.int (0 : Int32)), .unset] [(.ref x_DESCENDANT_OR_SELF), (.ref o0)])) τ → Steps p.tables e below (s₁.setTop (entryFrame m #[(.ref o0), (.int p1)] 4)) τ := fun τ κ => c16 τ (st17 τ κ)
  have c19 : ∀ τ, Steps p.tables e below (T17.setTop (mkF m 49 #[.val (.ref o0), .val (.int p1), .val (.int (0 : Int32)), .unset] [(.ref o0)])) τ → Steps p.tables e below (s₁.setTop (entryFrame m #[(.ref o0), (.int p1)] 4)) τ := fun τ κ => c18 τ (by
      show Steps p.tables e below (T17.setTop (mkF m 45 #[.val (.ref o0), .val (.int p1), .val (.int (0 : Int32)), .unset] [(.ref x_DESCENDANT_OR_SELF), (.ref o0)])) _
      refine Jvm.RoadKit.acmp (g := (mkF m 45 #[.val (.ref o0), .val (.int p1), .val (.int (0 : Int32)), .unset] [(.ref x_DESCENDANT_OR_SELF), (.ref o0)])) X17 hx rfl rfl rfl (pc0 := 45) (pc' := 48) (same := false) rfl (hb hby d1_45) rfl (decide_eq_false fun q => ne_DESCENDANT_OR_SELF (Value.ref.inj q)) (by decide) (by decide) ?_
      show Steps p.tables e below (T17.setTop (mkF m 48 #[.val (.ref o0), .val (.int p1), .val (.int (0 : Int32)), .unset] [])) _
      refine XS.aloadN X17.here hx rfl (hb hby d1_48) rfl rfl ?_
      exact κ)
  obtain ⟨T20, X20, e20, st20⟩ := getS2 X17 hx hZ hown (host := "") (Or.inl (hw _ (List.mem_of_getElem? (i := 54) rfl))) Via.refl e17 S_SUBTREE_ATTRIBUTE (g := (mkF m 49 #[.val (.ref o0), .val (.int p1), .val (.int (0 : Int32)), .unset] [(.ref o0)])) rfl (hb hby d1_49)
  have c21 : ∀ τ, Steps p.tables e below (T20.setTop (mkF m 52 #[.val (.ref o0), .val (.int p1), .val (.int (0 : Int32)), .unset] [(.ref o0), (.ref o0)])) τ → Steps p.tables e below (s₁.setTop (entryFrame m #[(.ref o0), (.int p1)] 4)) τ := fun τ κ => c19 τ (st20 τ κ)
  have c22 : ∀ τ, Steps p.tables e below (T20.setTop (mkF m 61 #[.val (.ref o0), .val (.int p1), .val (.int (0 : Int32)), .val (.int (1 : Int32))] [])) τ → Steps p.tables e below (s₁.setTop (entryFrame m #[(.ref o0), (.int p1)] 4)) τ := fun τ κ => c21 τ (by
      show Steps p.tables e below (T20.setTop (mkF m 52 #[.val (.ref o0), .val (.int p1), .val (.int (0 : Int32)), .unset] [(.ref o0), (.ref o0)])) _
      refine Jvm.RoadKit.acmp (g := (mkF m 52 #[.val (.ref o0), .val (.int p1), .val (.int (0 : Int32)), .unset] [(.ref o0), (.ref o0)])) X20 hx rfl rfl rfl (pc0 := 52) (pc' := 55) (same := true) rfl (hb hby d1_52) rfl (decide_eq_true (congrArg Value.ref (rfl : o0 = o0))) (by decide) (by decide) ?_
      show Steps p.tables e below (T20.setTop (mkF m 55 #[.val (.ref o0), .val (.int p1), .val (.int (0 : Int32)), .unset] [])) _
      refine XS.iconst X20.here hx rfl (hb hby d1_55) ?_
      show Steps p.tables e below (T20.setTop (mkF m 56 #[.val (.ref o0), .val (.int p1), .val (.int (0 : Int32)), .unset] [(.int (1 : Int32))])) _
      refine XS.goto X20.here hx rfl (pc0 := 56) (pc' := 60) rfl (hb hby d1_56) (by decide) (by decide) ?_
      show Steps p.tables e below (T20.setTop (mkF m 60 #[.val (.ref o0), .val (.int p1), .val (.int (0 : Int32)), .unset] [(.int (1 : Int32))])) _
      refine XS.istoreN X20.here hx rfl (hb hby d1_60) rfl (l' := #[.val (.ref o0), .val (.int p1), .val (.int (0 : Int32)), .val (.int (1 : Int32))]) rfl ?_
      exact κ)
  have c23 : ∀ τ, Steps p.tables e below (T20.setTop (mkF m 78 #[.val (.ref o0), .val (.int p1), .val (.int (0 : Int32)), .val (.int (1 : Int32))] [(.int (s_SUBTREE_ATTRIBUTE_61_t0 p1 (0 : Int32) (1 : Int32)))])) τ → Steps p.tables e below (s₁.setTop (entryFrame m #[(.ref o0), (.int p1)] 4)) τ := fun τ κ => c22 τ (s_SUBTREE_ATTRIBUTE_61 o0 p1 (0 : Int32) (1 : Int32) X20 hx hZ hw hby hown κ)
  obtain ⟨fs, hr, hrun, hended, hW, hsame⟩ := X20.leave (v := some (.int (s_SUBTREE_ATTRIBUTE_61_t0 p1 (0 : Int32) (1 : Int32)))) (fun h => by rw [Bd.returns] at h; cases h)
  refine ⟨_, _, c23 _ (retN X20 hx (t := .boolean) Bd.returns (by simp) (hb hby d1_78) (by rw [nz_s_SUBTREE_ATTRIBUTE p1]; exact hr)), hrun, hended, _, _, rfl, ?_, ⟨_, rfl⟩, hW, hsame.mono (by decide) (by decide)⟩
  show Q_rm1_SUBTREE_ATTRIBUTE Z o0 p1 x_CHILD x_ATTRIBUTE x_NAMESPACE x_SELF x_DESCENDANT x_DESCENDANT_OR_SELF h0 n0 _ T20.heap _
  rw [e20]
  exact ⟨rfl, N0, rfl⟩
def s_none_77_t0  : Int32 := (0 : Int32)
def s_none_73_t0  : Int32 := (1 : Int32)
def s_none_61_t0 (i1 : Int32) (i2 : Int32) (i3 : Int32) : Int32 := if i2 = (0 : Int32) then (if i1 = (0 : Int32) then s_none_77_t0 else if i3 = (0 : Int32) then s_none_77_t0 else s_none_73_t0) else s_none_73_t0
set_option maxRecDepth 65536 in
set_option maxHeartbeats 40000000 in
theorem s_none_77 {p : Program} {l : Launch} {e : Env} {R : Room} {s : State} {m : MethodId} {args : Array Value} {below : List Frame} {meth : Method} {c : Code} {T : State} {locs : List Loc} {cells slots : Nat} {Z : State} {a0 : Array Value} {target : State} (o0 : Addr) (i1 : Int32) (i2 : Int32) (i3 : Int32) (X : Stand p l e R s m args below meth c T locs cells slots) (hx : p.tables.exec = Jvm.exec) (hZ : Z.Warmed39 s.vm) (hw : ∀ d ∈ tables_1, d.before a0 Z = true) (hby : c.code = prog_1_method_8_code) (hown : s.vm.findClass "com/example/node_sieve/nodesieve/Axis" = some m.cls) (k : Steps p.tables e below (T.setTop (mkF m 78 #[.val (.ref o0), .val (.int i1), .val (.int i2), .val (.int i3)] [(.int (s_none_77_t0))])) target) :
    Steps p.tables e below (T.setTop (mkF m 77 #[.val (.ref o0), .val (.int i1), .val (.int i2), .val (.int i3)] [])) target := by
  show Steps p.tables e below (T.setTop (mkF m 77 #[.val (.ref o0), .val (.int i1), .val (.int i2), .val (.int i3)] [])) _
  refine XS.iconst X.here hx rfl (hb hby d1_77) ?_
  have e_t0 : (s_none_77_t0) = (0 : Int32) := by rfl
  rw [e_t0] at k
  exact k
set_option maxRecDepth 65536 in
set_option maxHeartbeats 40000000 in
theorem s_none_73 {p : Program} {l : Launch} {e : Env} {R : Room} {s : State} {m : MethodId} {args : Array Value} {below : List Frame} {meth : Method} {c : Code} {T : State} {locs : List Loc} {cells slots : Nat} {Z : State} {a0 : Array Value} {target : State} (o0 : Addr) (i1 : Int32) (i2 : Int32) (i3 : Int32) (X : Stand p l e R s m args below meth c T locs cells slots) (hx : p.tables.exec = Jvm.exec) (hZ : Z.Warmed39 s.vm) (hw : ∀ d ∈ tables_1, d.before a0 Z = true) (hby : c.code = prog_1_method_8_code) (hown : s.vm.findClass "com/example/node_sieve/nodesieve/Axis" = some m.cls) (k : Steps p.tables e below (T.setTop (mkF m 78 #[.val (.ref o0), .val (.int i1), .val (.int i2), .val (.int i3)] [(.int (s_none_73_t0))])) target) :
    Steps p.tables e below (T.setTop (mkF m 73 #[.val (.ref o0), .val (.int i1), .val (.int i2), .val (.int i3)] [])) target := by
  show Steps p.tables e below (T.setTop (mkF m 73 #[.val (.ref o0), .val (.int i1), .val (.int i2), .val (.int i3)] [])) _
  refine XS.iconst X.here hx rfl (hb hby d1_73) ?_
  show Steps p.tables e below (T.setTop (mkF m 74 #[.val (.ref o0), .val (.int i1), .val (.int i2), .val (.int i3)] [(.int (1 : Int32))])) _
  refine XS.goto X.here hx rfl (pc0 := 74) (pc' := 78) rfl (hb hby d1_74) (by decide) (by decide) ?_
  have e_t0 : (s_none_73_t0) = (1 : Int32) := by rfl
  rw [e_t0] at k
  exact k
set_option maxRecDepth 65536 in
set_option maxHeartbeats 40000000 in
theorem s_none_61 {p : Program} {l : Launch} {e : Env} {R : Room} {s : State} {m : MethodId} {args : Array Value} {below : List Frame} {meth : Method} {c : Code} {T : State} {locs : List Loc} {cells slots : Nat} {Z : State} {a0 : Array Value} {target : State} (o0 : Addr) (i1 : Int32) (i2 : Int32) (i3 : Int32) (X : Stand p l e R s m args below meth c T locs cells slots) (hx : p.tables.exec = Jvm.exec) (hZ : Z.Warmed39 s.vm) (hw : ∀ d ∈ tables_1, d.before a0 Z = true) (hby : c.code = prog_1_method_8_code) (hown : s.vm.findClass "com/example/node_sieve/nodesieve/Axis" = some m.cls) (k : Steps p.tables e below (T.setTop (mkF m 78 #[.val (.ref o0), .val (.int i1), .val (.int i2), .val (.int i3)] [(.int (s_none_61_t0 i1 i2 i3))])) target) :
    Steps p.tables e below (T.setTop (mkF m 61 #[.val (.ref o0), .val (.int i1), .val (.int i2), .val (.int i3)] [])) target := by
  show Steps p.tables e below (T.setTop (mkF m 61 #[.val (.ref o0), .val (.int i1), .val (.int i2), .val (.int i3)] [])) _
  refine XS.iloadN X.here hx rfl (hb hby d1_61) rfl ?_
  show Steps p.tables e below (T.setTop (mkF m 62 #[.val (.ref o0), .val (.int i1), .val (.int i2), .val (.int i3)] [(.int i2)])) _
  by_cases q62 : i2 = (0 : Int32)
  · refine XS.ifNo X.here hx rfl (hb hby d1_62) rfl ((if0 _ _).trans (teq q62).2) ?_
    show Steps p.tables e below (T.setTop (mkF m 65 #[.val (.ref o0), .val (.int i1), .val (.int i2), .val (.int i3)] [])) _
    refine XS.iloadN X.here hx rfl (hb hby d1_65) rfl ?_
    show Steps p.tables e below (T.setTop (mkF m 66 #[.val (.ref o0), .val (.int i1), .val (.int i2), .val (.int i3)] [(.int i1)])) _
    by_cases q66 : i1 = (0 : Int32)
    · refine XS.ifYes X.here hx rfl (pc0 := 66) (pc' := 77) rfl (hb hby d1_66) rfl ((if0 _ _).trans (teq q66).1) (by decide) (by decide) ?_
      have e_t0 : (s_none_61_t0 i1 i2 i3) = s_none_77_t0 := by unfold s_none_61_t0; rw [if_pos q62, if_pos q66]
      rw [e_t0] at k
      exact s_none_77 o0 i1 i2 i3 X hx hZ hw hby hown k
    · refine XS.ifNo X.here hx rfl (hb hby d1_66) rfl ((if0 _ _).trans (feq q66).1) ?_
      show Steps p.tables e below (T.setTop (mkF m 69 #[.val (.ref o0), .val (.int i1), .val (.int i2), .val (.int i3)] [])) _
      refine XS.iloadN X.here hx rfl (hb hby d1_69) rfl ?_
      show Steps p.tables e below (T.setTop (mkF m 70 #[.val (.ref o0), .val (.int i1), .val (.int i2), .val (.int i3)] [(.int i3)])) _
      by_cases q70 : i3 = (0 : Int32)
      · refine XS.ifYes X.here hx rfl (pc0 := 70) (pc' := 77) rfl (hb hby d1_70) rfl ((if0 _ _).trans (teq q70).1) (by decide) (by decide) ?_
        have e_t0 : (s_none_61_t0 i1 i2 i3) = s_none_77_t0 := by unfold s_none_61_t0; rw [if_pos q62, if_neg q66, if_pos q70]
        rw [e_t0] at k
        exact s_none_77 o0 i1 i2 i3 X hx hZ hw hby hown k
      · refine XS.ifNo X.here hx rfl (hb hby d1_70) rfl ((if0 _ _).trans (feq q70).1) ?_
        have e_t0 : (s_none_61_t0 i1 i2 i3) = s_none_73_t0 := by unfold s_none_61_t0; rw [if_pos q62, if_neg q66, if_neg q70]
        rw [e_t0] at k
        exact s_none_73 o0 i1 i2 i3 X hx hZ hw hby hown k
  · refine XS.ifYes X.here hx rfl (pc0 := 62) (pc' := 73) rfl (hb hby d1_62) rfl ((if0 _ _).trans (feq q62).2) (by decide) (by decide) ?_
    have e_t0 : (s_none_61_t0 i1 i2 i3) = s_none_73_t0 := by unfold s_none_61_t0; rw [if_neg q62]
    rw [e_t0] at k
    exact s_none_73 o0 i1 i2 i3 X hx hZ hw hby hown k
theorem z01_s_none_77_t0  : (s_none_77_t0) = 0 ∨ (s_none_77_t0) = 1 := by
  unfold s_none_77_t0
  repeat' split
  all_goals first | exact Or.inl rfl | exact Or.inr rfl
theorem z01_s_none_73_t0  : (s_none_73_t0) = 0 ∨ (s_none_73_t0) = 1 := by
  unfold s_none_73_t0
  repeat' split
  all_goals first | exact Or.inl rfl | exact Or.inr rfl
theorem z01_s_none_61_t0 (i1 : Int32) (i2 : Int32) (i3 : Int32) : (s_none_61_t0 i1 i2 i3) = 0 ∨ (s_none_61_t0 i1 i2 i3) = 1 := by
  unfold s_none_61_t0
  repeat' split
  all_goals first | exact Or.inl rfl | exact Or.inr rfl | exact z01_s_none_77_t0  | exact z01_s_none_73_t0 
theorem nz_s_none (p1 : Int32) : nar .boolean (s_none_61_t0 p1 (0 : Int32) (0 : Int32)) = (s_none_61_t0 p1 (0 : Int32) (0 : Int32)) := by rcases z01_s_none_61_t0 p1 (0 : Int32) (0 : Int32) with h | h <;> rw [h] <;> rfl
theorem ef_rm1_none (m : MethodId) (x0 : Addr) (x1 : Int32) : entryFrame m #[(.ref x0), (.int x1)] 4 = mkF m 0 #[.val (.ref x0), .val (.int x1), .unset, .unset] [] := by first | (simp [entryFrame, mkF, argsToLocals, Value.category]; done) | rfl
def Q_rm1_none (Z : State) (o0 : Addr) (p1 : Int32) (x_CHILD x_ATTRIBUTE x_NAMESPACE x_SELF x_DESCENDANT x_DESCENDANT_OR_SELF x_SUBTREE_ATTRIBUTE : Addr) (h0 : Heap) (n0 : Nat) (v : Option Value) (h : Heap) (L : List Loc) : Prop := v = some (.int (s_none_61_t0 p1 (0 : Int32) (0 : Int32))) ∧ Fr n0 L ∧ h = h0
set_option maxRecDepth 65536 in
set_option maxHeartbeats 40000000 in
theorem rm1_none (l : Launch) (Z : State) (a0 : Array Value) (hw : ∀ d ∈ tables_1, d.before a0 Z = true) (ws : List Jvm.Cond) (o0 : Addr) (p1 : Int32) (x_CHILD x_ATTRIBUTE x_NAMESPACE x_SELF x_DESCENDANT x_DESCENDANT_OR_SELF x_SUBTREE_ATTRIBUTE : Addr) (h0 : Heap) (n0 : Nat) (Z0 : n0 ≤ h0.size) (S_CHILD : Sta Z h0 "com/example/node_sieve/nodesieve/Axis" "CHILD" "Lcom/example/node_sieve/nodesieve/Axis;" (.ref x_CHILD)) (S_ATTRIBUTE : Sta Z h0 "com/example/node_sieve/nodesieve/Axis" "ATTRIBUTE" "Lcom/example/node_sieve/nodesieve/Axis;" (.ref x_ATTRIBUTE)) (S_NAMESPACE : Sta Z h0 "com/example/node_sieve/nodesieve/Axis" "NAMESPACE" "Lcom/example/node_sieve/nodesieve/Axis;" (.ref x_NAMESPACE)) (S_SELF : Sta Z h0 "com/example/node_sieve/nodesieve/Axis" "SELF" "Lcom/example/node_sieve/nodesieve/Axis;" (.ref x_SELF)) (S_DESCENDANT : Sta Z h0 "com/example/node_sieve/nodesieve/Axis" "DESCENDANT" "Lcom/example/node_sieve/nodesieve/Axis;" (.ref x_DESCENDANT)) (S_DESCENDANT_OR_SELF : Sta Z h0 "com/example/node_sieve/nodesieve/Axis" "DESCENDANT_OR_SELF" "Lcom/example/node_sieve/nodesieve/Axis;" (.ref x_DESCENDANT_OR_SELF)) (S_SUBTREE_ATTRIBUTE : Sta Z h0 "com/example/node_sieve/nodesieve/Axis" "SUBTREE_ATTRIBUTE" "Lcom/example/node_sieve/nodesieve/Axis;" (.ref x_SUBTREE_ATTRIBUTE)) (ne_CHILD : ¬ o0 = x_CHILD) (ne_ATTRIBUTE : ¬ o0 = x_ATTRIBUTE) (ne_NAMESPACE : ¬ o0 = x_NAMESPACE) (ne_SELF : ¬ o0 = x_SELF) (ne_DESCENDANT : ¬ o0 = x_DESCENDANT) (ne_DESCENDANT_OR_SELF : ¬ o0 = x_DESCENDANT_OR_SELF) (ne_SUBTREE_ATTRIBUTE : ¬ o0 = x_SUBTREE_ATTRIBUTE) :
    MetFree l (⟨"com/example/node_sieve/nodesieve/Axis", "selectsOnce", "(Z)Z"⟩ : MethodName) (head1 (Jvm.Cond.code (⟨"com/example/node_sieve/nodesieve/Axis", "selectsOnce", "(Z)Z"⟩ : MethodName) prog_1_method_8_code 4 (some .boolean) :: ws) ({ frames := 0, cells := 0, slots := 0, locals := 0 } : Room)) (fun a U => a = #[(.ref o0), (.int p1)] ∧ Z.Warmed39 U.vm ∧ U.heap = h0) (fun _ _ _ _ _ => True) (fun _ U o U' => ∃ v L, o = .returned v ∧ Q_rm1_none Z o0 p1 x_CHILD x_ATTRIBUTE x_NAMESPACE x_SELF x_DESCENDANT x_DESCENDANT_OR_SELF x_SUBTREE_ATTRIBUTE h0 n0 v U'.heap L ∧ FrameEnd U o U' L ({ frames := 0, cells := 0, slots := 0, locals := 0 } : Room).cells ({ frames := 0, cells := 0, slots := 0, locals := 0 } : Room).slots) := by
  refine MetFree.of_bodySF (plainFor_of_name pn_0) hisR ?_
  intro p e s m args below meth c s₁ Bd hml0 hP hK
  obtain ⟨rfl, hZ, hh⟩ := hP
  have hx := Bd.exec
  have hby := Bd.bytes
  have hml : c.maxLocals = 4 := hml0
  have hown : s.vm.findClass "com/example/node_sieve/nodesieve/Axis" = some m.cls := findClass_of_methodNamed Bd.named
  have hnm := (name_of_methodNamed Bd.named Bd.method).1
  have X0 : Stand p l e ({ frames := 0, cells := 0, slots := 0, locals := 0 } : Room) s m #[(.ref o0), (.int p1)] below meth c s₁ [] 0 0 := Stand.of_body Bd
  have e0 : s₁.heap = h0 := by rw [← hh, Bd.state]; rfl
  have N0 := Fr.nil n0
  have c0 : ∀ τ, Steps p.tables e below (s₁.setTop (mkF m 0 #[.val (.ref o0), .val (.int p1), .unset, .unset] [])) τ → Steps p.tables e below (s₁.setTop (entryFrame m #[(.ref o0), (.int p1)] 4)) τ := fun τ κ => castTop (ef_rm1_none m o0 p1) κ
  have c1 : ∀ τ, Steps p.tables e below (s₁.setTop (mkF m 1 #[.val (.ref o0), .val (.int p1), .unset, .unset] [(.ref o0)])) τ → Steps p.tables e below (s₁.setTop (entryFrame m #[(.ref o0), (.int p1)] 4)) τ := fun τ κ => c0 τ (by
      show Steps p.tables e below (s₁.setTop (mkF m 0 #[.val (.ref o0), .val (.int p1), .unset, .unset] [])) _
      refine XS.aloadN X0.here hx rfl (hb hby d1_0) rfl rfl ?_
      exact κ)
  obtain ⟨T2, X2, e2, st2⟩ := getS2 X0 hx hZ hown (host := "") (Or.inl (hw _ (List.mem_of_getElem? (i := 51) rfl))) Via.refl e0 S_CHILD (g := (mkF m 1 #[.val (.ref o0), .val (.int p1), .unset, .unset] [(.ref o0)])) rfl (hb hby d1_1)
  have c3 : ∀ τ, Steps p.tables e below (T2.setTop (mkF m 4 #[.val (.ref o0), .val (.int p1), .unset, .unset] [(.ref x_CHILD), (.ref o0)])) τ → Steps p.tables e below (s₁.setTop (entryFrame m #[(.ref o0), (.int p1)] 4)) τ := fun τ κ => c1 τ (st2 τ κ)
  have c4 : ∀ τ, Steps p.tables e below (T2.setTop (mkF m 8 #[.val (.ref o0), .val (.int p1), .unset, .unset] [(.ref o0)])) τ → Steps p.tables e below (s₁.setTop (entryFrame m #[(.ref o0), (.int p1)] 4)) τ := fun τ κ => c3 τ (by
      show Steps p.tables e below (T2.setTop (mkF m 4 #[.val (.ref o0), .val (.int p1), .unset, .unset] [(.ref x_CHILD), (.ref o0)])) _
      refine Jvm.RoadKit.acmp (g := (mkF m 4 #[.val (.ref o0), .val (.int p1), .unset, .unset] [(.ref x_CHILD), (.ref o0)])) X2 hx rfl rfl rfl (pc0 := 4) (pc' := 7) (same := false) rfl (hb hby d1_4) rfl (decide_eq_false fun q => ne_CHILD (Value.ref.inj q)) (by decide) (by decide) ?_
      show Steps p.tables e below (T2.setTop (mkF m 7 #[.val (.ref o0), .val (.int p1), .unset, .unset] [])) _
      refine XS.aloadN X2.here hx rfl (hb hby d1_7) rfl rfl ?_
      exact κ)
  obtain ⟨T5, X5, e5, st5⟩ := getS2 X2 hx hZ hown (host := "") (Or.inl (hw _ (List.mem_of_getElem? (i := 56) rfl))) Via.refl e2 S_ATTRIBUTE (g := (mkF m 8 #[.val (.ref o0), .val (.int p1), .unset, .unset] [(.ref o0)])) rfl (hb hby d1_8)
  have c6 : ∀ τ, Steps p.tables e below (T5.setTop (mkF m 11 #[.val (.ref o0), .val (.int p1), .unset, .unset] [(.ref x_ATTRIBUTE), (.ref o0)])) τ → Steps p.tables e below (s₁.setTop (entryFrame m #[(.ref o0), (.int p1)] 4)) τ := fun τ κ => c4 τ (st5 τ κ)
  have c7 : ∀ τ, Steps p.tables e below (T5.setTop (mkF m 15 #[.val (.ref o0), .val (.int p1), .unset, .unset] [(.ref o0)])) τ → Steps p.tables e below (s₁.setTop (entryFrame m #[(.ref o0), (.int p1)] 4)) τ := fun τ κ => c6 τ (by
      show Steps p.tables e below (T5.setTop (mkF m 11 #[.val (.ref o0), .val (.int p1), .unset, .unset] [(.ref x_ATTRIBUTE), (.ref o0)])) _
      refine Jvm.RoadKit.acmp (g := (mkF m 11 #[.val (.ref o0), .val (.int p1), .unset, .unset] [(.ref x_ATTRIBUTE), (.ref o0)])) X5 hx rfl rfl rfl (pc0 := 11) (pc' := 14) (same := false) rfl (hb hby d1_11) rfl (decide_eq_false fun q => ne_ATTRIBUTE (Value.ref.inj q)) (by decide) (by decide) ?_
      show Steps p.tables e below (T5.setTop (mkF m 14 #[.val (.ref o0), .val (.int p1), .unset, .unset] [])) _
      refine XS.aloadN X5.here hx rfl (hb hby d1_14) rfl rfl ?_
      exact κ)
  obtain ⟨T8, X8, e8, st8⟩ := getS2 X5 hx hZ hown (host := "") (Or.inl (hw _ (List.mem_of_getElem? (i := 57) rfl))) Via.refl e5 S_NAMESPACE (g := (mkF m 15 #[.val (.ref o0), .val (.int p1), .unset, .unset] [(.ref o0)])) rfl (hb hby d1_15)
  have c9 : ∀ τ, Steps p.tables e below (T8.setTop (mkF m 18 #[.val (.ref o0), .val (.int p1), .unset, .unset] [(.ref x_NAMESPACE), (.ref o0)])) τ → Steps p.tables e below (s₁.setTop (entryFrame m #[(.ref o0), (.int p1)] 4)) τ := fun τ κ => c7 τ (st8 τ κ)
  have c10 : ∀ τ, Steps p.tables e below (T8.setTop (mkF m 22 #[.val (.ref o0), .val (.int p1), .unset, .unset] [(.ref o0)])) τ → Steps p.tables e below (s₁.setTop (entryFrame m #[(.ref o0), (.int p1)] 4)) τ := fun τ κ => c9 τ (by
      show Steps p.tables e below (T8.setTop (mkF m 18 #[.val (.ref o0), .val (.int p1), .unset, .unset] [(.ref x_NAMESPACE), (.ref o0)])) _
      refine Jvm.RoadKit.acmp (g := (mkF m 18 #[.val (.ref o0), .val (.int p1), .unset, .unset] [(.ref x_NAMESPACE), (.ref o0)])) X8 hx rfl rfl rfl (pc0 := 18) (pc' := 21) (same := false) rfl (hb hby d1_18) rfl (decide_eq_false fun q => ne_NAMESPACE (Value.ref.inj q)) (by decide) (by decide) ?_
      show Steps p.tables e below (T8.setTop (mkF m 21 #[.val (.ref o0), .val (.int p1), .unset, .unset] [])) _
      refine XS.aloadN X8.here hx rfl (hb hby d1_21) rfl rfl ?_
      exact κ)
  obtain ⟨T11, X11, e11, st11⟩ := getS2 X8 hx hZ hown (host := "") (Or.inl (hw _ (List.mem_of_getElem? (i := 58) rfl))) Via.refl e8 S_SELF (g := (mkF m 22 #[.val (.ref o0), .val (.int p1), .unset, .unset] [(.ref o0)])) rfl (hb hby d1_22)
  have c12 : ∀ τ, Steps p.tables e below (T11.setTop (mkF m 25 #[.val (.ref o0), .val (.int p1), .unset, .unset] [(.ref x_SELF), (.ref o0)])) τ → Steps p.tables e below (s₁.setTop (entryFrame m #[(.ref o0), (.int p1)] 4)) τ := fun τ κ => c10 τ (st11 τ κ)
  have c13 : ∀ τ, Steps p.tables e below (T11.setTop (mkF m 35 #[.val (.ref o0), .val (.int p1), .val (.int (0 : Int32)), .unset] [(.ref o0)])) τ → Steps p.tables e below (s₁.setTop (entryFrame m #[(.ref o0), (.int p1)] 4)) τ := fun τ κ => c12 τ (by
      show Steps p.tables e below (T11.setTop (mkF m 25 #[.val (.ref o0), .val (.int p1), .unset, .unset] [(.ref x_SELF), (.ref o0)])) _
      refine Jvm.RoadKit.acmp (g := (mkF m 25 #[.val (.ref o0), .val (.int p1), .unset, .unset] [(.ref x_SELF), (.ref o0)])) X11 hx rfl rfl rfl (pc0 := 25) (pc' := 32) (same := false) rfl (hb hby d1_25) rfl (decide_eq_false fun q => ne_SELF (Value.ref.inj q)) (by decide) (by decide) ?_
      show Steps p.tables e below (T11.setTop (mkF m 32 #[.val (.ref o0), .val (.int p1), .unset, .unset] [])) _
      refine XS.iconst X11.here hx rfl (hb hby d1_32) ?_
      show Steps p.tables e below (T11.setTop (mkF m 33 #[.val (.ref o0), .val (.int p1), .unset, .unset] [(.int (0 : Int32))])) _
      refine XS.istoreN X11.here hx rfl (hb hby d1_33) rfl (l' := #[.val (.ref o0), .val (.int p1), .val (.int (0 : Int32)), .unset]) rfl ?_
      show Steps p.tables e below (T11.setTop (mkF m 34 #[.val (.ref o0), .val (.int p1), .val (.int (0 : Int32)), .unset] [])) _
      refine XS.aloadN X11.here hx rfl (hb hby d1_34) rfl rfl ?_
      exact κ)
  obtain ⟨T14, X14, e14, st14⟩ := getS2 X11 hx hZ hown (host := "") (Or.inl (hw _ (List.mem_of_getElem? (i := 52) rfl))) Via.refl e11 S_DESCENDANT (g := (mkF m 35 #[.val (.ref o0), .val (.int p1), .val (.int (0 : Int32)), .unset] [(.ref o0)])) rfl (hb hby d1_35)
  have c15 : ∀ τ, Steps p.tables e below (T14.setTop (mkF m 38 #[.val (.ref o0), .val (.int p1), .val (.int (0 : Int32)), .unset] [(.ref x_DESCENDANT), (.ref o0)])) τ → Steps p.tables e below (s₁.setTop (entryFrame m #[(.ref o0), (.int p1)] 4)) τ := fun τ κ => c13 τ (st14 τ κ)
  have c16 : ∀ τ, Steps p.tables e below (T14.setTop (mkF m 42 #[.val (.ref o0), .val (.int p1), .val (.int (0 : Int32)), .unset] [(.ref o0)])) τ → Steps p.tables e below (s₁.setTop (entryFrame m #[(.ref o0), (.int p1)] 4)) τ := fun τ κ => c15 τ (by
      show Steps p.tables e below (T14.setTop (mkF m 38 #[.val (.ref o0), .val (.int p1), .val (.int (0 : Int32)), .unset] [(.ref x_DESCENDANT), (.ref o0)])) _
      refine Jvm.RoadKit.acmp (g := (mkF m 38 #[.val (.ref o0), .val (.int p1), .val (.int (0 : Int32)), .unset] [(.ref x_DESCENDANT), (.ref o0)])) X14 hx rfl rfl rfl (pc0 := 38) (pc' := 41) (same := false) rfl (hb hby d1_38) rfl (decide_eq_false fun q => ne_DESCENDANT (Value.ref.inj q)) (by decide) (by decide) ?_
      show Steps p.tables e below (T14.setTop (mkF m 41 #[.val (.ref o0), .val (.int p1), .val (.int (0 : Int32)), .unset] [])) _
      refine XS.aloadN X14.here hx rfl (hb hby d1_41) rfl rfl ?_
      exact κ)
  obtain ⟨T17, X17, e17, st17⟩ := getS2 X14 hx hZ hown (host := "") (Or.inl (hw _ (List.mem_of_getElem? (i := 53) rfl))) Via.refl e14 S_DESCENDANT_OR_SELF (g := (mkF m 42 #[.val (.ref o0), .val (.int p1), .val (.int (0 : Int32)), .unset] [(.ref o0)])) rfl (hb hby d1_42)
  have c18 : ∀ τ, Steps p.tables e below (T17.setTop (mkF m 45 #[.val (.ref o0), .val (.int p1), .val (.int (0 : Int32)), .unset] [(.ref x_DESCENDANT_OR_SELF), (.ref o0)])) τ → Steps p.tables e below (s₁.setTop (entryFrame m #[(.ref o0), (.int p1)] 4)) τ := fun τ κ => c16 τ (st17 τ κ)
  have c19 : ∀ τ, Steps p.tables e below (T17.setTop (mkF m 49 #[.val (.ref o0), .val (.int p1), .val (.int (0 : Int32)), .unset] [(.ref o0)])) τ → Steps p.tables e below (s₁.setTop (entryFrame m #[(.ref o0), (.int p1)] 4)) τ := fun τ κ => c18 τ (by
      show Steps p.tables e below (T17.setTop (mkF m 45 #[.val (.ref o0), .val (.int p1), .val (.int (0 : Int32)), .unset] [(.ref x_DESCENDANT_OR_SELF), (.ref o0)])) _
      refine Jvm.RoadKit.acmp (g := (mkF m 45 #[.val (.ref o0), .val (.int p1), .val (.int (0 : Int32)), .unset] [(.ref x_DESCENDANT_OR_SELF), (.ref o0)])) X17 hx rfl rfl rfl (pc0 := 45) (pc' := 48) (same := false) rfl (hb hby d1_45) rfl (decide_eq_false fun q => ne_DESCENDANT_OR_SELF (Value.ref.inj q)) (by decide) (by decide) ?_
      show Steps p.tables e below (T17.setTop (mkF m 48 #[.val (.ref o0), .val (.int p1), .val (.int (0 : Int32)), .unset] [])) _
      refine XS.aloadN X17.here hx rfl (hb hby d1_48) rfl rfl ?_
      exact κ)
  obtain ⟨T20, X20, e20, st20⟩ := getS2 X17 hx hZ hown (host := "") (Or.inl (hw _ (List.mem_of_getElem? (i := 54) rfl))) Via.refl e17 S_SUBTREE_ATTRIBUTE (g := (mkF m 49 #[.val (.ref o0), .val (.int p1), .val (.int (0 : Int32)), .unset] [(.ref o0)])) rfl (hb hby d1_49)
  have c21 : ∀ τ, Steps p.tables e below (T20.setTop (mkF m 52 #[.val (.ref o0), .val (.int p1), .val (.int (0 : Int32)), .unset] [(.ref x_SUBTREE_ATTRIBUTE), (.ref o0)])) τ → Steps p.tables e below (s₁.setTop (entryFrame m #[(.ref o0), (.int p1)] 4)) τ := fun τ κ => c19 τ (st20 τ κ)
  have c22 : ∀ τ, Steps p.tables e below (T20.setTop (mkF m 61 #[.val (.ref o0), .val (.int p1), .val (.int (0 : Int32)), .val (.int (0 : Int32))] [])) τ → Steps p.tables e below (s₁.setTop (entryFrame m #[(.ref o0), (.int p1)] 4)) τ := fun τ κ => c21 τ (by
      show Steps p.tables e below (T20.setTop (mkF m 52 #[.val (.ref o0), .val (.int p1), .val (.int (0 : Int32)), .unset] [(.ref x_SUBTREE_ATTRIBUTE), (.ref o0)])) _
      refine Jvm.RoadKit.acmp (g := (mkF m 52 #[.val (.ref o0), .val (.int p1), .val (.int (0 : Int32)), .unset] [(.ref x_SUBTREE_ATTRIBUTE), (.ref o0)])) X20 hx rfl rfl rfl (pc0 := 52) (pc' := 59) (same := false) rfl (hb hby d1_52) rfl (decide_eq_false fun q => ne_SUBTREE_ATTRIBUTE (Value.ref.inj q)) (by decide) (by decide) ?_
      show Steps p.tables e below (T20.setTop (mkF m 59 #[.val (.ref o0), .val (.int p1), .val (.int (0 : Int32)), .unset] [])) _
      refine XS.iconst X20.here hx rfl (hb hby d1_59) ?_
      show Steps p.tables e below (T20.setTop (mkF m 60 #[.val (.ref o0), .val (.int p1), .val (.int (0 : Int32)), .unset] [(.int (0 : Int32))])) _
      refine XS.istoreN X20.here hx rfl (hb hby d1_60) rfl (l' := #[.val (.ref o0), .val (.int p1), .val (.int (0 : Int32)), .val (.int (0 : Int32))]) rfl ?_
      exact κ)
  have c23 : ∀ τ, Steps p.tables e below (T20.setTop (mkF m 78 #[.val (.ref o0), .val (.int p1), .val (.int (0 : Int32)), .val (.int (0 : Int32))] [(.int (s_none_61_t0 p1 (0 : Int32) (0 : Int32)))])) τ → Steps p.tables e below (s₁.setTop (entryFrame m #[(.ref o0), (.int p1)] 4)) τ := fun τ κ => c22 τ (s_none_61 o0 p1 (0 : Int32) (0 : Int32) X20 hx hZ hw hby hown κ)
  obtain ⟨fs, hr, hrun, hended, hW, hsame⟩ := X20.leave (v := some (.int (s_none_61_t0 p1 (0 : Int32) (0 : Int32)))) (fun h => by rw [Bd.returns] at h; cases h)
  refine ⟨_, _, c23 _ (retN X20 hx (t := .boolean) Bd.returns (by simp) (hb hby d1_78) (by rw [nz_s_none p1]; exact hr)), hrun, hended, _, _, rfl, ?_, ⟨_, rfl⟩, hW, hsame.mono (by decide) (by decide)⟩
  show Q_rm1_none Z o0 p1 x_CHILD x_ATTRIBUTE x_NAMESPACE x_SELF x_DESCENDANT x_DESCENDANT_OR_SELF x_SUBTREE_ATTRIBUTE h0 n0 _ T20.heap _
  rw [e20]
  exact ⟨rfl, N0, rfl⟩
def g1_106_t0 (i1 : Int32) : Int32 := if (i1 &&& (1 : Int32)) = (0 : Int32) then (0 : Int32) else (1 : Int32)
set_option maxRecDepth 65536 in
set_option maxHeartbeats 40000000 in
theorem g1_106 {p : Program} {l : Launch} {e : Env} {R : Room} {s : State} {m : MethodId} {args : Array Value} {below : List Frame} {meth : Method} {c : Code} {T : State} {locs : List Loc} {cells slots : Nat} {Z : State} {a0 : Array Value} {target : State} (i0 : Int32) (i1 : Int32) (o2 : Addr) (i3 : Int32) (X : Stand p l e R s m args below meth c T locs cells slots) (hx : p.tables.exec = Jvm.exec) (hZ : Z.Warmed39 s.vm) (hw : ∀ d ∈ tables_1, d.before a0 Z = true) (hby : c.code = code) (hown : s.vm.findClass "com/example/node_sieve/nodesieve/AxisSelectsOncePinLaw" = some m.cls) (k : Steps p.tables e below (T.setTop (mkF m 117 #[.val (.int i0), .val (.int i1), .val (.ref o2), .val (.int i3), .unset, .unset, .unset, .unset, .unset] [(.int (g1_106_t0 i1))])) target) :
    Steps p.tables e below (T.setTop (mkF m 106 #[.val (.int i0), .val (.int i1), .val (.ref o2), .val (.int i3), .unset, .unset, .unset, .unset, .unset] [])) target := by
  show Steps p.tables e below (T.setTop (mkF m 106 #[.val (.int i0), .val (.int i1), .val (.ref o2), .val (.int i3), .unset, .unset, .unset, .unset, .unset] [])) _
  refine XS.iloadN X.here hx rfl (hb hby at_106) rfl ?_
  show Steps p.tables e below (T.setTop (mkF m 107 #[.val (.int i0), .val (.int i1), .val (.ref o2), .val (.int i3), .unset, .unset, .unset, .unset, .unset] [(.int i1)])) _
  refine XS.iconst X.here hx rfl (hb hby at_107) ?_
  show Steps p.tables e below (T.setTop (mkF m 108 #[.val (.int i0), .val (.int i1), .val (.ref o2), .val (.int i3), .unset, .unset, .unset, .unset, .unset] [(.int (1 : Int32)), (.int i1)])) _
  refine XS.iand X.here hx rfl (hb hby at_108) rfl ?_
  show Steps p.tables e below (T.setTop (mkF m 109 #[.val (.int i0), .val (.int i1), .val (.ref o2), .val (.int i3), .unset, .unset, .unset, .unset, .unset] [(.int (i1 &&& (1 : Int32)))])) _
  by_cases q109 : (i1 &&& (1 : Int32)) = (0 : Int32)
  · refine XS.ifYes X.here hx rfl (pc0 := 109) (pc' := 116) rfl (hb hby at_109) rfl ((if0 _ _).trans (teq q109).1) (by decide) (by decide) ?_
    show Steps p.tables e below (T.setTop (mkF m 116 #[.val (.int i0), .val (.int i1), .val (.ref o2), .val (.int i3), .unset, .unset, .unset, .unset, .unset] [])) _
    refine XS.iconst X.here hx rfl (hb hby at_116) ?_
    have e_t0 : (g1_106_t0 i1) = (0 : Int32) := by unfold g1_106_t0; rw [if_pos q109]
    rw [e_t0] at k
    exact k
  · refine XS.ifNo X.here hx rfl (hb hby at_109) rfl ((if0 _ _).trans (feq q109).1) ?_
    show Steps p.tables e below (T.setTop (mkF m 112 #[.val (.int i0), .val (.int i1), .val (.ref o2), .val (.int i3), .unset, .unset, .unset, .unset, .unset] [])) _
    refine XS.iconst X.here hx rfl (hb hby at_112) ?_
    show Steps p.tables e below (T.setTop (mkF m 113 #[.val (.int i0), .val (.int i1), .val (.ref o2), .val (.int i3), .unset, .unset, .unset, .unset, .unset] [(.int (1 : Int32))])) _
    refine XS.goto X.here hx rfl (pc0 := 113) (pc' := 117) rfl (hb hby at_113) (by decide) (by decide) ?_
    have e_t0 : (g1_106_t0 i1) = (1 : Int32) := by unfold g1_106_t0; rw [if_neg q109]
    rw [e_t0] at k
    exact k
def g2_129_t0 (i4 : Int32) (i5 : Int32) (i6 : Int32) : Int32 := if i4 = (0 : Int32) then i5 else (i5 ||| i6)
set_option maxRecDepth 65536 in
set_option maxHeartbeats 40000000 in
theorem g2_129 {p : Program} {l : Launch} {e : Env} {R : Room} {s : State} {m : MethodId} {args : Array Value} {below : List Frame} {meth : Method} {c : Code} {T : State} {locs : List Loc} {cells slots : Nat} {Z : State} {a0 : Array Value} {target : State} (i0 : Int32) (i1 : Int32) (o2 : Addr) (i3 : Int32) (i4 : Int32) (i5 : Int32) (i6 : Int32) (X : Stand p l e R s m args below meth c T locs cells slots) (hx : p.tables.exec = Jvm.exec) (hZ : Z.Warmed39 s.vm) (hw : ∀ d ∈ tables_1, d.before a0 Z = true) (hby : c.code = code) (hown : s.vm.findClass "com/example/node_sieve/nodesieve/AxisSelectsOncePinLaw" = some m.cls) (k : Steps p.tables e below (T.setTop (mkF m 144 #[.val (.int i0), .val (.int i1), .val (.ref o2), .val (.int i3), .val (.int i4), .val (.int i5), .val (.int i6), .unset, .unset] [(.int (g2_129_t0 i4 i5 i6))])) target) :
    Steps p.tables e below (T.setTop (mkF m 129 #[.val (.int i0), .val (.int i1), .val (.ref o2), .val (.int i3), .val (.int i4), .val (.int i5), .val (.int i6), .unset, .unset] [])) target := by
  show Steps p.tables e below (T.setTop (mkF m 129 #[.val (.int i0), .val (.int i1), .val (.ref o2), .val (.int i3), .val (.int i4), .val (.int i5), .val (.int i6), .unset, .unset] [])) _
  refine XS.iload X.here hx rfl (hb hby at_129) rfl ?_
  show Steps p.tables e below (T.setTop (mkF m 131 #[.val (.int i0), .val (.int i1), .val (.ref o2), .val (.int i3), .val (.int i4), .val (.int i5), .val (.int i6), .unset, .unset] [(.int i4)])) _
  by_cases q131 : i4 = (0 : Int32)
  · refine XS.ifYes X.here hx rfl (pc0 := 131) (pc' := 142) rfl (hb hby at_131) rfl ((if0 _ _).trans (teq q131).1) (by decide) (by decide) ?_
    show Steps p.tables e below (T.setTop (mkF m 142 #[.val (.int i0), .val (.int i1), .val (.ref o2), .val (.int i3), .val (.int i4), .val (.int i5), .val (.int i6), .unset, .unset] [])) _
    refine XS.iload X.here hx rfl (hb hby at_142) rfl ?_
    have e_t0 : (g2_129_t0 i4 i5 i6) = i5 := by unfold g2_129_t0; rw [if_pos q131]
    rw [e_t0] at k
    exact k
  · refine XS.ifNo X.here hx rfl (hb hby at_131) rfl ((if0 _ _).trans (feq q131).1) ?_
    show Steps p.tables e below (T.setTop (mkF m 134 #[.val (.int i0), .val (.int i1), .val (.ref o2), .val (.int i3), .val (.int i4), .val (.int i5), .val (.int i6), .unset, .unset] [])) _
    refine XS.iload X.here hx rfl (hb hby at_134) rfl ?_
    show Steps p.tables e below (T.setTop (mkF m 136 #[.val (.int i0), .val (.int i1), .val (.ref o2), .val (.int i3), .val (.int i4), .val (.int i5), .val (.int i6), .unset, .unset] [(.int i5)])) _
    refine XS.iload X.here hx rfl (hb hby at_136) rfl ?_
    show Steps p.tables e below (T.setTop (mkF m 138 #[.val (.int i0), .val (.int i1), .val (.ref o2), .val (.int i3), .val (.int i4), .val (.int i5), .val (.int i6), .unset, .unset] [(.int i6), (.int i5)])) _
    refine XS.ior X.here hx rfl (hb hby at_138) rfl ?_
    show Steps p.tables e below (T.setTop (mkF m 139 #[.val (.int i0), .val (.int i1), .val (.ref o2), .val (.int i3), .val (.int i4), .val (.int i5), .val (.int i6), .unset, .unset] [(.int (i5 ||| i6))])) _
    refine XS.goto X.here hx rfl (pc0 := 139) (pc' := 144) rfl (hb hby at_139) (by decide) (by decide) ?_
    have e_t0 : (g2_129_t0 i4 i5 i6) = (i5 ||| i6) := by unfold g2_129_t0; rw [if_neg q131]
    rw [e_t0] at k
    exact k
def g3_146_t0 (i3 : Int32) (i7 : Int32) : Int32 := if (((i7.toUInt32 >>> (i3 &&& 31).toUInt32).toInt32) &&& (1 : Int32)) = (0 : Int32) then (0 : Int32) else (1 : Int32)
set_option maxRecDepth 65536 in
set_option maxHeartbeats 40000000 in
theorem g3_146 {p : Program} {l : Launch} {e : Env} {R : Room} {s : State} {m : MethodId} {args : Array Value} {below : List Frame} {meth : Method} {c : Code} {T : State} {locs : List Loc} {cells slots : Nat} {Z : State} {a0 : Array Value} {target : State} (i0 : Int32) (i1 : Int32) (o2 : Addr) (i3 : Int32) (i4 : Int32) (i5 : Int32) (i6 : Int32) (i7 : Int32) (X : Stand p l e R s m args below meth c T locs cells slots) (hx : p.tables.exec = Jvm.exec) (hZ : Z.Warmed39 s.vm) (hw : ∀ d ∈ tables_1, d.before a0 Z = true) (hby : c.code = code) (hown : s.vm.findClass "com/example/node_sieve/nodesieve/AxisSelectsOncePinLaw" = some m.cls) (k : Steps p.tables e below (T.setTop (mkF m 160 #[.val (.int i0), .val (.int i1), .val (.ref o2), .val (.int i3), .val (.int i4), .val (.int i5), .val (.int i6), .val (.int i7), .unset] [(.int (g3_146_t0 i3 i7))])) target) :
    Steps p.tables e below (T.setTop (mkF m 146 #[.val (.int i0), .val (.int i1), .val (.ref o2), .val (.int i3), .val (.int i4), .val (.int i5), .val (.int i6), .val (.int i7), .unset] [])) target := by
  show Steps p.tables e below (T.setTop (mkF m 146 #[.val (.int i0), .val (.int i1), .val (.ref o2), .val (.int i3), .val (.int i4), .val (.int i5), .val (.int i6), .val (.int i7), .unset] [])) _
  refine XS.iload X.here hx rfl (hb hby at_146) rfl ?_
  show Steps p.tables e below (T.setTop (mkF m 148 #[.val (.int i0), .val (.int i1), .val (.ref o2), .val (.int i3), .val (.int i4), .val (.int i5), .val (.int i6), .val (.int i7), .unset] [(.int i7)])) _
  refine XS.iloadN X.here hx rfl (hb hby at_148) rfl ?_
  show Steps p.tables e below (T.setTop (mkF m 149 #[.val (.int i0), .val (.int i1), .val (.ref o2), .val (.int i3), .val (.int i4), .val (.int i5), .val (.int i6), .val (.int i7), .unset] [(.int i3), (.int i7)])) _
  refine XS.iushr X.here hx rfl (hb hby at_149) rfl ?_
  show Steps p.tables e below (T.setTop (mkF m 150 #[.val (.int i0), .val (.int i1), .val (.ref o2), .val (.int i3), .val (.int i4), .val (.int i5), .val (.int i6), .val (.int i7), .unset] [(.int ((i7.toUInt32 >>> (i3 &&& 31).toUInt32).toInt32))])) _
  refine XS.iconst X.here hx rfl (hb hby at_150) ?_
  show Steps p.tables e below (T.setTop (mkF m 151 #[.val (.int i0), .val (.int i1), .val (.ref o2), .val (.int i3), .val (.int i4), .val (.int i5), .val (.int i6), .val (.int i7), .unset] [(.int (1 : Int32)), (.int ((i7.toUInt32 >>> (i3 &&& 31).toUInt32).toInt32))])) _
  refine XS.iand X.here hx rfl (hb hby at_151) rfl ?_
  show Steps p.tables e below (T.setTop (mkF m 152 #[.val (.int i0), .val (.int i1), .val (.ref o2), .val (.int i3), .val (.int i4), .val (.int i5), .val (.int i6), .val (.int i7), .unset] [(.int (((i7.toUInt32 >>> (i3 &&& 31).toUInt32).toInt32) &&& (1 : Int32)))])) _
  by_cases q152 : (((i7.toUInt32 >>> (i3 &&& 31).toUInt32).toInt32) &&& (1 : Int32)) = (0 : Int32)
  · refine XS.ifYes X.here hx rfl (pc0 := 152) (pc' := 159) rfl (hb hby at_152) rfl ((if0 _ _).trans (teq q152).1) (by decide) (by decide) ?_
    show Steps p.tables e below (T.setTop (mkF m 159 #[.val (.int i0), .val (.int i1), .val (.ref o2), .val (.int i3), .val (.int i4), .val (.int i5), .val (.int i6), .val (.int i7), .unset] [])) _
    refine XS.iconst X.here hx rfl (hb hby at_159) ?_
    have e_t0 : (g3_146_t0 i3 i7) = (0 : Int32) := by unfold g3_146_t0; rw [if_pos q152]
    rw [e_t0] at k
    exact k
  · refine XS.ifNo X.here hx rfl (hb hby at_152) rfl ((if0 _ _).trans (feq q152).1) ?_
    show Steps p.tables e below (T.setTop (mkF m 155 #[.val (.int i0), .val (.int i1), .val (.ref o2), .val (.int i3), .val (.int i4), .val (.int i5), .val (.int i6), .val (.int i7), .unset] [])) _
    refine XS.iconst X.here hx rfl (hb hby at_155) ?_
    show Steps p.tables e below (T.setTop (mkF m 156 #[.val (.int i0), .val (.int i1), .val (.ref o2), .val (.int i3), .val (.int i4), .val (.int i5), .val (.int i6), .val (.int i7), .unset] [(.int (1 : Int32))])) _
    refine XS.goto X.here hx rfl (pc0 := 156) (pc' := 160) rfl (hb hby at_156) (by decide) (by decide) ?_
    have e_t0 : (g3_146_t0 i3 i7) = (1 : Int32) := by unfold g3_146_t0; rw [if_neg q152]
    rw [e_t0] at k
    exact k
theorem pd_0 : parseMethodDescriptor "(Z)Z" = some ⟨[.boolean], some .boolean⟩ := by decide +kernel
theorem own_in14 (y : Int32) : ¬ ((y &&& (2147483647 : Int32)) % (14 : Int32)) < 0 ∧ ((y &&& (2147483647 : Int32)) % (14 : Int32)) < 14 := by
  have e : 0 ≤ (y &&& (2147483647 : Int32)).toInt ∧ _ := c_and y 2147483647 (by decide)
  have q := (c_irem (y &&& (2147483647 : Int32)) 14 14 rfl).1 e.1
  have e0 : (0 : Int32).toInt = 0 := rfl
  have e8 : (14 : Int32).toInt = 14 := rfl
  rw [Int32.lt_iff_toInt_lt, Int32.lt_iff_toInt_lt]
  omega
theorem own_cases14 {j : Int32} (h : ¬ j < 0 ∧ j < 14) : j = 0 ∨ j = 1 ∨ j = 2 ∨ j = 3 ∨ j = 4 ∨ j = 5 ∨ j = 6 ∨ j = 7 ∨ j = 8 ∨ j = 9 ∨ j = 10 ∨ j = 11 ∨ j = 12 ∨ j = 13 := by
  obtain ⟨h1, h2⟩ := h
  rw [Int32.lt_iff_toInt_lt] at h1 h2
  have e0 : (0 : Int32).toInt = 0 := rfl
  have e8 : (14 : Int32).toInt = 14 := rfl
  have e : j.toInt = 0 ∨ j.toInt = 1 ∨ j.toInt = 2 ∨ j.toInt = 3 ∨ j.toInt = 4 ∨ j.toInt = 5 ∨ j.toInt = 6 ∨ j.toInt = 7 ∨ j.toInt = 8 ∨ j.toInt = 9 ∨ j.toInt = 10 ∨ j.toInt = 11 ∨ j.toInt = 12 ∨ j.toInt = 13 := by omega
  rcases e with e | e | e | e | e | e | e | e | e | e | e | e | e | e
  · exact Or.inl (Int32.toInt_inj.mp e)
  · exact Or.inr (Or.inl (Int32.toInt_inj.mp e))
  · exact Or.inr (Or.inr (Or.inl (Int32.toInt_inj.mp e)))
  · exact Or.inr (Or.inr (Or.inr (Or.inl (Int32.toInt_inj.mp e))))
  · exact Or.inr (Or.inr (Or.inr (Or.inr (Or.inl (Int32.toInt_inj.mp e)))))
  · exact Or.inr (Or.inr (Or.inr (Or.inr (Or.inr (Or.inl (Int32.toInt_inj.mp e))))))
  · exact Or.inr (Or.inr (Or.inr (Or.inr (Or.inr (Or.inr (Or.inl (Int32.toInt_inj.mp e)))))))
  · exact Or.inr (Or.inr (Or.inr (Or.inr (Or.inr (Or.inr (Or.inr (Or.inl (Int32.toInt_inj.mp e))))))))
  · exact Or.inr (Or.inr (Or.inr (Or.inr (Or.inr (Or.inr (Or.inr (Or.inr (Or.inl (Int32.toInt_inj.mp e)))))))))
  · exact Or.inr (Or.inr (Or.inr (Or.inr (Or.inr (Or.inr (Or.inr (Or.inr (Or.inr (Or.inl (Int32.toInt_inj.mp e))))))))))
  · exact Or.inr (Or.inr (Or.inr (Or.inr (Or.inr (Or.inr (Or.inr (Or.inr (Or.inr (Or.inr (Or.inl (Int32.toInt_inj.mp e)))))))))))
  · exact Or.inr (Or.inr (Or.inr (Or.inr (Or.inr (Or.inr (Or.inr (Or.inr (Or.inr (Or.inr (Or.inr (Or.inl (Int32.toInt_inj.mp e))))))))))))
  · exact Or.inr (Or.inr (Or.inr (Or.inr (Or.inr (Or.inr (Or.inr (Or.inr (Or.inr (Or.inr (Or.inr (Or.inr (Or.inl (Int32.toInt_inj.mp e)))))))))))))
  · exact Or.inr (Or.inr (Or.inr (Or.inr (Or.inr (Or.inr (Or.inr (Or.inr (Or.inr (Or.inr (Or.inr (Or.inr (Or.inr ((Int32.toInt_inj.mp e))))))))))))))
theorem own_l0 (p1 jj : Int32) (hk : jj = 0) : (s_CHILD_61_t0 (g1_106_t0 p1) (1 : Int32) (0 : Int32)) = (g3_146_t0 jj (g2_129_t0 (g1_106_t0 p1) (1793 : Int32) (10242 : Int32))) := by
  subst hk
  by_cases h : (p1 &&& (1 : Int32)) = (0 : Int32)
  · rw [show g1_106_t0 p1 = 0 from if_pos h]; decide
  · rw [show g1_106_t0 p1 = 1 from if_neg h]; decide
theorem own_l1 (p1 jj : Int32) (hk : jj = 1) : (s_DESCENDANT_61_t0 (g1_106_t0 p1) (0 : Int32) (1 : Int32)) = (g3_146_t0 jj (g2_129_t0 (g1_106_t0 p1) (1793 : Int32) (10242 : Int32))) := by
  subst hk
  by_cases h : (p1 &&& (1 : Int32)) = (0 : Int32)
  · rw [show g1_106_t0 p1 = 0 from if_pos h]; decide
  · rw [show g1_106_t0 p1 = 1 from if_neg h]; decide
theorem own_l2 (p1 jj : Int32) (hk : jj = 2) : (s_none_61_t0 (g1_106_t0 p1) (0 : Int32) (0 : Int32)) = (g3_146_t0 jj (g2_129_t0 (g1_106_t0 p1) (1793 : Int32) (10242 : Int32))) := by
  subst hk
  by_cases h : (p1 &&& (1 : Int32)) = (0 : Int32)
  · rw [show g1_106_t0 p1 = 0 from if_pos h]; decide
  · rw [show g1_106_t0 p1 = 1 from if_neg h]; decide
theorem own_l3 (p1 jj : Int32) (hk : jj = 3) : (s_none_61_t0 (g1_106_t0 p1) (0 : Int32) (0 : Int32)) = (g3_146_t0 jj (g2_129_t0 (g1_106_t0 p1) (1793 : Int32) (10242 : Int32))) := by
  subst hk
  by_cases h : (p1 &&& (1 : Int32)) = (0 : Int32)
  · rw [show g1_106_t0 p1 = 0 from if_pos h]; decide
  · rw [show g1_106_t0 p1 = 1 from if_neg h]; decide
theorem own_l4 (p1 jj : Int32) (hk : jj = 4) : (s_none_61_t0 (g1_106_t0 p1) (0 : Int32) (0 : Int32)) = (g3_146_t0 jj (g2_129_t0 (g1_106_t0 p1) (1793 : Int32) (10242 : Int32))) := by
  subst hk
  by_cases h : (p1 &&& (1 : Int32)) = (0 : Int32)
  · rw [show g1_106_t0 p1 = 0 from if_pos h]; decide
  · rw [show g1_106_t0 p1 = 1 from if_neg h]; decide
theorem own_l5 (p1 jj : Int32) (hk : jj = 5) : (s_none_61_t0 (g1_106_t0 p1) (0 : Int32) (0 : Int32)) = (g3_146_t0 jj (g2_129_t0 (g1_106_t0 p1) (1793 : Int32) (10242 : Int32))) := by
  subst hk
  by_cases h : (p1 &&& (1 : Int32)) = (0 : Int32)
  · rw [show g1_106_t0 p1 = 0 from if_pos h]; decide
  · rw [show g1_106_t0 p1 = 1 from if_neg h]; decide
theorem own_l6 (p1 jj : Int32) (hk : jj = 6) : (s_none_61_t0 (g1_106_t0 p1) (0 : Int32) (0 : Int32)) = (g3_146_t0 jj (g2_129_t0 (g1_106_t0 p1) (1793 : Int32) (10242 : Int32))) := by
  subst hk
  by_cases h : (p1 &&& (1 : Int32)) = (0 : Int32)
  · rw [show g1_106_t0 p1 = 0 from if_pos h]; decide
  · rw [show g1_106_t0 p1 = 1 from if_neg h]; decide
theorem own_l7 (p1 jj : Int32) (hk : jj = 7) : (s_none_61_t0 (g1_106_t0 p1) (0 : Int32) (0 : Int32)) = (g3_146_t0 jj (g2_129_t0 (g1_106_t0 p1) (1793 : Int32) (10242 : Int32))) := by
  subst hk
  by_cases h : (p1 &&& (1 : Int32)) = (0 : Int32)
  · rw [show g1_106_t0 p1 = 0 from if_pos h]; decide
  · rw [show g1_106_t0 p1 = 1 from if_neg h]; decide
theorem own_l8 (p1 jj : Int32) (hk : jj = 8) : (s_ATTRIBUTE_61_t0 (g1_106_t0 p1) (1 : Int32) (0 : Int32)) = (g3_146_t0 jj (g2_129_t0 (g1_106_t0 p1) (1793 : Int32) (10242 : Int32))) := by
  subst hk
  by_cases h : (p1 &&& (1 : Int32)) = (0 : Int32)
  · rw [show g1_106_t0 p1 = 0 from if_pos h]; decide
  · rw [show g1_106_t0 p1 = 1 from if_neg h]; decide
theorem own_l9 (p1 jj : Int32) (hk : jj = 9) : (s_NAMESPACE_61_t0 (g1_106_t0 p1) (1 : Int32) (0 : Int32)) = (g3_146_t0 jj (g2_129_t0 (g1_106_t0 p1) (1793 : Int32) (10242 : Int32))) := by
  subst hk
  by_cases h : (p1 &&& (1 : Int32)) = (0 : Int32)
  · rw [show g1_106_t0 p1 = 0 from if_pos h]; decide
  · rw [show g1_106_t0 p1 = 1 from if_neg h]; decide
theorem own_l10 (p1 jj : Int32) (hk : jj = 10) : (s_SELF_61_t0 (g1_106_t0 p1) (1 : Int32) (0 : Int32)) = (g3_146_t0 jj (g2_129_t0 (g1_106_t0 p1) (1793 : Int32) (10242 : Int32))) := by
  subst hk
  by_cases h : (p1 &&& (1 : Int32)) = (0 : Int32)
  · rw [show g1_106_t0 p1 = 0 from if_pos h]; decide
  · rw [show g1_106_t0 p1 = 1 from if_neg h]; decide
theorem own_l11 (p1 jj : Int32) (hk : jj = 11) : (s_DESCENDANT_OR_SELF_61_t0 (g1_106_t0 p1) (0 : Int32) (1 : Int32)) = (g3_146_t0 jj (g2_129_t0 (g1_106_t0 p1) (1793 : Int32) (10242 : Int32))) := by
  subst hk
  by_cases h : (p1 &&& (1 : Int32)) = (0 : Int32)
  · rw [show g1_106_t0 p1 = 0 from if_pos h]; decide
  · rw [show g1_106_t0 p1 = 1 from if_neg h]; decide
theorem own_l12 (p1 jj : Int32) (hk : jj = 12) : (s_none_61_t0 (g1_106_t0 p1) (0 : Int32) (0 : Int32)) = (g3_146_t0 jj (g2_129_t0 (g1_106_t0 p1) (1793 : Int32) (10242 : Int32))) := by
  subst hk
  by_cases h : (p1 &&& (1 : Int32)) = (0 : Int32)
  · rw [show g1_106_t0 p1 = 0 from if_pos h]; decide
  · rw [show g1_106_t0 p1 = 1 from if_neg h]; decide
theorem own_l13 (p1 jj : Int32) (hk : jj = 13) : (s_SUBTREE_ATTRIBUTE_61_t0 (g1_106_t0 p1) (0 : Int32) (1 : Int32)) = (g3_146_t0 jj (g2_129_t0 (g1_106_t0 p1) (1793 : Int32) (10242 : Int32))) := by
  subst hk
  by_cases h : (p1 &&& (1 : Int32)) = (0 : Int32)
  · rw [show g1_106_t0 p1 = 0 from if_pos h]; decide
  · rw [show g1_106_t0 p1 = 1 from if_neg h]; decide
theorem pn_1 : plainName "com/example/node_sieve/nodesieve/AxisSelectsOncePinLaw" = true := by first | (simp [plainName, overriddenIn]; done) | decide +kernel
theorem ef_rm0 (m : MethodId) (x0 : Int32) (x1 : Int32) : entryFrame m #[(.int x0), (.int x1)] maxLocals = mkF m 0 #[.val (.int x0), .val (.int x1), .unset, .unset, .unset, .unset, .unset, .unset, .unset] [] := by first | (simp [entryFrame, mkF, argsToLocals, Value.category, maxLocals]; done) | rfl
def Q_rm0 (Z : State) (p0 : Int32) (p1 : Int32) (x1 x2 x3 x4 x5 x6 x7 x8 x9 x10 x11 x12 x13 x14 : Addr) (h0 : Heap) (n0 : Nat) (v : Option Value) (h : Heap) (L : List Loc) : Prop := v = some (.int (1 : Int32)) ∧ Fr n0 L
set_option maxRecDepth 65536 in
set_option maxHeartbeats 40000000 in
theorem rm0 (l : Launch) (Z : State) (a0 : Array Value) (hw : ∀ d ∈ tables_1, d.before a0 Z = true) (ws : List Jvm.Cond) (p0 : Int32) (p1 : Int32) (x1 x2 x3 x4 x5 x6 x7 x8 x9 x10 x11 x12 x13 x14 : Addr) (h0 : Heap) (n0 : Nat) (Z0 : n0 ≤ h0.size) (O0 : Old Z n0 h0) (Sa1 : Sta Z Z.heap "com/example/node_sieve/nodesieve/Axis" "CHILD" "Lcom/example/node_sieve/nodesieve/Axis;" (.ref x1)) (Ea1 : Exa Z Z.heap x1 "com/example/node_sieve/nodesieve/Axis$1") (Sa2 : Sta Z Z.heap "com/example/node_sieve/nodesieve/Axis" "DESCENDANT" "Lcom/example/node_sieve/nodesieve/Axis;" (.ref x2)) (Ea2 : Exa Z Z.heap x2 "com/example/node_sieve/nodesieve/Axis$2") (Sa3 : Sta Z Z.heap "com/example/node_sieve/nodesieve/Axis" "PARENT" "Lcom/example/node_sieve/nodesieve/Axis;" (.ref x3)) (Ea3 : Exa Z Z.heap x3 "com/example/node_sieve/nodesieve/Axis$3") (Sa4 : Sta Z Z.heap "com/example/node_sieve/nodesieve/Axis" "ANCESTOR" "Lcom/example/node_sieve/nodesieve/Axis;" (.ref x4)) (Ea4 : Exa Z Z.heap x4 "com/example/node_sieve/nodesieve/Axis$4") (Sa5 : Sta Z Z.heap "com/example/node_sieve/nodesieve/Axis" "FOLLOWING_SIBLING" "Lcom/example/node_sieve/nodesieve/Axis;" (.ref x5)) (Ea5 : Exa Z Z.heap x5 "com/example/node_sieve/nodesieve/Axis$5") (Sa6 : Sta Z Z.heap "com/example/node_sieve/nodesieve/Axis" "PRECEDING_SIBLING" "Lcom/example/node_sieve/nodesieve/Axis;" (.ref x6)) (Ea6 : Exa Z Z.heap x6 "com/example/node_sieve/nodesieve/Axis$6") (Sa7 : Sta Z Z.heap "com/example/node_sieve/nodesieve/Axis" "FOLLOWING" "Lcom/example/node_sieve/nodesieve/Axis;" (.ref x7)) (Ea7 : Exa Z Z.heap x7 "com/example/node_sieve/nodesieve/Axis$7") (Sa8 : Sta Z Z.heap "com/example/node_sieve/nodesieve/Axis" "PRECEDING" "Lcom/example/node_sieve/nodesieve/Axis;" (.ref x8)) (Ea8 : Exa Z Z.heap x8 "com/example/node_sieve/nodesieve/Axis$8") (Sa9 : Sta Z Z.heap "com/example/node_sieve/nodesieve/Axis" "ATTRIBUTE" "Lcom/example/node_sieve/nodesieve/Axis;" (.ref x9)) (Ea9 : Exa Z Z.heap x9 "com/example/node_sieve/nodesieve/Axis$9") (Sa10 : Sta Z Z.heap "com/example/node_sieve/nodesieve/Axis" "NAMESPACE" "Lcom/example/node_sieve/nodesieve/Axis;" (.ref x10)) (Ea10 : Exa Z Z.heap x10 "com/example/node_sieve/nodesieve/Axis$10") (Sa11 : Sta Z Z.heap "com/example/node_sieve/nodesieve/Axis" "SELF" "Lcom/example/node_sieve/nodesieve/Axis;" (.ref x11)) (Ea11 : Exa Z Z.heap x11 "com/example/node_sieve/nodesieve/Axis$11") (Sa12 : Sta Z Z.heap "com/example/node_sieve/nodesieve/Axis" "DESCENDANT_OR_SELF" "Lcom/example/node_sieve/nodesieve/Axis;" (.ref x12)) (Ea12 : Exa Z Z.heap x12 "com/example/node_sieve/nodesieve/Axis$12") (Sa13 : Sta Z Z.heap "com/example/node_sieve/nodesieve/Axis" "ANCESTOR_OR_SELF" "Lcom/example/node_sieve/nodesieve/Axis;" (.ref x13)) (Ea13 : Exa Z Z.heap x13 "com/example/node_sieve/nodesieve/Axis$13") (Sa14 : Sta Z Z.heap "com/example/node_sieve/nodesieve/Axis" "SUBTREE_ATTRIBUTE" "Lcom/example/node_sieve/nodesieve/Axis;" (.ref x14)) (Ea14 : Exa Z Z.heap x14 "com/example/node_sieve/nodesieve/Axis$14") :
    MetFree l x (head1 (Jvm.Cond.code x code maxLocals ret :: ws) room_1) (fun a U => a = #[(.int p0), (.int p1)] ∧ Z.Warmed39 U.vm ∧ U.heap = h0) (fun _ _ _ _ _ => True) (fun _ U o U' => ∃ v L, o = .returned v ∧ Q_rm0 Z p0 p1 x1 x2 x3 x4 x5 x6 x7 x8 x9 x10 x11 x12 x13 x14 h0 n0 v U'.heap L ∧ FrameEnd U o U' L room_1.cells room_1.slots) := by
  refine MetFree.of_bodySF (plainFor_of_name pn_1) hisR ?_
  intro p e s m args below meth c s₁ Bd hml0 hP hK
  obtain ⟨rfl, hZ, hh⟩ := hP
  have hx := Bd.exec
  have hby := Bd.bytes
  have hml : c.maxLocals = 9 := hml0
  have hown : s.vm.findClass "com/example/node_sieve/nodesieve/AxisSelectsOncePinLaw" = some m.cls := findClass_of_methodNamed Bd.named
  have hnm := (name_of_methodNamed Bd.named Bd.method).1
  have X0 : Stand p l e room_1 s m #[(.int p0), (.int p1)] below meth c s₁ [] 0 0 := Stand.of_body Bd
  have e0 : s₁.heap = h0 := by rw [← hh, Bd.state]; rfl
  have N0 := Fr.nil n0
  have c0 : ∀ τ, Steps p.tables e below (s₁.setTop (mkF m 0 #[.val (.int p0), .val (.int p1), .unset, .unset, .unset, .unset, .unset, .unset, .unset] [])) τ → Steps p.tables e below (s₁.setTop (entryFrame m #[(.int p0), (.int p1)] maxLocals)) τ := fun τ κ => castTop (ef_rm0 m p0 p1) κ
  have c1 : ∀ τ, Steps p.tables e below (s₁.setTop (mkF m 2 #[.val (.int p0), .val (.int p1), .unset, .unset, .unset, .unset, .unset, .unset, .unset] [(.int (14 : Int32))])) τ → Steps p.tables e below (s₁.setTop (entryFrame m #[(.int p0), (.int p1)] maxLocals)) τ := fun τ κ => c0 τ (by
      show Steps p.tables e below (s₁.setTop (mkF m 0 #[.val (.int p0), .val (.int p1), .unset, .unset, .unset, .unset, .unset, .unset, .unset] [])) _
      refine XS.bipush X0.here hx rfl (hb hby at_0) ?_
      exact κ)
  obtain ⟨T2, h2, k2, X2, e2, E2, A2, O2, st2⟩ := newR X0 hx hZ hown (hw _ (List.mem_of_getElem? (i := 0) rfl)) (hw _ (List.mem_of_getElem? (i := 1) rfl)) e0 (g := (mkF m 2 #[.val (.int p0), .val (.int p1), .unset, .unset, .unset, .unset, .unset, .unset, .unset] [(.int (14 : Int32))])) rfl (hb hby at_2) rfl (by decide) (cap := 14) (by decide) (by decide) (by decide) (by decide)
  obtain ⟨b2, g2⟩ : ∃ z, z = h0.size := ⟨_, rfl⟩
  rw [← g2] at A2 st2
  have gb2 : n0 ≤ b2 := Nat.le_trans Z0 (Nat.le_of_eq g2.symm)
  have V2 : Arv Z h2 b2 k2 (.object "com/example/node_sieve/nodesieve/Axis") (14 : Int32) [.null, .null, .null, .null, .null, .null, .null, .null, .null, .null, .null, .null, .null, .null] .null := (Arv.new A2 (by decide)).pad (pad_rep [] .null 14)
  have Z2 : n0 ≤ h2.size := Nat.le_trans Z0 E2.1
  have c3 : ∀ τ, Steps p.tables e below (T2.setTop (mkF m 5 #[.val (.int p0), .val (.int p1), .unset, .unset, .unset, .unset, .unset, .unset, .unset] [(.ref b2)])) τ → Steps p.tables e below (s₁.setTop (entryFrame m #[(.int p0), (.int p1)] maxLocals)) τ := fun τ κ => c1 τ (st2 τ κ)
  have f4 := (O0.ext E2)
  have c5 : ∀ τ, Steps p.tables e below (T2.setTop (mkF m 7 #[.val (.int p0), .val (.int p1), .unset, .unset, .unset, .unset, .unset, .unset, .unset] [(.int (0 : Int32)), (.ref b2), (.ref b2)])) τ → Steps p.tables e below (s₁.setTop (entryFrame m #[(.int p0), (.int p1)] maxLocals)) τ := fun τ κ => c3 τ (by
      show Steps p.tables e below (T2.setTop (mkF m 5 #[.val (.int p0), .val (.int p1), .unset, .unset, .unset, .unset, .unset, .unset, .unset] [(.ref b2)])) _
      refine XS.dup X2.here hx rfl (hb hby at_5) rfl rfl ?_
      show Steps p.tables e below (T2.setTop (mkF m 6 #[.val (.int p0), .val (.int p1), .unset, .unset, .unset, .unset, .unset, .unset, .unset] [(.ref b2), (.ref b2)])) _
      refine XS.iconst X2.here hx rfl (hb hby at_6) ?_
      exact κ)
  obtain ⟨T6, X6, e6, st6⟩ := getS2 X2 hx hZ hown (host := "") (Or.inl (hw _ (List.mem_of_getElem? (i := 2) rfl))) Via.refl e2 (Sa1.ext f4.2) (g := (mkF m 7 #[.val (.int p0), .val (.int p1), .unset, .unset, .unset, .unset, .unset, .unset, .unset] [(.int (0 : Int32)), (.ref b2), (.ref b2)])) rfl (hb hby at_7)
  have c7 : ∀ τ, Steps p.tables e below (T6.setTop (mkF m 10 #[.val (.int p0), .val (.int p1), .unset, .unset, .unset, .unset, .unset, .unset, .unset] [(.ref x1), (.int (0 : Int32)), (.ref b2), (.ref b2)])) τ → Steps p.tables e below (s₁.setTop (entryFrame m #[(.int p0), (.int p1)] maxLocals)) τ := fun τ κ => c5 τ (st6 τ κ)
  obtain ⟨T8, h8, L8, X8, e8, N8, W8, V8a, st8⟩ := own_stR X6 hx hZ e6 V2 O2 (Ins.of_exa (Ea1.ext f4.2) (hw _ (List.mem_of_getElem? (i := 5) rfl))) ⟨by decide, by decide⟩ 0 rfl (Nat.le_of_ble_eq_true rfl) N0 gb2 (g := (mkF m 10 #[.val (.int p0), .val (.int p1), .unset, .unset, .unset, .unset, .unset, .unset, .unset] [(.ref x1), (.int (0 : Int32)), (.ref b2), (.ref b2)])) rfl rfl (hb hby at_10)
  have V8 : Arv Z h8 b2 k2 (.object "com/example/node_sieve/nodesieve/Axis") (14 : Int32) [(.ref x1), .null, .null, .null, .null, .null, .null, .null, .null, .null, .null, .null, .null, .null] .null := V8a
  have Z8 : n0 ≤ h8.size := Nat.le_trans Z2 (Keep.of_wr W8).1
  have c9 : ∀ τ, Steps p.tables e below (T8.setTop (mkF m 11 #[.val (.int p0), .val (.int p1), .unset, .unset, .unset, .unset, .unset, .unset, .unset] [(.ref b2)])) τ → Steps p.tables e below (s₁.setTop (entryFrame m #[(.int p0), (.int p1)] maxLocals)) τ := fun τ κ => c7 τ (st8 τ κ)
  have f10 := (f4.wr W8 gb2)
  have c11 : ∀ τ, Steps p.tables e below (T8.setTop (mkF m 13 #[.val (.int p0), .val (.int p1), .unset, .unset, .unset, .unset, .unset, .unset, .unset] [(.int (1 : Int32)), (.ref b2), (.ref b2)])) τ → Steps p.tables e below (s₁.setTop (entryFrame m #[(.int p0), (.int p1)] maxLocals)) τ := fun τ κ => c9 τ (by
      show Steps p.tables e below (T8.setTop (mkF m 11 #[.val (.int p0), .val (.int p1), .unset, .unset, .unset, .unset, .unset, .unset, .unset] [(.ref b2)])) _
      refine XS.dup X8.here hx rfl (hb hby at_11) rfl rfl ?_
      show Steps p.tables e below (T8.setTop (mkF m 12 #[.val (.int p0), .val (.int p1), .unset, .unset, .unset, .unset, .unset, .unset, .unset] [(.ref b2), (.ref b2)])) _
      refine XS.iconst X8.here hx rfl (hb hby at_12) ?_
      exact κ)
  obtain ⟨T12, X12, e12, st12⟩ := getS2 X8 hx hZ hown (host := "") (Or.inl (hw _ (List.mem_of_getElem? (i := 6) rfl))) Via.refl e8 (Sa2.ext f10.2) (g := (mkF m 13 #[.val (.int p0), .val (.int p1), .unset, .unset, .unset, .unset, .unset, .unset, .unset] [(.int (1 : Int32)), (.ref b2), (.ref b2)])) rfl (hb hby at_13)
  have c13 : ∀ τ, Steps p.tables e below (T12.setTop (mkF m 16 #[.val (.int p0), .val (.int p1), .unset, .unset, .unset, .unset, .unset, .unset, .unset] [(.ref x2), (.int (1 : Int32)), (.ref b2), (.ref b2)])) τ → Steps p.tables e below (s₁.setTop (entryFrame m #[(.int p0), (.int p1)] maxLocals)) τ := fun τ κ => c11 τ (st12 τ κ)
  obtain ⟨T14, h14, L14, X14, e14, N14, W14, V14a, st14⟩ := own_stR X12 hx hZ e12 V8 O2 (Ins.of_exa (Ea2.ext f10.2) (hw _ (List.mem_of_getElem? (i := 8) rfl))) ⟨by decide, by decide⟩ 1 rfl (Nat.le_of_ble_eq_true rfl) N8 gb2 (g := (mkF m 16 #[.val (.int p0), .val (.int p1), .unset, .unset, .unset, .unset, .unset, .unset, .unset] [(.ref x2), (.int (1 : Int32)), (.ref b2), (.ref b2)])) rfl rfl (hb hby at_16)
  have V14 : Arv Z h14 b2 k2 (.object "com/example/node_sieve/nodesieve/Axis") (14 : Int32) [(.ref x1), (.ref x2), .null, .null, .null, .null, .null, .null, .null, .null, .null, .null, .null, .null] .null := V14a
  have Z14 : n0 ≤ h14.size := Nat.le_trans Z8 (Keep.of_wr W14).1
  have c15 : ∀ τ, Steps p.tables e below (T14.setTop (mkF m 17 #[.val (.int p0), .val (.int p1), .unset, .unset, .unset, .unset, .unset, .unset, .unset] [(.ref b2)])) τ → Steps p.tables e below (s₁.setTop (entryFrame m #[(.int p0), (.int p1)] maxLocals)) τ := fun τ κ => c13 τ (st14 τ κ)
  have f16 := (f10.wr W14 gb2)
  have c17 : ∀ τ, Steps p.tables e below (T14.setTop (mkF m 19 #[.val (.int p0), .val (.int p1), .unset, .unset, .unset, .unset, .unset, .unset, .unset] [(.int (2 : Int32)), (.ref b2), (.ref b2)])) τ → Steps p.tables e below (s₁.setTop (entryFrame m #[(.int p0), (.int p1)] maxLocals)) τ := fun τ κ => c15 τ (by
      show Steps p.tables e below (T14.setTop (mkF m 17 #[.val (.int p0), .val (.int p1), .unset, .unset, .unset, .unset, .unset, .unset, .unset] [(.ref b2)])) _
      refine XS.dup X14.here hx rfl (hb hby at_17) rfl rfl ?_
      show Steps p.tables e below (T14.setTop (mkF m 18 #[.val (.int p0), .val (.int p1), .unset, .unset, .unset, .unset, .unset, .unset, .unset] [(.ref b2), (.ref b2)])) _
      refine XS.iconst X14.here hx rfl (hb hby at_18) ?_
      exact κ)
  obtain ⟨T18, X18, e18, st18⟩ := getS2 X14 hx hZ hown (host := "") (Or.inl (hw _ (List.mem_of_getElem? (i := 9) rfl))) Via.refl e14 (Sa3.ext f16.2) (g := (mkF m 19 #[.val (.int p0), .val (.int p1), .unset, .unset, .unset, .unset, .unset, .unset, .unset] [(.int (2 : Int32)), (.ref b2), (.ref b2)])) rfl (hb hby at_19)
  have c19 : ∀ τ, Steps p.tables e below (T18.setTop (mkF m 22 #[.val (.int p0), .val (.int p1), .unset, .unset, .unset, .unset, .unset, .unset, .unset] [(.ref x3), (.int (2 : Int32)), (.ref b2), (.ref b2)])) τ → Steps p.tables e below (s₁.setTop (entryFrame m #[(.int p0), (.int p1)] maxLocals)) τ := fun τ κ => c17 τ (st18 τ κ)
  obtain ⟨T20, h20, L20, X20, e20, N20, W20, V20a, st20⟩ := own_stR X18 hx hZ e18 V14 O2 (Ins.of_exa (Ea3.ext f16.2) (hw _ (List.mem_of_getElem? (i := 11) rfl))) ⟨by decide, by decide⟩ 2 rfl (Nat.le_of_ble_eq_true rfl) N14 gb2 (g := (mkF m 22 #[.val (.int p0), .val (.int p1), .unset, .unset, .unset, .unset, .unset, .unset, .unset] [(.ref x3), (.int (2 : Int32)), (.ref b2), (.ref b2)])) rfl rfl (hb hby at_22)
  have V20 : Arv Z h20 b2 k2 (.object "com/example/node_sieve/nodesieve/Axis") (14 : Int32) [(.ref x1), (.ref x2), (.ref x3), .null, .null, .null, .null, .null, .null, .null, .null, .null, .null, .null] .null := V20a
  have Z20 : n0 ≤ h20.size := Nat.le_trans Z14 (Keep.of_wr W20).1
  have c21 : ∀ τ, Steps p.tables e below (T20.setTop (mkF m 23 #[.val (.int p0), .val (.int p1), .unset, .unset, .unset, .unset, .unset, .unset, .unset] [(.ref b2)])) τ → Steps p.tables e below (s₁.setTop (entryFrame m #[(.int p0), (.int p1)] maxLocals)) τ := fun τ κ => c19 τ (st20 τ κ)
  have f22 := (f16.wr W20 gb2)
  have c23 : ∀ τ, Steps p.tables e below (T20.setTop (mkF m 25 #[.val (.int p0), .val (.int p1), .unset, .unset, .unset, .unset, .unset, .unset, .unset] [(.int (3 : Int32)), (.ref b2), (.ref b2)])) τ → Steps p.tables e below (s₁.setTop (entryFrame m #[(.int p0), (.int p1)] maxLocals)) τ := fun τ κ => c21 τ (by
      show Steps p.tables e below (T20.setTop (mkF m 23 #[.val (.int p0), .val (.int p1), .unset, .unset, .unset, .unset, .unset, .unset, .unset] [(.ref b2)])) _
      refine XS.dup X20.here hx rfl (hb hby at_23) rfl rfl ?_
      show Steps p.tables e below (T20.setTop (mkF m 24 #[.val (.int p0), .val (.int p1), .unset, .unset, .unset, .unset, .unset, .unset, .unset] [(.ref b2), (.ref b2)])) _
      refine XS.iconst X20.here hx rfl (hb hby at_24) ?_
      exact κ)
  obtain ⟨T24, X24, e24, st24⟩ := getS2 X20 hx hZ hown (host := "") (Or.inl (hw _ (List.mem_of_getElem? (i := 12) rfl))) Via.refl e20 (Sa4.ext f22.2) (g := (mkF m 25 #[.val (.int p0), .val (.int p1), .unset, .unset, .unset, .unset, .unset, .unset, .unset] [(.int (3 : Int32)), (.ref b2), (.ref b2)])) rfl (hb hby at_25)
  have c25 : ∀ τ, Steps p.tables e below (T24.setTop (mkF m 28 #[.val (.int p0), .val (.int p1), .unset, .unset, .unset, .unset, .unset, .unset, .unset] [(.ref x4), (.int (3 : Int32)), (.ref b2), (.ref b2)])) τ → Steps p.tables e below (s₁.setTop (entryFrame m #[(.int p0), (.int p1)] maxLocals)) τ := fun τ κ => c23 τ (st24 τ κ)
  obtain ⟨T26, h26, L26, X26, e26, N26, W26, V26a, st26⟩ := own_stR X24 hx hZ e24 V20 O2 (Ins.of_exa (Ea4.ext f22.2) (hw _ (List.mem_of_getElem? (i := 14) rfl))) ⟨by decide, by decide⟩ 3 rfl (Nat.le_of_ble_eq_true rfl) N20 gb2 (g := (mkF m 28 #[.val (.int p0), .val (.int p1), .unset, .unset, .unset, .unset, .unset, .unset, .unset] [(.ref x4), (.int (3 : Int32)), (.ref b2), (.ref b2)])) rfl rfl (hb hby at_28)
  have V26 : Arv Z h26 b2 k2 (.object "com/example/node_sieve/nodesieve/Axis") (14 : Int32) [(.ref x1), (.ref x2), (.ref x3), (.ref x4), .null, .null, .null, .null, .null, .null, .null, .null, .null, .null] .null := V26a
  have Z26 : n0 ≤ h26.size := Nat.le_trans Z20 (Keep.of_wr W26).1
  have c27 : ∀ τ, Steps p.tables e below (T26.setTop (mkF m 29 #[.val (.int p0), .val (.int p1), .unset, .unset, .unset, .unset, .unset, .unset, .unset] [(.ref b2)])) τ → Steps p.tables e below (s₁.setTop (entryFrame m #[(.int p0), (.int p1)] maxLocals)) τ := fun τ κ => c25 τ (st26 τ κ)
  have f28 := (f22.wr W26 gb2)
  have c29 : ∀ τ, Steps p.tables e below (T26.setTop (mkF m 31 #[.val (.int p0), .val (.int p1), .unset, .unset, .unset, .unset, .unset, .unset, .unset] [(.int (4 : Int32)), (.ref b2), (.ref b2)])) τ → Steps p.tables e below (s₁.setTop (entryFrame m #[(.int p0), (.int p1)] maxLocals)) τ := fun τ κ => c27 τ (by
      show Steps p.tables e below (T26.setTop (mkF m 29 #[.val (.int p0), .val (.int p1), .unset, .unset, .unset, .unset, .unset, .unset, .unset] [(.ref b2)])) _
      refine XS.dup X26.here hx rfl (hb hby at_29) rfl rfl ?_
      show Steps p.tables e below (T26.setTop (mkF m 30 #[.val (.int p0), .val (.int p1), .unset, .unset, .unset, .unset, .unset, .unset, .unset] [(.ref b2), (.ref b2)])) _
      refine XS.iconst X26.here hx rfl (hb hby at_30) ?_
      exact κ)
  obtain ⟨T30, X30, e30, st30⟩ := getS2 X26 hx hZ hown (host := "") (Or.inl (hw _ (List.mem_of_getElem? (i := 15) rfl))) Via.refl e26 (Sa5.ext f28.2) (g := (mkF m 31 #[.val (.int p0), .val (.int p1), .unset, .unset, .unset, .unset, .unset, .unset, .unset] [(.int (4 : Int32)), (.ref b2), (.ref b2)])) rfl (hb hby at_31)
  have c31 : ∀ τ, Steps p.tables e below (T30.setTop (mkF m 34 #[.val (.int p0), .val (.int p1), .unset, .unset, .unset, .unset, .unset, .unset, .unset] [(.ref x5), (.int (4 : Int32)), (.ref b2), (.ref b2)])) τ → Steps p.tables e below (s₁.setTop (entryFrame m #[(.int p0), (.int p1)] maxLocals)) τ := fun τ κ => c29 τ (st30 τ κ)
  obtain ⟨T32, h32, L32, X32, e32, N32, W32, V32a, st32⟩ := own_stR X30 hx hZ e30 V26 O2 (Ins.of_exa (Ea5.ext f28.2) (hw _ (List.mem_of_getElem? (i := 17) rfl))) ⟨by decide, by decide⟩ 4 rfl (Nat.le_of_ble_eq_true rfl) N26 gb2 (g := (mkF m 34 #[.val (.int p0), .val (.int p1), .unset, .unset, .unset, .unset, .unset, .unset, .unset] [(.ref x5), (.int (4 : Int32)), (.ref b2), (.ref b2)])) rfl rfl (hb hby at_34)
  have V32 : Arv Z h32 b2 k2 (.object "com/example/node_sieve/nodesieve/Axis") (14 : Int32) [(.ref x1), (.ref x2), (.ref x3), (.ref x4), (.ref x5), .null, .null, .null, .null, .null, .null, .null, .null, .null] .null := V32a
  have Z32 : n0 ≤ h32.size := Nat.le_trans Z26 (Keep.of_wr W32).1
  have c33 : ∀ τ, Steps p.tables e below (T32.setTop (mkF m 35 #[.val (.int p0), .val (.int p1), .unset, .unset, .unset, .unset, .unset, .unset, .unset] [(.ref b2)])) τ → Steps p.tables e below (s₁.setTop (entryFrame m #[(.int p0), (.int p1)] maxLocals)) τ := fun τ κ => c31 τ (st32 τ κ)
  have f34 := (f28.wr W32 gb2)
  have c35 : ∀ τ, Steps p.tables e below (T32.setTop (mkF m 37 #[.val (.int p0), .val (.int p1), .unset, .unset, .unset, .unset, .unset, .unset, .unset] [(.int (5 : Int32)), (.ref b2), (.ref b2)])) τ → Steps p.tables e below (s₁.setTop (entryFrame m #[(.int p0), (.int p1)] maxLocals)) τ := fun τ κ => c33 τ (by
      show Steps p.tables e below (T32.setTop (mkF m 35 #[.val (.int p0), .val (.int p1), .unset, .unset, .unset, .unset, .unset, .unset, .unset] [(.ref b2)])) _
      refine XS.dup X32.here hx rfl (hb hby at_35) rfl rfl ?_
      show Steps p.tables e below (T32.setTop (mkF m 36 #[.val (.int p0), .val (.int p1), .unset, .unset, .unset, .unset, .unset, .unset, .unset] [(.ref b2), (.ref b2)])) _
      refine XS.iconst X32.here hx rfl (hb hby at_36) ?_
      exact κ)
  obtain ⟨T36, X36, e36, st36⟩ := getS2 X32 hx hZ hown (host := "") (Or.inl (hw _ (List.mem_of_getElem? (i := 18) rfl))) Via.refl e32 (Sa6.ext f34.2) (g := (mkF m 37 #[.val (.int p0), .val (.int p1), .unset, .unset, .unset, .unset, .unset, .unset, .unset] [(.int (5 : Int32)), (.ref b2), (.ref b2)])) rfl (hb hby at_37)
  have c37 : ∀ τ, Steps p.tables e below (T36.setTop (mkF m 40 #[.val (.int p0), .val (.int p1), .unset, .unset, .unset, .unset, .unset, .unset, .unset] [(.ref x6), (.int (5 : Int32)), (.ref b2), (.ref b2)])) τ → Steps p.tables e below (s₁.setTop (entryFrame m #[(.int p0), (.int p1)] maxLocals)) τ := fun τ κ => c35 τ (st36 τ κ)
  obtain ⟨T38, h38, L38, X38, e38, N38, W38, V38a, st38⟩ := own_stR X36 hx hZ e36 V32 O2 (Ins.of_exa (Ea6.ext f34.2) (hw _ (List.mem_of_getElem? (i := 20) rfl))) ⟨by decide, by decide⟩ 5 rfl (Nat.le_of_ble_eq_true rfl) N32 gb2 (g := (mkF m 40 #[.val (.int p0), .val (.int p1), .unset, .unset, .unset, .unset, .unset, .unset, .unset] [(.ref x6), (.int (5 : Int32)), (.ref b2), (.ref b2)])) rfl rfl (hb hby at_40)
  have V38 : Arv Z h38 b2 k2 (.object "com/example/node_sieve/nodesieve/Axis") (14 : Int32) [(.ref x1), (.ref x2), (.ref x3), (.ref x4), (.ref x5), (.ref x6), .null, .null, .null, .null, .null, .null, .null, .null] .null := V38a
  have Z38 : n0 ≤ h38.size := Nat.le_trans Z32 (Keep.of_wr W38).1
  have c39 : ∀ τ, Steps p.tables e below (T38.setTop (mkF m 41 #[.val (.int p0), .val (.int p1), .unset, .unset, .unset, .unset, .unset, .unset, .unset] [(.ref b2)])) τ → Steps p.tables e below (s₁.setTop (entryFrame m #[(.int p0), (.int p1)] maxLocals)) τ := fun τ κ => c37 τ (st38 τ κ)
  have f40 := (f34.wr W38 gb2)
  have c41 : ∀ τ, Steps p.tables e below (T38.setTop (mkF m 44 #[.val (.int p0), .val (.int p1), .unset, .unset, .unset, .unset, .unset, .unset, .unset] [(.int (6 : Int32)), (.ref b2), (.ref b2)])) τ → Steps p.tables e below (s₁.setTop (entryFrame m #[(.int p0), (.int p1)] maxLocals)) τ := fun τ κ => c39 τ (by
      show Steps p.tables e below (T38.setTop (mkF m 41 #[.val (.int p0), .val (.int p1), .unset, .unset, .unset, .unset, .unset, .unset, .unset] [(.ref b2)])) _
      refine XS.dup X38.here hx rfl (hb hby at_41) rfl rfl ?_
      show Steps p.tables e below (T38.setTop (mkF m 42 #[.val (.int p0), .val (.int p1), .unset, .unset, .unset, .unset, .unset, .unset, .unset] [(.ref b2), (.ref b2)])) _
      refine XS.bipush X38.here hx rfl (hb hby at_42) ?_
      exact κ)
  obtain ⟨T42, X42, e42, st42⟩ := getS2 X38 hx hZ hown (host := "") (Or.inl (hw _ (List.mem_of_getElem? (i := 21) rfl))) Via.refl e38 (Sa7.ext f40.2) (g := (mkF m 44 #[.val (.int p0), .val (.int p1), .unset, .unset, .unset, .unset, .unset, .unset, .unset] [(.int (6 : Int32)), (.ref b2), (.ref b2)])) rfl (hb hby at_44)
  have c43 : ∀ τ, Steps p.tables e below (T42.setTop (mkF m 47 #[.val (.int p0), .val (.int p1), .unset, .unset, .unset, .unset, .unset, .unset, .unset] [(.ref x7), (.int (6 : Int32)), (.ref b2), (.ref b2)])) τ → Steps p.tables e below (s₁.setTop (entryFrame m #[(.int p0), (.int p1)] maxLocals)) τ := fun τ κ => c41 τ (st42 τ κ)
  obtain ⟨T44, h44, L44, X44, e44, N44, W44, V44a, st44⟩ := own_stR X42 hx hZ e42 V38 O2 (Ins.of_exa (Ea7.ext f40.2) (hw _ (List.mem_of_getElem? (i := 23) rfl))) ⟨by decide, by decide⟩ 6 rfl (Nat.le_of_ble_eq_true rfl) N38 gb2 (g := (mkF m 47 #[.val (.int p0), .val (.int p1), .unset, .unset, .unset, .unset, .unset, .unset, .unset] [(.ref x7), (.int (6 : Int32)), (.ref b2), (.ref b2)])) rfl rfl (hb hby at_47)
  have V44 : Arv Z h44 b2 k2 (.object "com/example/node_sieve/nodesieve/Axis") (14 : Int32) [(.ref x1), (.ref x2), (.ref x3), (.ref x4), (.ref x5), (.ref x6), (.ref x7), .null, .null, .null, .null, .null, .null, .null] .null := V44a
  have Z44 : n0 ≤ h44.size := Nat.le_trans Z38 (Keep.of_wr W44).1
  have c45 : ∀ τ, Steps p.tables e below (T44.setTop (mkF m 48 #[.val (.int p0), .val (.int p1), .unset, .unset, .unset, .unset, .unset, .unset, .unset] [(.ref b2)])) τ → Steps p.tables e below (s₁.setTop (entryFrame m #[(.int p0), (.int p1)] maxLocals)) τ := fun τ κ => c43 τ (st44 τ κ)
  have f46 := (f40.wr W44 gb2)
  have c47 : ∀ τ, Steps p.tables e below (T44.setTop (mkF m 51 #[.val (.int p0), .val (.int p1), .unset, .unset, .unset, .unset, .unset, .unset, .unset] [(.int (7 : Int32)), (.ref b2), (.ref b2)])) τ → Steps p.tables e below (s₁.setTop (entryFrame m #[(.int p0), (.int p1)] maxLocals)) τ := fun τ κ => c45 τ (by
      show Steps p.tables e below (T44.setTop (mkF m 48 #[.val (.int p0), .val (.int p1), .unset, .unset, .unset, .unset, .unset, .unset, .unset] [(.ref b2)])) _
      refine XS.dup X44.here hx rfl (hb hby at_48) rfl rfl ?_
      show Steps p.tables e below (T44.setTop (mkF m 49 #[.val (.int p0), .val (.int p1), .unset, .unset, .unset, .unset, .unset, .unset, .unset] [(.ref b2), (.ref b2)])) _
      refine XS.bipush X44.here hx rfl (hb hby at_49) ?_
      exact κ)
  obtain ⟨T48, X48, e48, st48⟩ := getS2 X44 hx hZ hown (host := "") (Or.inl (hw _ (List.mem_of_getElem? (i := 24) rfl))) Via.refl e44 (Sa8.ext f46.2) (g := (mkF m 51 #[.val (.int p0), .val (.int p1), .unset, .unset, .unset, .unset, .unset, .unset, .unset] [(.int (7 : Int32)), (.ref b2), (.ref b2)])) rfl (hb hby at_51)
  have c49 : ∀ τ, Steps p.tables e below (T48.setTop (mkF m 54 #[.val (.int p0), .val (.int p1), .unset, .unset, .unset, .unset, .unset, .unset, .unset] [(.ref x8), (.int (7 : Int32)), (.ref b2), (.ref b2)])) τ → Steps p.tables e below (s₁.setTop (entryFrame m #[(.int p0), (.int p1)] maxLocals)) τ := fun τ κ => c47 τ (st48 τ κ)
  obtain ⟨T50, h50, L50, X50, e50, N50, W50, V50a, st50⟩ := own_stR X48 hx hZ e48 V44 O2 (Ins.of_exa (Ea8.ext f46.2) (hw _ (List.mem_of_getElem? (i := 26) rfl))) ⟨by decide, by decide⟩ 7 rfl (Nat.le_of_ble_eq_true rfl) N44 gb2 (g := (mkF m 54 #[.val (.int p0), .val (.int p1), .unset, .unset, .unset, .unset, .unset, .unset, .unset] [(.ref x8), (.int (7 : Int32)), (.ref b2), (.ref b2)])) rfl rfl (hb hby at_54)
  have V50 : Arv Z h50 b2 k2 (.object "com/example/node_sieve/nodesieve/Axis") (14 : Int32) [(.ref x1), (.ref x2), (.ref x3), (.ref x4), (.ref x5), (.ref x6), (.ref x7), (.ref x8), .null, .null, .null, .null, .null, .null] .null := V50a
  have Z50 : n0 ≤ h50.size := Nat.le_trans Z44 (Keep.of_wr W50).1
  have c51 : ∀ τ, Steps p.tables e below (T50.setTop (mkF m 55 #[.val (.int p0), .val (.int p1), .unset, .unset, .unset, .unset, .unset, .unset, .unset] [(.ref b2)])) τ → Steps p.tables e below (s₁.setTop (entryFrame m #[(.int p0), (.int p1)] maxLocals)) τ := fun τ κ => c49 τ (st50 τ κ)
  have f52 := (f46.wr W50 gb2)
  have c53 : ∀ τ, Steps p.tables e below (T50.setTop (mkF m 58 #[.val (.int p0), .val (.int p1), .unset, .unset, .unset, .unset, .unset, .unset, .unset] [(.int (8 : Int32)), (.ref b2), (.ref b2)])) τ → Steps p.tables e below (s₁.setTop (entryFrame m #[(.int p0), (.int p1)] maxLocals)) τ := fun τ κ => c51 τ (by
      show Steps p.tables e below (T50.setTop (mkF m 55 #[.val (.int p0), .val (.int p1), .unset, .unset, .unset, .unset, .unset, .unset, .unset] [(.ref b2)])) _
      refine XS.dup X50.here hx rfl (hb hby at_55) rfl rfl ?_
      show Steps p.tables e below (T50.setTop (mkF m 56 #[.val (.int p0), .val (.int p1), .unset, .unset, .unset, .unset, .unset, .unset, .unset] [(.ref b2), (.ref b2)])) _
      refine XS.bipush X50.here hx rfl (hb hby at_56) ?_
      exact κ)
  obtain ⟨T54, X54, e54, st54⟩ := getS2 X50 hx hZ hown (host := "") (Or.inl (hw _ (List.mem_of_getElem? (i := 27) rfl))) Via.refl e50 (Sa9.ext f52.2) (g := (mkF m 58 #[.val (.int p0), .val (.int p1), .unset, .unset, .unset, .unset, .unset, .unset, .unset] [(.int (8 : Int32)), (.ref b2), (.ref b2)])) rfl (hb hby at_58)
  have c55 : ∀ τ, Steps p.tables e below (T54.setTop (mkF m 61 #[.val (.int p0), .val (.int p1), .unset, .unset, .unset, .unset, .unset, .unset, .unset] [(.ref x9), (.int (8 : Int32)), (.ref b2), (.ref b2)])) τ → Steps p.tables e below (s₁.setTop (entryFrame m #[(.int p0), (.int p1)] maxLocals)) τ := fun τ κ => c53 τ (st54 τ κ)
  obtain ⟨T56, h56, L56, X56, e56, N56, W56, V56a, st56⟩ := own_stR X54 hx hZ e54 V50 O2 (Ins.of_exa (Ea9.ext f52.2) (hw _ (List.mem_of_getElem? (i := 29) rfl))) ⟨by decide, by decide⟩ 8 rfl (Nat.le_of_ble_eq_true rfl) N50 gb2 (g := (mkF m 61 #[.val (.int p0), .val (.int p1), .unset, .unset, .unset, .unset, .unset, .unset, .unset] [(.ref x9), (.int (8 : Int32)), (.ref b2), (.ref b2)])) rfl rfl (hb hby at_61)
  have V56 : Arv Z h56 b2 k2 (.object "com/example/node_sieve/nodesieve/Axis") (14 : Int32) [(.ref x1), (.ref x2), (.ref x3), (.ref x4), (.ref x5), (.ref x6), (.ref x7), (.ref x8), (.ref x9), .null, .null, .null, .null, .null] .null := V56a
  have Z56 : n0 ≤ h56.size := Nat.le_trans Z50 (Keep.of_wr W56).1
  have c57 : ∀ τ, Steps p.tables e below (T56.setTop (mkF m 62 #[.val (.int p0), .val (.int p1), .unset, .unset, .unset, .unset, .unset, .unset, .unset] [(.ref b2)])) τ → Steps p.tables e below (s₁.setTop (entryFrame m #[(.int p0), (.int p1)] maxLocals)) τ := fun τ κ => c55 τ (st56 τ κ)
  have f58 := (f52.wr W56 gb2)
  have c59 : ∀ τ, Steps p.tables e below (T56.setTop (mkF m 65 #[.val (.int p0), .val (.int p1), .unset, .unset, .unset, .unset, .unset, .unset, .unset] [(.int (9 : Int32)), (.ref b2), (.ref b2)])) τ → Steps p.tables e below (s₁.setTop (entryFrame m #[(.int p0), (.int p1)] maxLocals)) τ := fun τ κ => c57 τ (by
      show Steps p.tables e below (T56.setTop (mkF m 62 #[.val (.int p0), .val (.int p1), .unset, .unset, .unset, .unset, .unset, .unset, .unset] [(.ref b2)])) _
      refine XS.dup X56.here hx rfl (hb hby at_62) rfl rfl ?_
      show Steps p.tables e below (T56.setTop (mkF m 63 #[.val (.int p0), .val (.int p1), .unset, .unset, .unset, .unset, .unset, .unset, .unset] [(.ref b2), (.ref b2)])) _
      refine XS.bipush X56.here hx rfl (hb hby at_63) ?_
      exact κ)
  obtain ⟨T60, X60, e60, st60⟩ := getS2 X56 hx hZ hown (host := "") (Or.inl (hw _ (List.mem_of_getElem? (i := 30) rfl))) Via.refl e56 (Sa10.ext f58.2) (g := (mkF m 65 #[.val (.int p0), .val (.int p1), .unset, .unset, .unset, .unset, .unset, .unset, .unset] [(.int (9 : Int32)), (.ref b2), (.ref b2)])) rfl (hb hby at_65)
  have c61 : ∀ τ, Steps p.tables e below (T60.setTop (mkF m 68 #[.val (.int p0), .val (.int p1), .unset, .unset, .unset, .unset, .unset, .unset, .unset] [(.ref x10), (.int (9 : Int32)), (.ref b2), (.ref b2)])) τ → Steps p.tables e below (s₁.setTop (entryFrame m #[(.int p0), (.int p1)] maxLocals)) τ := fun τ κ => c59 τ (st60 τ κ)
  obtain ⟨T62, h62, L62, X62, e62, N62, W62, V62a, st62⟩ := own_stR X60 hx hZ e60 V56 O2 (Ins.of_exa (Ea10.ext f58.2) (hw _ (List.mem_of_getElem? (i := 32) rfl))) ⟨by decide, by decide⟩ 9 rfl (Nat.le_of_ble_eq_true rfl) N56 gb2 (g := (mkF m 68 #[.val (.int p0), .val (.int p1), .unset, .unset, .unset, .unset, .unset, .unset, .unset] [(.ref x10), (.int (9 : Int32)), (.ref b2), (.ref b2)])) rfl rfl (hb hby at_68)
  have V62 : Arv Z h62 b2 k2 (.object "com/example/node_sieve/nodesieve/Axis") (14 : Int32) [(.ref x1), (.ref x2), (.ref x3), (.ref x4), (.ref x5), (.ref x6), (.ref x7), (.ref x8), (.ref x9), (.ref x10), .null, .null, .null, .null] .null := V62a
  have Z62 : n0 ≤ h62.size := Nat.le_trans Z56 (Keep.of_wr W62).1
  have c63 : ∀ τ, Steps p.tables e below (T62.setTop (mkF m 69 #[.val (.int p0), .val (.int p1), .unset, .unset, .unset, .unset, .unset, .unset, .unset] [(.ref b2)])) τ → Steps p.tables e below (s₁.setTop (entryFrame m #[(.int p0), (.int p1)] maxLocals)) τ := fun τ κ => c61 τ (st62 τ κ)
  have f64 := (f58.wr W62 gb2)
  have c65 : ∀ τ, Steps p.tables e below (T62.setTop (mkF m 72 #[.val (.int p0), .val (.int p1), .unset, .unset, .unset, .unset, .unset, .unset, .unset] [(.int (10 : Int32)), (.ref b2), (.ref b2)])) τ → Steps p.tables e below (s₁.setTop (entryFrame m #[(.int p0), (.int p1)] maxLocals)) τ := fun τ κ => c63 τ (by
      show Steps p.tables e below (T62.setTop (mkF m 69 #[.val (.int p0), .val (.int p1), .unset, .unset, .unset, .unset, .unset, .unset, .unset] [(.ref b2)])) _
      refine XS.dup X62.here hx rfl (hb hby at_69) rfl rfl ?_
      show Steps p.tables e below (T62.setTop (mkF m 70 #[.val (.int p0), .val (.int p1), .unset, .unset, .unset, .unset, .unset, .unset, .unset] [(.ref b2), (.ref b2)])) _
      refine XS.bipush X62.here hx rfl (hb hby at_70) ?_
      exact κ)
  obtain ⟨T66, X66, e66, st66⟩ := getS2 X62 hx hZ hown (host := "") (Or.inl (hw _ (List.mem_of_getElem? (i := 33) rfl))) Via.refl e62 (Sa11.ext f64.2) (g := (mkF m 72 #[.val (.int p0), .val (.int p1), .unset, .unset, .unset, .unset, .unset, .unset, .unset] [(.int (10 : Int32)), (.ref b2), (.ref b2)])) rfl (hb hby at_72)
  have c67 : ∀ τ, Steps p.tables e below (T66.setTop (mkF m 75 #[.val (.int p0), .val (.int p1), .unset, .unset, .unset, .unset, .unset, .unset, .unset] [(.ref x11), (.int (10 : Int32)), (.ref b2), (.ref b2)])) τ → Steps p.tables e below (s₁.setTop (entryFrame m #[(.int p0), (.int p1)] maxLocals)) τ := fun τ κ => c65 τ (st66 τ κ)
  obtain ⟨T68, h68, L68, X68, e68, N68, W68, V68a, st68⟩ := own_stR X66 hx hZ e66 V62 O2 (Ins.of_exa (Ea11.ext f64.2) (hw _ (List.mem_of_getElem? (i := 35) rfl))) ⟨by decide, by decide⟩ 10 rfl (Nat.le_of_ble_eq_true rfl) N62 gb2 (g := (mkF m 75 #[.val (.int p0), .val (.int p1), .unset, .unset, .unset, .unset, .unset, .unset, .unset] [(.ref x11), (.int (10 : Int32)), (.ref b2), (.ref b2)])) rfl rfl (hb hby at_75)
  have V68 : Arv Z h68 b2 k2 (.object "com/example/node_sieve/nodesieve/Axis") (14 : Int32) [(.ref x1), (.ref x2), (.ref x3), (.ref x4), (.ref x5), (.ref x6), (.ref x7), (.ref x8), (.ref x9), (.ref x10), (.ref x11), .null, .null, .null] .null := V68a
  have Z68 : n0 ≤ h68.size := Nat.le_trans Z62 (Keep.of_wr W68).1
  have c69 : ∀ τ, Steps p.tables e below (T68.setTop (mkF m 76 #[.val (.int p0), .val (.int p1), .unset, .unset, .unset, .unset, .unset, .unset, .unset] [(.ref b2)])) τ → Steps p.tables e below (s₁.setTop (entryFrame m #[(.int p0), (.int p1)] maxLocals)) τ := fun τ κ => c67 τ (st68 τ κ)
  have f70 := (f64.wr W68 gb2)
  have c71 : ∀ τ, Steps p.tables e below (T68.setTop (mkF m 79 #[.val (.int p0), .val (.int p1), .unset, .unset, .unset, .unset, .unset, .unset, .unset] [(.int (11 : Int32)), (.ref b2), (.ref b2)])) τ → Steps p.tables e below (s₁.setTop (entryFrame m #[(.int p0), (.int p1)] maxLocals)) τ := fun τ κ => c69 τ (by
      show Steps p.tables e below (T68.setTop (mkF m 76 #[.val (.int p0), .val (.int p1), .unset, .unset, .unset, .unset, .unset, .unset, .unset] [(.ref b2)])) _
      refine XS.dup X68.here hx rfl (hb hby at_76) rfl rfl ?_
      show Steps p.tables e below (T68.setTop (mkF m 77 #[.val (.int p0), .val (.int p1), .unset, .unset, .unset, .unset, .unset, .unset, .unset] [(.ref b2), (.ref b2)])) _
      refine XS.bipush X68.here hx rfl (hb hby at_77) ?_
      exact κ)
  obtain ⟨T72, X72, e72, st72⟩ := getS2 X68 hx hZ hown (host := "") (Or.inl (hw _ (List.mem_of_getElem? (i := 36) rfl))) Via.refl e68 (Sa12.ext f70.2) (g := (mkF m 79 #[.val (.int p0), .val (.int p1), .unset, .unset, .unset, .unset, .unset, .unset, .unset] [(.int (11 : Int32)), (.ref b2), (.ref b2)])) rfl (hb hby at_79)
  have c73 : ∀ τ, Steps p.tables e below (T72.setTop (mkF m 82 #[.val (.int p0), .val (.int p1), .unset, .unset, .unset, .unset, .unset, .unset, .unset] [(.ref x12), (.int (11 : Int32)), (.ref b2), (.ref b2)])) τ → Steps p.tables e below (s₁.setTop (entryFrame m #[(.int p0), (.int p1)] maxLocals)) τ := fun τ κ => c71 τ (st72 τ κ)
  obtain ⟨T74, h74, L74, X74, e74, N74, W74, V74a, st74⟩ := own_stR X72 hx hZ e72 V68 O2 (Ins.of_exa (Ea12.ext f70.2) (hw _ (List.mem_of_getElem? (i := 38) rfl))) ⟨by decide, by decide⟩ 11 rfl (Nat.le_of_ble_eq_true rfl) N68 gb2 (g := (mkF m 82 #[.val (.int p0), .val (.int p1), .unset, .unset, .unset, .unset, .unset, .unset, .unset] [(.ref x12), (.int (11 : Int32)), (.ref b2), (.ref b2)])) rfl rfl (hb hby at_82)
  have V74 : Arv Z h74 b2 k2 (.object "com/example/node_sieve/nodesieve/Axis") (14 : Int32) [(.ref x1), (.ref x2), (.ref x3), (.ref x4), (.ref x5), (.ref x6), (.ref x7), (.ref x8), (.ref x9), (.ref x10), (.ref x11), (.ref x12), .null, .null] .null := V74a
  have Z74 : n0 ≤ h74.size := Nat.le_trans Z68 (Keep.of_wr W74).1
  have c75 : ∀ τ, Steps p.tables e below (T74.setTop (mkF m 83 #[.val (.int p0), .val (.int p1), .unset, .unset, .unset, .unset, .unset, .unset, .unset] [(.ref b2)])) τ → Steps p.tables e below (s₁.setTop (entryFrame m #[(.int p0), (.int p1)] maxLocals)) τ := fun τ κ => c73 τ (st74 τ κ)
  have f76 := (f70.wr W74 gb2)
  have c77 : ∀ τ, Steps p.tables e below (T74.setTop (mkF m 86 #[.val (.int p0), .val (.int p1), .unset, .unset, .unset, .unset, .unset, .unset, .unset] [(.int (12 : Int32)), (.ref b2), (.ref b2)])) τ → Steps p.tables e below (s₁.setTop (entryFrame m #[(.int p0), (.int p1)] maxLocals)) τ := fun τ κ => c75 τ (by
      show Steps p.tables e below (T74.setTop (mkF m 83 #[.val (.int p0), .val (.int p1), .unset, .unset, .unset, .unset, .unset, .unset, .unset] [(.ref b2)])) _
      refine XS.dup X74.here hx rfl (hb hby at_83) rfl rfl ?_
      show Steps p.tables e below (T74.setTop (mkF m 84 #[.val (.int p0), .val (.int p1), .unset, .unset, .unset, .unset, .unset, .unset, .unset] [(.ref b2), (.ref b2)])) _
      refine XS.bipush X74.here hx rfl (hb hby at_84) ?_
      exact κ)
  obtain ⟨T78, X78, e78, st78⟩ := getS2 X74 hx hZ hown (host := "") (Or.inl (hw _ (List.mem_of_getElem? (i := 39) rfl))) Via.refl e74 (Sa13.ext f76.2) (g := (mkF m 86 #[.val (.int p0), .val (.int p1), .unset, .unset, .unset, .unset, .unset, .unset, .unset] [(.int (12 : Int32)), (.ref b2), (.ref b2)])) rfl (hb hby at_86)
  have c79 : ∀ τ, Steps p.tables e below (T78.setTop (mkF m 89 #[.val (.int p0), .val (.int p1), .unset, .unset, .unset, .unset, .unset, .unset, .unset] [(.ref x13), (.int (12 : Int32)), (.ref b2), (.ref b2)])) τ → Steps p.tables e below (s₁.setTop (entryFrame m #[(.int p0), (.int p1)] maxLocals)) τ := fun τ κ => c77 τ (st78 τ κ)
  obtain ⟨T80, h80, L80, X80, e80, N80, W80, V80a, st80⟩ := own_stR X78 hx hZ e78 V74 O2 (Ins.of_exa (Ea13.ext f76.2) (hw _ (List.mem_of_getElem? (i := 41) rfl))) ⟨by decide, by decide⟩ 12 rfl (Nat.le_of_ble_eq_true rfl) N74 gb2 (g := (mkF m 89 #[.val (.int p0), .val (.int p1), .unset, .unset, .unset, .unset, .unset, .unset, .unset] [(.ref x13), (.int (12 : Int32)), (.ref b2), (.ref b2)])) rfl rfl (hb hby at_89)
  have V80 : Arv Z h80 b2 k2 (.object "com/example/node_sieve/nodesieve/Axis") (14 : Int32) [(.ref x1), (.ref x2), (.ref x3), (.ref x4), (.ref x5), (.ref x6), (.ref x7), (.ref x8), (.ref x9), (.ref x10), (.ref x11), (.ref x12), (.ref x13), .null] .null := V80a
  have Z80 : n0 ≤ h80.size := Nat.le_trans Z74 (Keep.of_wr W80).1
  have c81 : ∀ τ, Steps p.tables e below (T80.setTop (mkF m 90 #[.val (.int p0), .val (.int p1), .unset, .unset, .unset, .unset, .unset, .unset, .unset] [(.ref b2)])) τ → Steps p.tables e below (s₁.setTop (entryFrame m #[(.int p0), (.int p1)] maxLocals)) τ := fun τ κ => c79 τ (st80 τ κ)
  have f82 := (f76.wr W80 gb2)
  have c83 : ∀ τ, Steps p.tables e below (T80.setTop (mkF m 93 #[.val (.int p0), .val (.int p1), .unset, .unset, .unset, .unset, .unset, .unset, .unset] [(.int (13 : Int32)), (.ref b2), (.ref b2)])) τ → Steps p.tables e below (s₁.setTop (entryFrame m #[(.int p0), (.int p1)] maxLocals)) τ := fun τ κ => c81 τ (by
      show Steps p.tables e below (T80.setTop (mkF m 90 #[.val (.int p0), .val (.int p1), .unset, .unset, .unset, .unset, .unset, .unset, .unset] [(.ref b2)])) _
      refine XS.dup X80.here hx rfl (hb hby at_90) rfl rfl ?_
      show Steps p.tables e below (T80.setTop (mkF m 91 #[.val (.int p0), .val (.int p1), .unset, .unset, .unset, .unset, .unset, .unset, .unset] [(.ref b2), (.ref b2)])) _
      refine XS.bipush X80.here hx rfl (hb hby at_91) ?_
      exact κ)
  obtain ⟨T84, X84, e84, st84⟩ := getS2 X80 hx hZ hown (host := "") (Or.inl (hw _ (List.mem_of_getElem? (i := 42) rfl))) Via.refl e80 (Sa14.ext f82.2) (g := (mkF m 93 #[.val (.int p0), .val (.int p1), .unset, .unset, .unset, .unset, .unset, .unset, .unset] [(.int (13 : Int32)), (.ref b2), (.ref b2)])) rfl (hb hby at_93)
  have c85 : ∀ τ, Steps p.tables e below (T84.setTop (mkF m 96 #[.val (.int p0), .val (.int p1), .unset, .unset, .unset, .unset, .unset, .unset, .unset] [(.ref x14), (.int (13 : Int32)), (.ref b2), (.ref b2)])) τ → Steps p.tables e below (s₁.setTop (entryFrame m #[(.int p0), (.int p1)] maxLocals)) τ := fun τ κ => c83 τ (st84 τ κ)
  obtain ⟨T86, h86, L86, X86, e86, N86, W86, V86a, st86⟩ := own_stR X84 hx hZ e84 V80 O2 (Ins.of_exa (Ea14.ext f82.2) (hw _ (List.mem_of_getElem? (i := 44) rfl))) ⟨by decide, by decide⟩ 13 rfl (Nat.le_of_ble_eq_true rfl) N80 gb2 (g := (mkF m 96 #[.val (.int p0), .val (.int p1), .unset, .unset, .unset, .unset, .unset, .unset, .unset] [(.ref x14), (.int (13 : Int32)), (.ref b2), (.ref b2)])) rfl rfl (hb hby at_96)
  have V86 : Arv Z h86 b2 k2 (.object "com/example/node_sieve/nodesieve/Axis") (14 : Int32) [(.ref x1), (.ref x2), (.ref x3), (.ref x4), (.ref x5), (.ref x6), (.ref x7), (.ref x8), (.ref x9), (.ref x10), (.ref x11), (.ref x12), (.ref x13), (.ref x14)] .null := V86a
  have Z86 : n0 ≤ h86.size := Nat.le_trans Z80 (Keep.of_wr W86).1
  have c87 : ∀ τ, Steps p.tables e below (T86.setTop (mkF m 97 #[.val (.int p0), .val (.int p1), .unset, .unset, .unset, .unset, .unset, .unset, .unset] [(.ref b2)])) τ → Steps p.tables e below (s₁.setTop (entryFrame m #[(.int p0), (.int p1)] maxLocals)) τ := fun τ κ => c85 τ (st86 τ κ)
  have c88 : ∀ τ, Steps p.tables e below (T86.setTop (mkF m 106 #[.val (.int p0), .val (.int p1), .val (.ref b2), .val (.int ((p0 &&& (2147483647 : Int32)) % (14 : Int32))), .unset, .unset, .unset, .unset, .unset] [])) τ → Steps p.tables e below (s₁.setTop (entryFrame m #[(.int p0), (.int p1)] maxLocals)) τ := fun τ κ => c87 τ (by
      show Steps p.tables e below (T86.setTop (mkF m 97 #[.val (.int p0), .val (.int p1), .unset, .unset, .unset, .unset, .unset, .unset, .unset] [(.ref b2)])) _
      refine XS.astoreN X86.here hx rfl (hb hby at_97) rfl rfl (l' := #[.val (.int p0), .val (.int p1), .val (.ref b2), .unset, .unset, .unset, .unset, .unset, .unset]) rfl ?_
      show Steps p.tables e below (T86.setTop (mkF m 98 #[.val (.int p0), .val (.int p1), .val (.ref b2), .unset, .unset, .unset, .unset, .unset, .unset] [])) _
      refine XS.iloadN X86.here hx rfl (hb hby at_98) rfl ?_
      show Steps p.tables e below (T86.setTop (mkF m 99 #[.val (.int p0), .val (.int p1), .val (.ref b2), .unset, .unset, .unset, .unset, .unset, .unset] [(.int p0)])) _
      refine X86.ldcInt hx hown (mvT hZ (hw _ (List.mem_of_getElem? (i := 45) rfl))) (g := (mkF m 99 #[.val (.int p0), .val (.int p1), .val (.ref b2), .unset, .unset, .unset, .unset, .unset, .unset] [(.int p0)])) rfl (hb hby at_99) _ ?_
      show Steps p.tables e below (T86.setTop (mkF m 101 #[.val (.int p0), .val (.int p1), .val (.ref b2), .unset, .unset, .unset, .unset, .unset, .unset] [(.int (2147483647 : Int32)), (.int p0)])) _
      refine XS.iand X86.here hx rfl (hb hby at_101) rfl ?_
      show Steps p.tables e below (T86.setTop (mkF m 102 #[.val (.int p0), .val (.int p1), .val (.ref b2), .unset, .unset, .unset, .unset, .unset, .unset] [(.int (p0 &&& (2147483647 : Int32)))])) _
      refine XS.bipush X86.here hx rfl (hb hby at_102) ?_
      show Steps p.tables e below (T86.setTop (mkF m 104 #[.val (.int p0), .val (.int p1), .val (.ref b2), .unset, .unset, .unset, .unset, .unset, .unset] [(.int (14 : Int32)), (.int (p0 &&& (2147483647 : Int32)))])) _
      refine Jvm.RoadKit.iremM X86 hx rfl (hb hby at_104) rfl (by decide) ?_
      show Steps p.tables e below (T86.setTop (mkF m 105 #[.val (.int p0), .val (.int p1), .val (.ref b2), .unset, .unset, .unset, .unset, .unset, .unset] [(.int ((p0 &&& (2147483647 : Int32)) % (14 : Int32)))])) _
      refine XS.istoreN X86.here hx rfl (hb hby at_105) rfl (l' := #[.val (.int p0), .val (.int p1), .val (.ref b2), .val (.int ((p0 &&& (2147483647 : Int32)) % (14 : Int32))), .unset, .unset, .unset, .unset, .unset]) rfl ?_
      exact κ)
  have c89 : ∀ τ, Steps p.tables e below (T86.setTop (mkF m 117 #[.val (.int p0), .val (.int p1), .val (.ref b2), .val (.int ((p0 &&& (2147483647 : Int32)) % (14 : Int32))), .unset, .unset, .unset, .unset, .unset] [(.int (g1_106_t0 p1))])) τ → Steps p.tables e below (s₁.setTop (entryFrame m #[(.int p0), (.int p1)] maxLocals)) τ := fun τ κ => c88 τ (g1_106 p0 p1 b2 ((p0 &&& (2147483647 : Int32)) % (14 : Int32)) X86 hx hZ hw hby hown κ)
  have c90 : ∀ τ, Steps p.tables e below (T86.setTop (mkF m 129 #[.val (.int p0), .val (.int p1), .val (.ref b2), .val (.int ((p0 &&& (2147483647 : Int32)) % (14 : Int32))), .val (.int (g1_106_t0 p1)), .val (.int (1793 : Int32)), .val (.int (10242 : Int32)), .unset, .unset] [])) τ → Steps p.tables e below (s₁.setTop (entryFrame m #[(.int p0), (.int p1)] maxLocals)) τ := fun τ κ => c89 τ (by
      show Steps p.tables e below (T86.setTop (mkF m 117 #[.val (.int p0), .val (.int p1), .val (.ref b2), .val (.int ((p0 &&& (2147483647 : Int32)) % (14 : Int32))), .unset, .unset, .unset, .unset, .unset] [(.int (g1_106_t0 p1))])) _
      refine XS.istore X86.here hx rfl (hb hby at_117) rfl (l' := #[.val (.int p0), .val (.int p1), .val (.ref b2), .val (.int ((p0 &&& (2147483647 : Int32)) % (14 : Int32))), .val (.int (g1_106_t0 p1)), .unset, .unset, .unset, .unset]) rfl ?_
      show Steps p.tables e below (T86.setTop (mkF m 119 #[.val (.int p0), .val (.int p1), .val (.ref b2), .val (.int ((p0 &&& (2147483647 : Int32)) % (14 : Int32))), .val (.int (g1_106_t0 p1)), .unset, .unset, .unset, .unset] [])) _
      refine XS.sipush X86.here hx rfl (hb hby at_119) ?_
      show Steps p.tables e below (T86.setTop (mkF m 122 #[.val (.int p0), .val (.int p1), .val (.ref b2), .val (.int ((p0 &&& (2147483647 : Int32)) % (14 : Int32))), .val (.int (g1_106_t0 p1)), .unset, .unset, .unset, .unset] [(.int (1793 : Int32))])) _
      refine XS.istore X86.here hx rfl (hb hby at_122) rfl (l' := #[.val (.int p0), .val (.int p1), .val (.ref b2), .val (.int ((p0 &&& (2147483647 : Int32)) % (14 : Int32))), .val (.int (g1_106_t0 p1)), .val (.int (1793 : Int32)), .unset, .unset, .unset]) rfl ?_
      show Steps p.tables e below (T86.setTop (mkF m 124 #[.val (.int p0), .val (.int p1), .val (.ref b2), .val (.int ((p0 &&& (2147483647 : Int32)) % (14 : Int32))), .val (.int (g1_106_t0 p1)), .val (.int (1793 : Int32)), .unset, .unset, .unset] [])) _
      refine XS.sipush X86.here hx rfl (hb hby at_124) ?_
      show Steps p.tables e below (T86.setTop (mkF m 127 #[.val (.int p0), .val (.int p1), .val (.ref b2), .val (.int ((p0 &&& (2147483647 : Int32)) % (14 : Int32))), .val (.int (g1_106_t0 p1)), .val (.int (1793 : Int32)), .unset, .unset, .unset] [(.int (10242 : Int32))])) _
      refine XS.istore X86.here hx rfl (hb hby at_127) rfl (l' := #[.val (.int p0), .val (.int p1), .val (.ref b2), .val (.int ((p0 &&& (2147483647 : Int32)) % (14 : Int32))), .val (.int (g1_106_t0 p1)), .val (.int (1793 : Int32)), .val (.int (10242 : Int32)), .unset, .unset]) rfl ?_
      exact κ)
  have c91 : ∀ τ, Steps p.tables e below (T86.setTop (mkF m 144 #[.val (.int p0), .val (.int p1), .val (.ref b2), .val (.int ((p0 &&& (2147483647 : Int32)) % (14 : Int32))), .val (.int (g1_106_t0 p1)), .val (.int (1793 : Int32)), .val (.int (10242 : Int32)), .unset, .unset] [(.int (g2_129_t0 (g1_106_t0 p1) (1793 : Int32) (10242 : Int32)))])) τ → Steps p.tables e below (s₁.setTop (entryFrame m #[(.int p0), (.int p1)] maxLocals)) τ := fun τ κ => c90 τ (g2_129 p0 p1 b2 ((p0 &&& (2147483647 : Int32)) % (14 : Int32)) (g1_106_t0 p1) (1793 : Int32) (10242 : Int32) X86 hx hZ hw hby hown κ)
  have c92 : ∀ τ, Steps p.tables e below (T86.setTop (mkF m 146 #[.val (.int p0), .val (.int p1), .val (.ref b2), .val (.int ((p0 &&& (2147483647 : Int32)) % (14 : Int32))), .val (.int (g1_106_t0 p1)), .val (.int (1793 : Int32)), .val (.int (10242 : Int32)), .val (.int (g2_129_t0 (g1_106_t0 p1) (1793 : Int32) (10242 : Int32))), .unset] [])) τ → Steps p.tables e below (s₁.setTop (entryFrame m #[(.int p0), (.int p1)] maxLocals)) τ := fun τ κ => c91 τ (by
      show Steps p.tables e below (T86.setTop (mkF m 144 #[.val (.int p0), .val (.int p1), .val (.ref b2), .val (.int ((p0 &&& (2147483647 : Int32)) % (14 : Int32))), .val (.int (g1_106_t0 p1)), .val (.int (1793 : Int32)), .val (.int (10242 : Int32)), .unset, .unset] [(.int (g2_129_t0 (g1_106_t0 p1) (1793 : Int32) (10242 : Int32)))])) _
      refine XS.istore X86.here hx rfl (hb hby at_144) rfl (l' := #[.val (.int p0), .val (.int p1), .val (.ref b2), .val (.int ((p0 &&& (2147483647 : Int32)) % (14 : Int32))), .val (.int (g1_106_t0 p1)), .val (.int (1793 : Int32)), .val (.int (10242 : Int32)), .val (.int (g2_129_t0 (g1_106_t0 p1) (1793 : Int32) (10242 : Int32))), .unset]) rfl ?_
      exact κ)
  have c93 : ∀ τ, Steps p.tables e below (T86.setTop (mkF m 160 #[.val (.int p0), .val (.int p1), .val (.ref b2), .val (.int ((p0 &&& (2147483647 : Int32)) % (14 : Int32))), .val (.int (g1_106_t0 p1)), .val (.int (1793 : Int32)), .val (.int (10242 : Int32)), .val (.int (g2_129_t0 (g1_106_t0 p1) (1793 : Int32) (10242 : Int32))), .unset] [(.int (g3_146_t0 ((p0 &&& (2147483647 : Int32)) % (14 : Int32)) (g2_129_t0 (g1_106_t0 p1) (1793 : Int32) (10242 : Int32))))])) τ → Steps p.tables e below (s₁.setTop (entryFrame m #[(.int p0), (.int p1)] maxLocals)) τ := fun τ κ => c92 τ (g3_146 p0 p1 b2 ((p0 &&& (2147483647 : Int32)) % (14 : Int32)) (g1_106_t0 p1) (1793 : Int32) (10242 : Int32) (g2_129_t0 (g1_106_t0 p1) (1793 : Int32) (10242 : Int32)) X86 hx hZ hw hby hown κ)
  obtain ⟨jj, hjj⟩ : ∃ z, z = ((p0 &&& (2147483647 : Int32)) % (14 : Int32)) := ⟨_, rfl⟩
  have c94 : ∀ τ, Steps p.tables e below (T86.setTop (mkF m 162 #[.val (.int p0), .val (.int p1), .val (.ref b2), .val (.int ((p0 &&& (2147483647 : Int32)) % (14 : Int32))), .val (.int (g1_106_t0 p1)), .val (.int (1793 : Int32)), .val (.int (10242 : Int32)), .val (.int (g2_129_t0 (g1_106_t0 p1) (1793 : Int32) (10242 : Int32))), .val (.int (g3_146_t0 ((p0 &&& (2147483647 : Int32)) % (14 : Int32)) (g2_129_t0 (g1_106_t0 p1) (1793 : Int32) (10242 : Int32))))] [])) τ → Steps p.tables e below (s₁.setTop (entryFrame m #[(.int p0), (.int p1)] maxLocals)) τ := fun τ κ => c93 τ (by
      show Steps p.tables e below (T86.setTop (mkF m 160 #[.val (.int p0), .val (.int p1), .val (.ref b2), .val (.int ((p0 &&& (2147483647 : Int32)) % (14 : Int32))), .val (.int (g1_106_t0 p1)), .val (.int (1793 : Int32)), .val (.int (10242 : Int32)), .val (.int (g2_129_t0 (g1_106_t0 p1) (1793 : Int32) (10242 : Int32))), .unset] [(.int (g3_146_t0 ((p0 &&& (2147483647 : Int32)) % (14 : Int32)) (g2_129_t0 (g1_106_t0 p1) (1793 : Int32) (10242 : Int32))))])) _
      refine XS.istore X86.here hx rfl (hb hby at_160) rfl (l' := #[.val (.int p0), .val (.int p1), .val (.ref b2), .val (.int ((p0 &&& (2147483647 : Int32)) % (14 : Int32))), .val (.int (g1_106_t0 p1)), .val (.int (1793 : Int32)), .val (.int (10242 : Int32)), .val (.int (g2_129_t0 (g1_106_t0 p1) (1793 : Int32) (10242 : Int32))), .val (.int (g3_146_t0 ((p0 &&& (2147483647 : Int32)) % (14 : Int32)) (g2_129_t0 (g1_106_t0 p1) (1793 : Int32) (10242 : Int32))))]) rfl ?_
      exact κ)
  rw [← hjj] at c94
  have hj14 : ¬ jj < 0 ∧ jj < 14 := by rw [hjj]; exact own_in14 p0
  have f95 := (f82.wr W86 gb2)
  have hcs := own_cases14 hj14
  rcases hcs with hk | hk | hk | hk | hk | hk | hk | hk | hk | hk | hk | hk | hk | hk
  · have c96 : ∀ τ, Steps p.tables e below (T86.setTop (mkF m 164 #[.val (.int p0), .val (.int p1), .val (.ref b2), .val (.int jj), .val (.int (g1_106_t0 p1)), .val (.int (1793 : Int32)), .val (.int (10242 : Int32)), .val (.int (g2_129_t0 (g1_106_t0 p1) (1793 : Int32) (10242 : Int32))), .val (.int (g3_146_t0 jj (g2_129_t0 (g1_106_t0 p1) (1793 : Int32) (10242 : Int32))))] [(.int jj), (.ref b2)])) τ → Steps p.tables e below (s₁.setTop (entryFrame m #[(.int p0), (.int p1)] maxLocals)) τ := fun τ κ => c94 τ (by
        show Steps p.tables e below (T86.setTop (mkF m 162 #[.val (.int p0), .val (.int p1), .val (.ref b2), .val (.int jj), .val (.int (g1_106_t0 p1)), .val (.int (1793 : Int32)), .val (.int (10242 : Int32)), .val (.int (g2_129_t0 (g1_106_t0 p1) (1793 : Int32) (10242 : Int32))), .val (.int (g3_146_t0 jj (g2_129_t0 (g1_106_t0 p1) (1793 : Int32) (10242 : Int32))))] [])) _
        refine XS.aloadN X86.here hx rfl (hb hby at_162) rfl rfl ?_
        show Steps p.tables e below (T86.setTop (mkF m 163 #[.val (.int p0), .val (.int p1), .val (.ref b2), .val (.int jj), .val (.int (g1_106_t0 p1)), .val (.int (1793 : Int32)), .val (.int (10242 : Int32)), .val (.int (g2_129_t0 (g1_106_t0 p1) (1793 : Int32) (10242 : Int32))), .val (.int (g3_146_t0 jj (g2_129_t0 (g1_106_t0 p1) (1793 : Int32) (10242 : Int32))))] [(.ref b2)])) _
        refine XS.iloadN X86.here hx rfl (hb hby at_163) rfl ?_
        exact κ)
    have c97 : ∀ τ, Steps p.tables e below (T86.setTop (mkF m 165 #[.val (.int p0), .val (.int p1), .val (.ref b2), .val (.int jj), .val (.int (g1_106_t0 p1)), .val (.int (1793 : Int32)), .val (.int (10242 : Int32)), .val (.int (g2_129_t0 (g1_106_t0 p1) (1793 : Int32) (10242 : Int32))), .val (.int (g3_146_t0 jj (g2_129_t0 (g1_106_t0 p1) (1793 : Int32) (10242 : Int32))))] [(.ref x1)])) τ → Steps p.tables e below (s₁.setTop (entryFrame m #[(.int p0), (.int p1)] maxLocals)) τ := fun τ κ => c96 τ (own_aaload X86 hx hZ e86 V86 (j := jj) hj14 (v := (.ref x1)) (by rw [hk]; rfl) (g := (mkF m 164 #[.val (.int p0), .val (.int p1), .val (.ref b2), .val (.int jj), .val (.int (g1_106_t0 p1)), .val (.int (1793 : Int32)), .val (.int (10242 : Int32)), .val (.int (g2_129_t0 (g1_106_t0 p1) (1793 : Int32) (10242 : Int32))), .val (.int (g3_146_t0 jj (g2_129_t0 (g1_106_t0 p1) (1793 : Int32) (10242 : Int32))))] [(.int jj), (.ref b2)])) rfl rfl (hb hby at_164) _ κ)
    have c98 : ∀ τ, Steps p.tables e below (T86.setTop (mkF m 167 #[.val (.int p0), .val (.int p1), .val (.ref b2), .val (.int jj), .val (.int (g1_106_t0 p1)), .val (.int (1793 : Int32)), .val (.int (10242 : Int32)), .val (.int (g2_129_t0 (g1_106_t0 p1) (1793 : Int32) (10242 : Int32))), .val (.int (g3_146_t0 jj (g2_129_t0 (g1_106_t0 p1) (1793 : Int32) (10242 : Int32))))] [(.int (g1_106_t0 p1)), (.ref x1)])) τ → Steps p.tables e below (s₁.setTop (entryFrame m #[(.int p0), (.int p1)] maxLocals)) τ := fun τ κ => c97 τ (by
        show Steps p.tables e below (T86.setTop (mkF m 165 #[.val (.int p0), .val (.int p1), .val (.ref b2), .val (.int jj), .val (.int (g1_106_t0 p1)), .val (.int (1793 : Int32)), .val (.int (10242 : Int32)), .val (.int (g2_129_t0 (g1_106_t0 p1) (1793 : Int32) (10242 : Int32))), .val (.int (g3_146_t0 jj (g2_129_t0 (g1_106_t0 p1) (1793 : Int32) (10242 : Int32))))] [(.ref x1)])) _
        refine XS.iload X86.here hx rfl (hb hby at_165) rfl ?_
        exact κ)
    obtain ⟨cq99, kq99, q99a, q99b, q99c⟩ := isOf hZ e86 (Ea1.ext f95.2)
    obtain ⟨_, _, ⟨T99, L99, k99, n99⟩, -, X99, ⟨Lc99, hQ99, l99, y99, z99⟩, st99⟩ := X86.virtualBack hx (y := (⟨"com/example/node_sieve/nodesieve/Axis", "selectsOnce", "(Z)Z"⟩ : MethodName)) (z := (⟨"com/example/node_sieve/nodesieve/Axis", "selectsOnce", "(Z)Z"⟩ : MethodName)) hown (mvT hZ (hw _ (List.mem_of_getElem? (i := 46) rfl))) (mvT hZ (hw _ (List.mem_of_getElem? (i := 47) rfl))) (notFace_of_selects (args := #[]) (mvT hZ (hw _ (List.mem_of_getElem? (i := 49) rfl)))) (mvT hZ (hw _ (List.mem_of_getElem? (i := 49) rfl))) (mvT hZ (hw _ (List.mem_of_getElem? (i := 48) rfl))) (by decide) (backOf (W := 0) (rm1_CHILD l Z a0 hw [] x1 (g1_106_t0 p1) x9 x10 x11 x2 x12 x14 h86 n0 Z86 (Sa1.ext f95.2) (Sa9.ext f95.2) (Sa10.ext f95.2) (Sa11.ext f95.2) (Sa2.ext f95.2) (Sa12.ext f95.2) (Sa14.ext f95.2) (ne_exa (Ea1) (Ea9) (by decide)) (ne_exa (Ea1) (Ea10) (by decide)) (ne_exa (Ea1) (Ea11) (by decide)) (ne_exa (Ea1) (Ea2) (by decide)) (ne_exa (Ea1) (Ea12) (by decide)) (ne_exa (Ea1) (Ea14) (by decide))) hZ (hw _ (List.mem_of_getElem? (i := 50) rfl)) (hw _ (List.mem_of_getElem? (i := 3) rfl)) (by decide) (by decide)) q99a q99c (g := (mkF m 167 #[.val (.int p0), .val (.int p1), .val (.ref b2), .val (.int jj), .val (.int (g1_106_t0 p1)), .val (.int (1793 : Int32)), .val (.int (10242 : Int32)), .val (.int (g2_129_t0 (g1_106_t0 p1) (1793 : Int32) (10242 : Int32))), .val (.int (g3_146_t0 jj (g2_129_t0 (g1_106_t0 p1) (1793 : Int32) (10242 : Int32))))] [(.int (g1_106_t0 p1)), (.ref x1)])) rfl (by rw [hml]; rfl) (Steps.refl _) (argsL := [(.int (g1_106_t0 p1))]) (rest := []) (lenOf pd_0 rfl) rfl (by show 2 * 0 + _ ≤ _; exact Nat.le_of_eq rfl) (hb hby at_167) (fun _ _ => ⟨rfl, e86, (by decide : 1 + 0 ≤ _), (by decide : 14 + 0 ≤ _)⟩)
    dsimp only [Pt.U, Pt.locs, Pt.cells, Pt.slots] at X99 l99 y99 z99 st99 hQ99
    rw [y99, z99] at X99
    obtain ⟨rfl, N99q, e99⟩ := hQ99
    have N99 : Fr n0 L99 := by rw [l99]; exact Fr.app N86 N99q
    replace X99 : Stand p l e _ s m _ below meth c T99 L99 1 14 := X99
    clear l99 y99 z99
    have c100 : ∀ τ, Steps p.tables e below (T99.setTop (mkF m 170 #[.val (.int p0), .val (.int p1), .val (.ref b2), .val (.int jj), .val (.int (g1_106_t0 p1)), .val (.int (1793 : Int32)), .val (.int (10242 : Int32)), .val (.int (g2_129_t0 (g1_106_t0 p1) (1793 : Int32) (10242 : Int32))), .val (.int (g3_146_t0 jj (g2_129_t0 (g1_106_t0 p1) (1793 : Int32) (10242 : Int32))))] [(.int (s_CHILD_61_t0 (g1_106_t0 p1) (1 : Int32) (0 : Int32)))])) τ → Steps p.tables e below (s₁.setTop (entryFrame m #[(.int p0), (.int p1)] maxLocals)) τ := fun τ κ => c98 τ (st99.trans κ)
    have c101 : ∀ τ, Steps p.tables e below (T99.setTop (mkF m 180 #[.val (.int p0), .val (.int p1), .val (.ref b2), .val (.int jj), .val (.int (g1_106_t0 p1)), .val (.int (1793 : Int32)), .val (.int (10242 : Int32)), .val (.int (g2_129_t0 (g1_106_t0 p1) (1793 : Int32) (10242 : Int32))), .val (.int (g3_146_t0 jj (g2_129_t0 (g1_106_t0 p1) (1793 : Int32) (10242 : Int32))))] [(.int (1 : Int32))])) τ → Steps p.tables e below (s₁.setTop (entryFrame m #[(.int p0), (.int p1)] maxLocals)) τ := fun τ κ => c100 τ (by
        show Steps p.tables e below (T99.setTop (mkF m 170 #[.val (.int p0), .val (.int p1), .val (.ref b2), .val (.int jj), .val (.int (g1_106_t0 p1)), .val (.int (1793 : Int32)), .val (.int (10242 : Int32)), .val (.int (g2_129_t0 (g1_106_t0 p1) (1793 : Int32) (10242 : Int32))), .val (.int (g3_146_t0 jj (g2_129_t0 (g1_106_t0 p1) (1793 : Int32) (10242 : Int32))))] [(.int (s_CHILD_61_t0 (g1_106_t0 p1) (1 : Int32) (0 : Int32)))])) _
        refine XS.iload X99.here hx rfl (hb hby at_170) rfl ?_
        show Steps p.tables e below (T99.setTop (mkF m 172 #[.val (.int p0), .val (.int p1), .val (.ref b2), .val (.int jj), .val (.int (g1_106_t0 p1)), .val (.int (1793 : Int32)), .val (.int (10242 : Int32)), .val (.int (g2_129_t0 (g1_106_t0 p1) (1793 : Int32) (10242 : Int32))), .val (.int (g3_146_t0 jj (g2_129_t0 (g1_106_t0 p1) (1793 : Int32) (10242 : Int32))))] [(.int (g3_146_t0 jj (g2_129_t0 (g1_106_t0 p1) (1793 : Int32) (10242 : Int32)))), (.int (s_CHILD_61_t0 (g1_106_t0 p1) (1 : Int32) (0 : Int32)))])) _
        refine XS.icmpNo X99.here hx rfl (hb hby at_172) rfl (teq (own_l0 p1 jj hk)).2 ?_
        show Steps p.tables e below (T99.setTop (mkF m 175 #[.val (.int p0), .val (.int p1), .val (.ref b2), .val (.int jj), .val (.int (g1_106_t0 p1)), .val (.int (1793 : Int32)), .val (.int (10242 : Int32)), .val (.int (g2_129_t0 (g1_106_t0 p1) (1793 : Int32) (10242 : Int32))), .val (.int (g3_146_t0 jj (g2_129_t0 (g1_106_t0 p1) (1793 : Int32) (10242 : Int32))))] [])) _
        refine XS.iconst X99.here hx rfl (hb hby at_175) ?_
        show Steps p.tables e below (T99.setTop (mkF m 176 #[.val (.int p0), .val (.int p1), .val (.ref b2), .val (.int jj), .val (.int (g1_106_t0 p1)), .val (.int (1793 : Int32)), .val (.int (10242 : Int32)), .val (.int (g2_129_t0 (g1_106_t0 p1) (1793 : Int32) (10242 : Int32))), .val (.int (g3_146_t0 jj (g2_129_t0 (g1_106_t0 p1) (1793 : Int32) (10242 : Int32))))] [(.int (1 : Int32))])) _
        refine XS.goto X99.here hx rfl (pc0 := 176) (pc' := 180) rfl (hb hby at_176) (by decide) (by decide) ?_
        exact κ)
    obtain ⟨fs, hr, hrun, hended, hW, hsame⟩ := X99.leave (v := some (.int (1 : Int32))) (fun h => by rw [Bd.returns] at h; cases h)
    refine ⟨_, _, c101 _ (retN X99 hx (t := .boolean) Bd.returns (by simp) (hb hby at_180) hr), hrun, hended, _, _, rfl, ?_, ⟨_, rfl⟩, hW, hsame.mono (by decide) (by decide)⟩
    show Q_rm0 Z p0 p1 x1 x2 x3 x4 x5 x6 x7 x8 x9 x10 x11 x12 x13 x14 h0 n0 _ T99.heap _
    rw [e99]
    exact ⟨rfl, N99⟩
  · have c96 : ∀ τ, Steps p.tables e below (T86.setTop (mkF m 164 #[.val (.int p0), .val (.int p1), .val (.ref b2), .val (.int jj), .val (.int (g1_106_t0 p1)), .val (.int (1793 : Int32)), .val (.int (10242 : Int32)), .val (.int (g2_129_t0 (g1_106_t0 p1) (1793 : Int32) (10242 : Int32))), .val (.int (g3_146_t0 jj (g2_129_t0 (g1_106_t0 p1) (1793 : Int32) (10242 : Int32))))] [(.int jj), (.ref b2)])) τ → Steps p.tables e below (s₁.setTop (entryFrame m #[(.int p0), (.int p1)] maxLocals)) τ := fun τ κ => c94 τ (by
        show Steps p.tables e below (T86.setTop (mkF m 162 #[.val (.int p0), .val (.int p1), .val (.ref b2), .val (.int jj), .val (.int (g1_106_t0 p1)), .val (.int (1793 : Int32)), .val (.int (10242 : Int32)), .val (.int (g2_129_t0 (g1_106_t0 p1) (1793 : Int32) (10242 : Int32))), .val (.int (g3_146_t0 jj (g2_129_t0 (g1_106_t0 p1) (1793 : Int32) (10242 : Int32))))] [])) _
        refine XS.aloadN X86.here hx rfl (hb hby at_162) rfl rfl ?_
        show Steps p.tables e below (T86.setTop (mkF m 163 #[.val (.int p0), .val (.int p1), .val (.ref b2), .val (.int jj), .val (.int (g1_106_t0 p1)), .val (.int (1793 : Int32)), .val (.int (10242 : Int32)), .val (.int (g2_129_t0 (g1_106_t0 p1) (1793 : Int32) (10242 : Int32))), .val (.int (g3_146_t0 jj (g2_129_t0 (g1_106_t0 p1) (1793 : Int32) (10242 : Int32))))] [(.ref b2)])) _
        refine XS.iloadN X86.here hx rfl (hb hby at_163) rfl ?_
        exact κ)
    have c97 : ∀ τ, Steps p.tables e below (T86.setTop (mkF m 165 #[.val (.int p0), .val (.int p1), .val (.ref b2), .val (.int jj), .val (.int (g1_106_t0 p1)), .val (.int (1793 : Int32)), .val (.int (10242 : Int32)), .val (.int (g2_129_t0 (g1_106_t0 p1) (1793 : Int32) (10242 : Int32))), .val (.int (g3_146_t0 jj (g2_129_t0 (g1_106_t0 p1) (1793 : Int32) (10242 : Int32))))] [(.ref x2)])) τ → Steps p.tables e below (s₁.setTop (entryFrame m #[(.int p0), (.int p1)] maxLocals)) τ := fun τ κ => c96 τ (own_aaload X86 hx hZ e86 V86 (j := jj) hj14 (v := (.ref x2)) (by rw [hk]; rfl) (g := (mkF m 164 #[.val (.int p0), .val (.int p1), .val (.ref b2), .val (.int jj), .val (.int (g1_106_t0 p1)), .val (.int (1793 : Int32)), .val (.int (10242 : Int32)), .val (.int (g2_129_t0 (g1_106_t0 p1) (1793 : Int32) (10242 : Int32))), .val (.int (g3_146_t0 jj (g2_129_t0 (g1_106_t0 p1) (1793 : Int32) (10242 : Int32))))] [(.int jj), (.ref b2)])) rfl rfl (hb hby at_164) _ κ)
    have c98 : ∀ τ, Steps p.tables e below (T86.setTop (mkF m 167 #[.val (.int p0), .val (.int p1), .val (.ref b2), .val (.int jj), .val (.int (g1_106_t0 p1)), .val (.int (1793 : Int32)), .val (.int (10242 : Int32)), .val (.int (g2_129_t0 (g1_106_t0 p1) (1793 : Int32) (10242 : Int32))), .val (.int (g3_146_t0 jj (g2_129_t0 (g1_106_t0 p1) (1793 : Int32) (10242 : Int32))))] [(.int (g1_106_t0 p1)), (.ref x2)])) τ → Steps p.tables e below (s₁.setTop (entryFrame m #[(.int p0), (.int p1)] maxLocals)) τ := fun τ κ => c97 τ (by
        show Steps p.tables e below (T86.setTop (mkF m 165 #[.val (.int p0), .val (.int p1), .val (.ref b2), .val (.int jj), .val (.int (g1_106_t0 p1)), .val (.int (1793 : Int32)), .val (.int (10242 : Int32)), .val (.int (g2_129_t0 (g1_106_t0 p1) (1793 : Int32) (10242 : Int32))), .val (.int (g3_146_t0 jj (g2_129_t0 (g1_106_t0 p1) (1793 : Int32) (10242 : Int32))))] [(.ref x2)])) _
        refine XS.iload X86.here hx rfl (hb hby at_165) rfl ?_
        exact κ)
    obtain ⟨cq99, kq99, q99a, q99b, q99c⟩ := isOf hZ e86 (Ea2.ext f95.2)
    obtain ⟨_, _, ⟨T99, L99, k99, n99⟩, -, X99, ⟨Lc99, hQ99, l99, y99, z99⟩, st99⟩ := X86.virtualBack hx (y := (⟨"com/example/node_sieve/nodesieve/Axis", "selectsOnce", "(Z)Z"⟩ : MethodName)) (z := (⟨"com/example/node_sieve/nodesieve/Axis", "selectsOnce", "(Z)Z"⟩ : MethodName)) hown (mvT hZ (hw _ (List.mem_of_getElem? (i := 46) rfl))) (mvT hZ (hw _ (List.mem_of_getElem? (i := 47) rfl))) (notFace_of_selects (args := #[]) (mvT hZ (hw _ (List.mem_of_getElem? (i := 67) rfl)))) (mvT hZ (hw _ (List.mem_of_getElem? (i := 67) rfl))) (mvT hZ (hw _ (List.mem_of_getElem? (i := 48) rfl))) (by decide) (backOf (W := 0) (rm1_DESCENDANT l Z a0 hw [] x2 (g1_106_t0 p1) x1 x9 x10 x11 x12 x14 h86 n0 Z86 (Sa1.ext f95.2) (Sa9.ext f95.2) (Sa10.ext f95.2) (Sa11.ext f95.2) (Sa2.ext f95.2) (Sa12.ext f95.2) (Sa14.ext f95.2) (ne_exa (Ea2) (Ea1) (by decide)) (ne_exa (Ea2) (Ea9) (by decide)) (ne_exa (Ea2) (Ea10) (by decide)) (ne_exa (Ea2) (Ea11) (by decide)) (ne_exa (Ea2) (Ea12) (by decide)) (ne_exa (Ea2) (Ea14) (by decide))) hZ (hw _ (List.mem_of_getElem? (i := 50) rfl)) (hw _ (List.mem_of_getElem? (i := 3) rfl)) (by decide) (by decide)) q99a q99c (g := (mkF m 167 #[.val (.int p0), .val (.int p1), .val (.ref b2), .val (.int jj), .val (.int (g1_106_t0 p1)), .val (.int (1793 : Int32)), .val (.int (10242 : Int32)), .val (.int (g2_129_t0 (g1_106_t0 p1) (1793 : Int32) (10242 : Int32))), .val (.int (g3_146_t0 jj (g2_129_t0 (g1_106_t0 p1) (1793 : Int32) (10242 : Int32))))] [(.int (g1_106_t0 p1)), (.ref x2)])) rfl (by rw [hml]; rfl) (Steps.refl _) (argsL := [(.int (g1_106_t0 p1))]) (rest := []) (lenOf pd_0 rfl) rfl (by show 2 * 0 + _ ≤ _; exact Nat.le_of_eq rfl) (hb hby at_167) (fun _ _ => ⟨rfl, e86, (by decide : 1 + 0 ≤ _), (by decide : 14 + 0 ≤ _)⟩)
    dsimp only [Pt.U, Pt.locs, Pt.cells, Pt.slots] at X99 l99 y99 z99 st99 hQ99
    rw [y99, z99] at X99
    obtain ⟨rfl, N99q, e99⟩ := hQ99
    have N99 : Fr n0 L99 := by rw [l99]; exact Fr.app N86 N99q
    replace X99 : Stand p l e _ s m _ below meth c T99 L99 1 14 := X99
    clear l99 y99 z99
    have c100 : ∀ τ, Steps p.tables e below (T99.setTop (mkF m 170 #[.val (.int p0), .val (.int p1), .val (.ref b2), .val (.int jj), .val (.int (g1_106_t0 p1)), .val (.int (1793 : Int32)), .val (.int (10242 : Int32)), .val (.int (g2_129_t0 (g1_106_t0 p1) (1793 : Int32) (10242 : Int32))), .val (.int (g3_146_t0 jj (g2_129_t0 (g1_106_t0 p1) (1793 : Int32) (10242 : Int32))))] [(.int (s_DESCENDANT_61_t0 (g1_106_t0 p1) (0 : Int32) (1 : Int32)))])) τ → Steps p.tables e below (s₁.setTop (entryFrame m #[(.int p0), (.int p1)] maxLocals)) τ := fun τ κ => c98 τ (st99.trans κ)
    have c101 : ∀ τ, Steps p.tables e below (T99.setTop (mkF m 180 #[.val (.int p0), .val (.int p1), .val (.ref b2), .val (.int jj), .val (.int (g1_106_t0 p1)), .val (.int (1793 : Int32)), .val (.int (10242 : Int32)), .val (.int (g2_129_t0 (g1_106_t0 p1) (1793 : Int32) (10242 : Int32))), .val (.int (g3_146_t0 jj (g2_129_t0 (g1_106_t0 p1) (1793 : Int32) (10242 : Int32))))] [(.int (1 : Int32))])) τ → Steps p.tables e below (s₁.setTop (entryFrame m #[(.int p0), (.int p1)] maxLocals)) τ := fun τ κ => c100 τ (by
        show Steps p.tables e below (T99.setTop (mkF m 170 #[.val (.int p0), .val (.int p1), .val (.ref b2), .val (.int jj), .val (.int (g1_106_t0 p1)), .val (.int (1793 : Int32)), .val (.int (10242 : Int32)), .val (.int (g2_129_t0 (g1_106_t0 p1) (1793 : Int32) (10242 : Int32))), .val (.int (g3_146_t0 jj (g2_129_t0 (g1_106_t0 p1) (1793 : Int32) (10242 : Int32))))] [(.int (s_DESCENDANT_61_t0 (g1_106_t0 p1) (0 : Int32) (1 : Int32)))])) _
        refine XS.iload X99.here hx rfl (hb hby at_170) rfl ?_
        show Steps p.tables e below (T99.setTop (mkF m 172 #[.val (.int p0), .val (.int p1), .val (.ref b2), .val (.int jj), .val (.int (g1_106_t0 p1)), .val (.int (1793 : Int32)), .val (.int (10242 : Int32)), .val (.int (g2_129_t0 (g1_106_t0 p1) (1793 : Int32) (10242 : Int32))), .val (.int (g3_146_t0 jj (g2_129_t0 (g1_106_t0 p1) (1793 : Int32) (10242 : Int32))))] [(.int (g3_146_t0 jj (g2_129_t0 (g1_106_t0 p1) (1793 : Int32) (10242 : Int32)))), (.int (s_DESCENDANT_61_t0 (g1_106_t0 p1) (0 : Int32) (1 : Int32)))])) _
        refine XS.icmpNo X99.here hx rfl (hb hby at_172) rfl (teq (own_l1 p1 jj hk)).2 ?_
        show Steps p.tables e below (T99.setTop (mkF m 175 #[.val (.int p0), .val (.int p1), .val (.ref b2), .val (.int jj), .val (.int (g1_106_t0 p1)), .val (.int (1793 : Int32)), .val (.int (10242 : Int32)), .val (.int (g2_129_t0 (g1_106_t0 p1) (1793 : Int32) (10242 : Int32))), .val (.int (g3_146_t0 jj (g2_129_t0 (g1_106_t0 p1) (1793 : Int32) (10242 : Int32))))] [])) _
        refine XS.iconst X99.here hx rfl (hb hby at_175) ?_
        show Steps p.tables e below (T99.setTop (mkF m 176 #[.val (.int p0), .val (.int p1), .val (.ref b2), .val (.int jj), .val (.int (g1_106_t0 p1)), .val (.int (1793 : Int32)), .val (.int (10242 : Int32)), .val (.int (g2_129_t0 (g1_106_t0 p1) (1793 : Int32) (10242 : Int32))), .val (.int (g3_146_t0 jj (g2_129_t0 (g1_106_t0 p1) (1793 : Int32) (10242 : Int32))))] [(.int (1 : Int32))])) _
        refine XS.goto X99.here hx rfl (pc0 := 176) (pc' := 180) rfl (hb hby at_176) (by decide) (by decide) ?_
        exact κ)
    obtain ⟨fs, hr, hrun, hended, hW, hsame⟩ := X99.leave (v := some (.int (1 : Int32))) (fun h => by rw [Bd.returns] at h; cases h)
    refine ⟨_, _, c101 _ (retN X99 hx (t := .boolean) Bd.returns (by simp) (hb hby at_180) hr), hrun, hended, _, _, rfl, ?_, ⟨_, rfl⟩, hW, hsame.mono (by decide) (by decide)⟩
    show Q_rm0 Z p0 p1 x1 x2 x3 x4 x5 x6 x7 x8 x9 x10 x11 x12 x13 x14 h0 n0 _ T99.heap _
    rw [e99]
    exact ⟨rfl, N99⟩
  · have c96 : ∀ τ, Steps p.tables e below (T86.setTop (mkF m 164 #[.val (.int p0), .val (.int p1), .val (.ref b2), .val (.int jj), .val (.int (g1_106_t0 p1)), .val (.int (1793 : Int32)), .val (.int (10242 : Int32)), .val (.int (g2_129_t0 (g1_106_t0 p1) (1793 : Int32) (10242 : Int32))), .val (.int (g3_146_t0 jj (g2_129_t0 (g1_106_t0 p1) (1793 : Int32) (10242 : Int32))))] [(.int jj), (.ref b2)])) τ → Steps p.tables e below (s₁.setTop (entryFrame m #[(.int p0), (.int p1)] maxLocals)) τ := fun τ κ => c94 τ (by
        show Steps p.tables e below (T86.setTop (mkF m 162 #[.val (.int p0), .val (.int p1), .val (.ref b2), .val (.int jj), .val (.int (g1_106_t0 p1)), .val (.int (1793 : Int32)), .val (.int (10242 : Int32)), .val (.int (g2_129_t0 (g1_106_t0 p1) (1793 : Int32) (10242 : Int32))), .val (.int (g3_146_t0 jj (g2_129_t0 (g1_106_t0 p1) (1793 : Int32) (10242 : Int32))))] [])) _
        refine XS.aloadN X86.here hx rfl (hb hby at_162) rfl rfl ?_
        show Steps p.tables e below (T86.setTop (mkF m 163 #[.val (.int p0), .val (.int p1), .val (.ref b2), .val (.int jj), .val (.int (g1_106_t0 p1)), .val (.int (1793 : Int32)), .val (.int (10242 : Int32)), .val (.int (g2_129_t0 (g1_106_t0 p1) (1793 : Int32) (10242 : Int32))), .val (.int (g3_146_t0 jj (g2_129_t0 (g1_106_t0 p1) (1793 : Int32) (10242 : Int32))))] [(.ref b2)])) _
        refine XS.iloadN X86.here hx rfl (hb hby at_163) rfl ?_
        exact κ)
    have c97 : ∀ τ, Steps p.tables e below (T86.setTop (mkF m 165 #[.val (.int p0), .val (.int p1), .val (.ref b2), .val (.int jj), .val (.int (g1_106_t0 p1)), .val (.int (1793 : Int32)), .val (.int (10242 : Int32)), .val (.int (g2_129_t0 (g1_106_t0 p1) (1793 : Int32) (10242 : Int32))), .val (.int (g3_146_t0 jj (g2_129_t0 (g1_106_t0 p1) (1793 : Int32) (10242 : Int32))))] [(.ref x3)])) τ → Steps p.tables e below (s₁.setTop (entryFrame m #[(.int p0), (.int p1)] maxLocals)) τ := fun τ κ => c96 τ (own_aaload X86 hx hZ e86 V86 (j := jj) hj14 (v := (.ref x3)) (by rw [hk]; rfl) (g := (mkF m 164 #[.val (.int p0), .val (.int p1), .val (.ref b2), .val (.int jj), .val (.int (g1_106_t0 p1)), .val (.int (1793 : Int32)), .val (.int (10242 : Int32)), .val (.int (g2_129_t0 (g1_106_t0 p1) (1793 : Int32) (10242 : Int32))), .val (.int (g3_146_t0 jj (g2_129_t0 (g1_106_t0 p1) (1793 : Int32) (10242 : Int32))))] [(.int jj), (.ref b2)])) rfl rfl (hb hby at_164) _ κ)
    have c98 : ∀ τ, Steps p.tables e below (T86.setTop (mkF m 167 #[.val (.int p0), .val (.int p1), .val (.ref b2), .val (.int jj), .val (.int (g1_106_t0 p1)), .val (.int (1793 : Int32)), .val (.int (10242 : Int32)), .val (.int (g2_129_t0 (g1_106_t0 p1) (1793 : Int32) (10242 : Int32))), .val (.int (g3_146_t0 jj (g2_129_t0 (g1_106_t0 p1) (1793 : Int32) (10242 : Int32))))] [(.int (g1_106_t0 p1)), (.ref x3)])) τ → Steps p.tables e below (s₁.setTop (entryFrame m #[(.int p0), (.int p1)] maxLocals)) τ := fun τ κ => c97 τ (by
        show Steps p.tables e below (T86.setTop (mkF m 165 #[.val (.int p0), .val (.int p1), .val (.ref b2), .val (.int jj), .val (.int (g1_106_t0 p1)), .val (.int (1793 : Int32)), .val (.int (10242 : Int32)), .val (.int (g2_129_t0 (g1_106_t0 p1) (1793 : Int32) (10242 : Int32))), .val (.int (g3_146_t0 jj (g2_129_t0 (g1_106_t0 p1) (1793 : Int32) (10242 : Int32))))] [(.ref x3)])) _
        refine XS.iload X86.here hx rfl (hb hby at_165) rfl ?_
        exact κ)
    obtain ⟨cq99, kq99, q99a, q99b, q99c⟩ := isOf hZ e86 (Ea3.ext f95.2)
    obtain ⟨_, _, ⟨T99, L99, k99, n99⟩, -, X99, ⟨Lc99, hQ99, l99, y99, z99⟩, st99⟩ := X86.virtualBack hx (y := (⟨"com/example/node_sieve/nodesieve/Axis", "selectsOnce", "(Z)Z"⟩ : MethodName)) (z := (⟨"com/example/node_sieve/nodesieve/Axis", "selectsOnce", "(Z)Z"⟩ : MethodName)) hown (mvT hZ (hw _ (List.mem_of_getElem? (i := 46) rfl))) (mvT hZ (hw _ (List.mem_of_getElem? (i := 47) rfl))) (notFace_of_selects (args := #[]) (mvT hZ (hw _ (List.mem_of_getElem? (i := 68) rfl)))) (mvT hZ (hw _ (List.mem_of_getElem? (i := 68) rfl))) (mvT hZ (hw _ (List.mem_of_getElem? (i := 48) rfl))) (by decide) (backOf (W := 0) (rm1_none l Z a0 hw [] x3 (g1_106_t0 p1) x1 x9 x10 x11 x2 x12 x14 h86 n0 Z86 (Sa1.ext f95.2) (Sa9.ext f95.2) (Sa10.ext f95.2) (Sa11.ext f95.2) (Sa2.ext f95.2) (Sa12.ext f95.2) (Sa14.ext f95.2) (ne_exa (Ea3) (Ea1) (by decide)) (ne_exa (Ea3) (Ea9) (by decide)) (ne_exa (Ea3) (Ea10) (by decide)) (ne_exa (Ea3) (Ea11) (by decide)) (ne_exa (Ea3) (Ea2) (by decide)) (ne_exa (Ea3) (Ea12) (by decide)) (ne_exa (Ea3) (Ea14) (by decide))) hZ (hw _ (List.mem_of_getElem? (i := 50) rfl)) (hw _ (List.mem_of_getElem? (i := 3) rfl)) (by decide) (by decide)) q99a q99c (g := (mkF m 167 #[.val (.int p0), .val (.int p1), .val (.ref b2), .val (.int jj), .val (.int (g1_106_t0 p1)), .val (.int (1793 : Int32)), .val (.int (10242 : Int32)), .val (.int (g2_129_t0 (g1_106_t0 p1) (1793 : Int32) (10242 : Int32))), .val (.int (g3_146_t0 jj (g2_129_t0 (g1_106_t0 p1) (1793 : Int32) (10242 : Int32))))] [(.int (g1_106_t0 p1)), (.ref x3)])) rfl (by rw [hml]; rfl) (Steps.refl _) (argsL := [(.int (g1_106_t0 p1))]) (rest := []) (lenOf pd_0 rfl) rfl (by show 2 * 0 + _ ≤ _; exact Nat.le_of_eq rfl) (hb hby at_167) (fun _ _ => ⟨rfl, e86, (by decide : 1 + 0 ≤ _), (by decide : 14 + 0 ≤ _)⟩)
    dsimp only [Pt.U, Pt.locs, Pt.cells, Pt.slots] at X99 l99 y99 z99 st99 hQ99
    rw [y99, z99] at X99
    obtain ⟨rfl, N99q, e99⟩ := hQ99
    have N99 : Fr n0 L99 := by rw [l99]; exact Fr.app N86 N99q
    replace X99 : Stand p l e _ s m _ below meth c T99 L99 1 14 := X99
    clear l99 y99 z99
    have c100 : ∀ τ, Steps p.tables e below (T99.setTop (mkF m 170 #[.val (.int p0), .val (.int p1), .val (.ref b2), .val (.int jj), .val (.int (g1_106_t0 p1)), .val (.int (1793 : Int32)), .val (.int (10242 : Int32)), .val (.int (g2_129_t0 (g1_106_t0 p1) (1793 : Int32) (10242 : Int32))), .val (.int (g3_146_t0 jj (g2_129_t0 (g1_106_t0 p1) (1793 : Int32) (10242 : Int32))))] [(.int (s_none_61_t0 (g1_106_t0 p1) (0 : Int32) (0 : Int32)))])) τ → Steps p.tables e below (s₁.setTop (entryFrame m #[(.int p0), (.int p1)] maxLocals)) τ := fun τ κ => c98 τ (st99.trans κ)
    have c101 : ∀ τ, Steps p.tables e below (T99.setTop (mkF m 180 #[.val (.int p0), .val (.int p1), .val (.ref b2), .val (.int jj), .val (.int (g1_106_t0 p1)), .val (.int (1793 : Int32)), .val (.int (10242 : Int32)), .val (.int (g2_129_t0 (g1_106_t0 p1) (1793 : Int32) (10242 : Int32))), .val (.int (g3_146_t0 jj (g2_129_t0 (g1_106_t0 p1) (1793 : Int32) (10242 : Int32))))] [(.int (1 : Int32))])) τ → Steps p.tables e below (s₁.setTop (entryFrame m #[(.int p0), (.int p1)] maxLocals)) τ := fun τ κ => c100 τ (by
        show Steps p.tables e below (T99.setTop (mkF m 170 #[.val (.int p0), .val (.int p1), .val (.ref b2), .val (.int jj), .val (.int (g1_106_t0 p1)), .val (.int (1793 : Int32)), .val (.int (10242 : Int32)), .val (.int (g2_129_t0 (g1_106_t0 p1) (1793 : Int32) (10242 : Int32))), .val (.int (g3_146_t0 jj (g2_129_t0 (g1_106_t0 p1) (1793 : Int32) (10242 : Int32))))] [(.int (s_none_61_t0 (g1_106_t0 p1) (0 : Int32) (0 : Int32)))])) _
        refine XS.iload X99.here hx rfl (hb hby at_170) rfl ?_
        show Steps p.tables e below (T99.setTop (mkF m 172 #[.val (.int p0), .val (.int p1), .val (.ref b2), .val (.int jj), .val (.int (g1_106_t0 p1)), .val (.int (1793 : Int32)), .val (.int (10242 : Int32)), .val (.int (g2_129_t0 (g1_106_t0 p1) (1793 : Int32) (10242 : Int32))), .val (.int (g3_146_t0 jj (g2_129_t0 (g1_106_t0 p1) (1793 : Int32) (10242 : Int32))))] [(.int (g3_146_t0 jj (g2_129_t0 (g1_106_t0 p1) (1793 : Int32) (10242 : Int32)))), (.int (s_none_61_t0 (g1_106_t0 p1) (0 : Int32) (0 : Int32)))])) _
        refine XS.icmpNo X99.here hx rfl (hb hby at_172) rfl (teq (own_l2 p1 jj hk)).2 ?_
        show Steps p.tables e below (T99.setTop (mkF m 175 #[.val (.int p0), .val (.int p1), .val (.ref b2), .val (.int jj), .val (.int (g1_106_t0 p1)), .val (.int (1793 : Int32)), .val (.int (10242 : Int32)), .val (.int (g2_129_t0 (g1_106_t0 p1) (1793 : Int32) (10242 : Int32))), .val (.int (g3_146_t0 jj (g2_129_t0 (g1_106_t0 p1) (1793 : Int32) (10242 : Int32))))] [])) _
        refine XS.iconst X99.here hx rfl (hb hby at_175) ?_
        show Steps p.tables e below (T99.setTop (mkF m 176 #[.val (.int p0), .val (.int p1), .val (.ref b2), .val (.int jj), .val (.int (g1_106_t0 p1)), .val (.int (1793 : Int32)), .val (.int (10242 : Int32)), .val (.int (g2_129_t0 (g1_106_t0 p1) (1793 : Int32) (10242 : Int32))), .val (.int (g3_146_t0 jj (g2_129_t0 (g1_106_t0 p1) (1793 : Int32) (10242 : Int32))))] [(.int (1 : Int32))])) _
        refine XS.goto X99.here hx rfl (pc0 := 176) (pc' := 180) rfl (hb hby at_176) (by decide) (by decide) ?_
        exact κ)
    obtain ⟨fs, hr, hrun, hended, hW, hsame⟩ := X99.leave (v := some (.int (1 : Int32))) (fun h => by rw [Bd.returns] at h; cases h)
    refine ⟨_, _, c101 _ (retN X99 hx (t := .boolean) Bd.returns (by simp) (hb hby at_180) hr), hrun, hended, _, _, rfl, ?_, ⟨_, rfl⟩, hW, hsame.mono (by decide) (by decide)⟩
    show Q_rm0 Z p0 p1 x1 x2 x3 x4 x5 x6 x7 x8 x9 x10 x11 x12 x13 x14 h0 n0 _ T99.heap _
    rw [e99]
    exact ⟨rfl, N99⟩
  · have c96 : ∀ τ, Steps p.tables e below (T86.setTop (mkF m 164 #[.val (.int p0), .val (.int p1), .val (.ref b2), .val (.int jj), .val (.int (g1_106_t0 p1)), .val (.int (1793 : Int32)), .val (.int (10242 : Int32)), .val (.int (g2_129_t0 (g1_106_t0 p1) (1793 : Int32) (10242 : Int32))), .val (.int (g3_146_t0 jj (g2_129_t0 (g1_106_t0 p1) (1793 : Int32) (10242 : Int32))))] [(.int jj), (.ref b2)])) τ → Steps p.tables e below (s₁.setTop (entryFrame m #[(.int p0), (.int p1)] maxLocals)) τ := fun τ κ => c94 τ (by
        show Steps p.tables e below (T86.setTop (mkF m 162 #[.val (.int p0), .val (.int p1), .val (.ref b2), .val (.int jj), .val (.int (g1_106_t0 p1)), .val (.int (1793 : Int32)), .val (.int (10242 : Int32)), .val (.int (g2_129_t0 (g1_106_t0 p1) (1793 : Int32) (10242 : Int32))), .val (.int (g3_146_t0 jj (g2_129_t0 (g1_106_t0 p1) (1793 : Int32) (10242 : Int32))))] [])) _
        refine XS.aloadN X86.here hx rfl (hb hby at_162) rfl rfl ?_
        show Steps p.tables e below (T86.setTop (mkF m 163 #[.val (.int p0), .val (.int p1), .val (.ref b2), .val (.int jj), .val (.int (g1_106_t0 p1)), .val (.int (1793 : Int32)), .val (.int (10242 : Int32)), .val (.int (g2_129_t0 (g1_106_t0 p1) (1793 : Int32) (10242 : Int32))), .val (.int (g3_146_t0 jj (g2_129_t0 (g1_106_t0 p1) (1793 : Int32) (10242 : Int32))))] [(.ref b2)])) _
        refine XS.iloadN X86.here hx rfl (hb hby at_163) rfl ?_
        exact κ)
    have c97 : ∀ τ, Steps p.tables e below (T86.setTop (mkF m 165 #[.val (.int p0), .val (.int p1), .val (.ref b2), .val (.int jj), .val (.int (g1_106_t0 p1)), .val (.int (1793 : Int32)), .val (.int (10242 : Int32)), .val (.int (g2_129_t0 (g1_106_t0 p1) (1793 : Int32) (10242 : Int32))), .val (.int (g3_146_t0 jj (g2_129_t0 (g1_106_t0 p1) (1793 : Int32) (10242 : Int32))))] [(.ref x4)])) τ → Steps p.tables e below (s₁.setTop (entryFrame m #[(.int p0), (.int p1)] maxLocals)) τ := fun τ κ => c96 τ (own_aaload X86 hx hZ e86 V86 (j := jj) hj14 (v := (.ref x4)) (by rw [hk]; rfl) (g := (mkF m 164 #[.val (.int p0), .val (.int p1), .val (.ref b2), .val (.int jj), .val (.int (g1_106_t0 p1)), .val (.int (1793 : Int32)), .val (.int (10242 : Int32)), .val (.int (g2_129_t0 (g1_106_t0 p1) (1793 : Int32) (10242 : Int32))), .val (.int (g3_146_t0 jj (g2_129_t0 (g1_106_t0 p1) (1793 : Int32) (10242 : Int32))))] [(.int jj), (.ref b2)])) rfl rfl (hb hby at_164) _ κ)
    have c98 : ∀ τ, Steps p.tables e below (T86.setTop (mkF m 167 #[.val (.int p0), .val (.int p1), .val (.ref b2), .val (.int jj), .val (.int (g1_106_t0 p1)), .val (.int (1793 : Int32)), .val (.int (10242 : Int32)), .val (.int (g2_129_t0 (g1_106_t0 p1) (1793 : Int32) (10242 : Int32))), .val (.int (g3_146_t0 jj (g2_129_t0 (g1_106_t0 p1) (1793 : Int32) (10242 : Int32))))] [(.int (g1_106_t0 p1)), (.ref x4)])) τ → Steps p.tables e below (s₁.setTop (entryFrame m #[(.int p0), (.int p1)] maxLocals)) τ := fun τ κ => c97 τ (by
        show Steps p.tables e below (T86.setTop (mkF m 165 #[.val (.int p0), .val (.int p1), .val (.ref b2), .val (.int jj), .val (.int (g1_106_t0 p1)), .val (.int (1793 : Int32)), .val (.int (10242 : Int32)), .val (.int (g2_129_t0 (g1_106_t0 p1) (1793 : Int32) (10242 : Int32))), .val (.int (g3_146_t0 jj (g2_129_t0 (g1_106_t0 p1) (1793 : Int32) (10242 : Int32))))] [(.ref x4)])) _
        refine XS.iload X86.here hx rfl (hb hby at_165) rfl ?_
        exact κ)
    obtain ⟨cq99, kq99, q99a, q99b, q99c⟩ := isOf hZ e86 (Ea4.ext f95.2)
    obtain ⟨_, _, ⟨T99, L99, k99, n99⟩, -, X99, ⟨Lc99, hQ99, l99, y99, z99⟩, st99⟩ := X86.virtualBack hx (y := (⟨"com/example/node_sieve/nodesieve/Axis", "selectsOnce", "(Z)Z"⟩ : MethodName)) (z := (⟨"com/example/node_sieve/nodesieve/Axis", "selectsOnce", "(Z)Z"⟩ : MethodName)) hown (mvT hZ (hw _ (List.mem_of_getElem? (i := 46) rfl))) (mvT hZ (hw _ (List.mem_of_getElem? (i := 47) rfl))) (notFace_of_selects (args := #[]) (mvT hZ (hw _ (List.mem_of_getElem? (i := 65) rfl)))) (mvT hZ (hw _ (List.mem_of_getElem? (i := 65) rfl))) (mvT hZ (hw _ (List.mem_of_getElem? (i := 48) rfl))) (by decide) (backOf (W := 0) (rm1_none l Z a0 hw [] x4 (g1_106_t0 p1) x1 x9 x10 x11 x2 x12 x14 h86 n0 Z86 (Sa1.ext f95.2) (Sa9.ext f95.2) (Sa10.ext f95.2) (Sa11.ext f95.2) (Sa2.ext f95.2) (Sa12.ext f95.2) (Sa14.ext f95.2) (ne_exa (Ea4) (Ea1) (by decide)) (ne_exa (Ea4) (Ea9) (by decide)) (ne_exa (Ea4) (Ea10) (by decide)) (ne_exa (Ea4) (Ea11) (by decide)) (ne_exa (Ea4) (Ea2) (by decide)) (ne_exa (Ea4) (Ea12) (by decide)) (ne_exa (Ea4) (Ea14) (by decide))) hZ (hw _ (List.mem_of_getElem? (i := 50) rfl)) (hw _ (List.mem_of_getElem? (i := 3) rfl)) (by decide) (by decide)) q99a q99c (g := (mkF m 167 #[.val (.int p0), .val (.int p1), .val (.ref b2), .val (.int jj), .val (.int (g1_106_t0 p1)), .val (.int (1793 : Int32)), .val (.int (10242 : Int32)), .val (.int (g2_129_t0 (g1_106_t0 p1) (1793 : Int32) (10242 : Int32))), .val (.int (g3_146_t0 jj (g2_129_t0 (g1_106_t0 p1) (1793 : Int32) (10242 : Int32))))] [(.int (g1_106_t0 p1)), (.ref x4)])) rfl (by rw [hml]; rfl) (Steps.refl _) (argsL := [(.int (g1_106_t0 p1))]) (rest := []) (lenOf pd_0 rfl) rfl (by show 2 * 0 + _ ≤ _; exact Nat.le_of_eq rfl) (hb hby at_167) (fun _ _ => ⟨rfl, e86, (by decide : 1 + 0 ≤ _), (by decide : 14 + 0 ≤ _)⟩)
    dsimp only [Pt.U, Pt.locs, Pt.cells, Pt.slots] at X99 l99 y99 z99 st99 hQ99
    rw [y99, z99] at X99
    obtain ⟨rfl, N99q, e99⟩ := hQ99
    have N99 : Fr n0 L99 := by rw [l99]; exact Fr.app N86 N99q
    replace X99 : Stand p l e _ s m _ below meth c T99 L99 1 14 := X99
    clear l99 y99 z99
    have c100 : ∀ τ, Steps p.tables e below (T99.setTop (mkF m 170 #[.val (.int p0), .val (.int p1), .val (.ref b2), .val (.int jj), .val (.int (g1_106_t0 p1)), .val (.int (1793 : Int32)), .val (.int (10242 : Int32)), .val (.int (g2_129_t0 (g1_106_t0 p1) (1793 : Int32) (10242 : Int32))), .val (.int (g3_146_t0 jj (g2_129_t0 (g1_106_t0 p1) (1793 : Int32) (10242 : Int32))))] [(.int (s_none_61_t0 (g1_106_t0 p1) (0 : Int32) (0 : Int32)))])) τ → Steps p.tables e below (s₁.setTop (entryFrame m #[(.int p0), (.int p1)] maxLocals)) τ := fun τ κ => c98 τ (st99.trans κ)
    have c101 : ∀ τ, Steps p.tables e below (T99.setTop (mkF m 180 #[.val (.int p0), .val (.int p1), .val (.ref b2), .val (.int jj), .val (.int (g1_106_t0 p1)), .val (.int (1793 : Int32)), .val (.int (10242 : Int32)), .val (.int (g2_129_t0 (g1_106_t0 p1) (1793 : Int32) (10242 : Int32))), .val (.int (g3_146_t0 jj (g2_129_t0 (g1_106_t0 p1) (1793 : Int32) (10242 : Int32))))] [(.int (1 : Int32))])) τ → Steps p.tables e below (s₁.setTop (entryFrame m #[(.int p0), (.int p1)] maxLocals)) τ := fun τ κ => c100 τ (by
        show Steps p.tables e below (T99.setTop (mkF m 170 #[.val (.int p0), .val (.int p1), .val (.ref b2), .val (.int jj), .val (.int (g1_106_t0 p1)), .val (.int (1793 : Int32)), .val (.int (10242 : Int32)), .val (.int (g2_129_t0 (g1_106_t0 p1) (1793 : Int32) (10242 : Int32))), .val (.int (g3_146_t0 jj (g2_129_t0 (g1_106_t0 p1) (1793 : Int32) (10242 : Int32))))] [(.int (s_none_61_t0 (g1_106_t0 p1) (0 : Int32) (0 : Int32)))])) _
        refine XS.iload X99.here hx rfl (hb hby at_170) rfl ?_
        show Steps p.tables e below (T99.setTop (mkF m 172 #[.val (.int p0), .val (.int p1), .val (.ref b2), .val (.int jj), .val (.int (g1_106_t0 p1)), .val (.int (1793 : Int32)), .val (.int (10242 : Int32)), .val (.int (g2_129_t0 (g1_106_t0 p1) (1793 : Int32) (10242 : Int32))), .val (.int (g3_146_t0 jj (g2_129_t0 (g1_106_t0 p1) (1793 : Int32) (10242 : Int32))))] [(.int (g3_146_t0 jj (g2_129_t0 (g1_106_t0 p1) (1793 : Int32) (10242 : Int32)))), (.int (s_none_61_t0 (g1_106_t0 p1) (0 : Int32) (0 : Int32)))])) _
        refine XS.icmpNo X99.here hx rfl (hb hby at_172) rfl (teq (own_l3 p1 jj hk)).2 ?_
        show Steps p.tables e below (T99.setTop (mkF m 175 #[.val (.int p0), .val (.int p1), .val (.ref b2), .val (.int jj), .val (.int (g1_106_t0 p1)), .val (.int (1793 : Int32)), .val (.int (10242 : Int32)), .val (.int (g2_129_t0 (g1_106_t0 p1) (1793 : Int32) (10242 : Int32))), .val (.int (g3_146_t0 jj (g2_129_t0 (g1_106_t0 p1) (1793 : Int32) (10242 : Int32))))] [])) _
        refine XS.iconst X99.here hx rfl (hb hby at_175) ?_
        show Steps p.tables e below (T99.setTop (mkF m 176 #[.val (.int p0), .val (.int p1), .val (.ref b2), .val (.int jj), .val (.int (g1_106_t0 p1)), .val (.int (1793 : Int32)), .val (.int (10242 : Int32)), .val (.int (g2_129_t0 (g1_106_t0 p1) (1793 : Int32) (10242 : Int32))), .val (.int (g3_146_t0 jj (g2_129_t0 (g1_106_t0 p1) (1793 : Int32) (10242 : Int32))))] [(.int (1 : Int32))])) _
        refine XS.goto X99.here hx rfl (pc0 := 176) (pc' := 180) rfl (hb hby at_176) (by decide) (by decide) ?_
        exact κ)
    obtain ⟨fs, hr, hrun, hended, hW, hsame⟩ := X99.leave (v := some (.int (1 : Int32))) (fun h => by rw [Bd.returns] at h; cases h)
    refine ⟨_, _, c101 _ (retN X99 hx (t := .boolean) Bd.returns (by simp) (hb hby at_180) hr), hrun, hended, _, _, rfl, ?_, ⟨_, rfl⟩, hW, hsame.mono (by decide) (by decide)⟩
    show Q_rm0 Z p0 p1 x1 x2 x3 x4 x5 x6 x7 x8 x9 x10 x11 x12 x13 x14 h0 n0 _ T99.heap _
    rw [e99]
    exact ⟨rfl, N99⟩
  · have c96 : ∀ τ, Steps p.tables e below (T86.setTop (mkF m 164 #[.val (.int p0), .val (.int p1), .val (.ref b2), .val (.int jj), .val (.int (g1_106_t0 p1)), .val (.int (1793 : Int32)), .val (.int (10242 : Int32)), .val (.int (g2_129_t0 (g1_106_t0 p1) (1793 : Int32) (10242 : Int32))), .val (.int (g3_146_t0 jj (g2_129_t0 (g1_106_t0 p1) (1793 : Int32) (10242 : Int32))))] [(.int jj), (.ref b2)])) τ → Steps p.tables e below (s₁.setTop (entryFrame m #[(.int p0), (.int p1)] maxLocals)) τ := fun τ κ => c94 τ (by
        show Steps p.tables e below (T86.setTop (mkF m 162 #[.val (.int p0), .val (.int p1), .val (.ref b2), .val (.int jj), .val (.int (g1_106_t0 p1)), .val (.int (1793 : Int32)), .val (.int (10242 : Int32)), .val (.int (g2_129_t0 (g1_106_t0 p1) (1793 : Int32) (10242 : Int32))), .val (.int (g3_146_t0 jj (g2_129_t0 (g1_106_t0 p1) (1793 : Int32) (10242 : Int32))))] [])) _
        refine XS.aloadN X86.here hx rfl (hb hby at_162) rfl rfl ?_
        show Steps p.tables e below (T86.setTop (mkF m 163 #[.val (.int p0), .val (.int p1), .val (.ref b2), .val (.int jj), .val (.int (g1_106_t0 p1)), .val (.int (1793 : Int32)), .val (.int (10242 : Int32)), .val (.int (g2_129_t0 (g1_106_t0 p1) (1793 : Int32) (10242 : Int32))), .val (.int (g3_146_t0 jj (g2_129_t0 (g1_106_t0 p1) (1793 : Int32) (10242 : Int32))))] [(.ref b2)])) _
        refine XS.iloadN X86.here hx rfl (hb hby at_163) rfl ?_
        exact κ)
    have c97 : ∀ τ, Steps p.tables e below (T86.setTop (mkF m 165 #[.val (.int p0), .val (.int p1), .val (.ref b2), .val (.int jj), .val (.int (g1_106_t0 p1)), .val (.int (1793 : Int32)), .val (.int (10242 : Int32)), .val (.int (g2_129_t0 (g1_106_t0 p1) (1793 : Int32) (10242 : Int32))), .val (.int (g3_146_t0 jj (g2_129_t0 (g1_106_t0 p1) (1793 : Int32) (10242 : Int32))))] [(.ref x5)])) τ → Steps p.tables e below (s₁.setTop (entryFrame m #[(.int p0), (.int p1)] maxLocals)) τ := fun τ κ => c96 τ (own_aaload X86 hx hZ e86 V86 (j := jj) hj14 (v := (.ref x5)) (by rw [hk]; rfl) (g := (mkF m 164 #[.val (.int p0), .val (.int p1), .val (.ref b2), .val (.int jj), .val (.int (g1_106_t0 p1)), .val (.int (1793 : Int32)), .val (.int (10242 : Int32)), .val (.int (g2_129_t0 (g1_106_t0 p1) (1793 : Int32) (10242 : Int32))), .val (.int (g3_146_t0 jj (g2_129_t0 (g1_106_t0 p1) (1793 : Int32) (10242 : Int32))))] [(.int jj), (.ref b2)])) rfl rfl (hb hby at_164) _ κ)
    have c98 : ∀ τ, Steps p.tables e below (T86.setTop (mkF m 167 #[.val (.int p0), .val (.int p1), .val (.ref b2), .val (.int jj), .val (.int (g1_106_t0 p1)), .val (.int (1793 : Int32)), .val (.int (10242 : Int32)), .val (.int (g2_129_t0 (g1_106_t0 p1) (1793 : Int32) (10242 : Int32))), .val (.int (g3_146_t0 jj (g2_129_t0 (g1_106_t0 p1) (1793 : Int32) (10242 : Int32))))] [(.int (g1_106_t0 p1)), (.ref x5)])) τ → Steps p.tables e below (s₁.setTop (entryFrame m #[(.int p0), (.int p1)] maxLocals)) τ := fun τ κ => c97 τ (by
        show Steps p.tables e below (T86.setTop (mkF m 165 #[.val (.int p0), .val (.int p1), .val (.ref b2), .val (.int jj), .val (.int (g1_106_t0 p1)), .val (.int (1793 : Int32)), .val (.int (10242 : Int32)), .val (.int (g2_129_t0 (g1_106_t0 p1) (1793 : Int32) (10242 : Int32))), .val (.int (g3_146_t0 jj (g2_129_t0 (g1_106_t0 p1) (1793 : Int32) (10242 : Int32))))] [(.ref x5)])) _
        refine XS.iload X86.here hx rfl (hb hby at_165) rfl ?_
        exact κ)
    obtain ⟨cq99, kq99, q99a, q99b, q99c⟩ := isOf hZ e86 (Ea5.ext f95.2)
    obtain ⟨_, _, ⟨T99, L99, k99, n99⟩, -, X99, ⟨Lc99, hQ99, l99, y99, z99⟩, st99⟩ := X86.virtualBack hx (y := (⟨"com/example/node_sieve/nodesieve/Axis", "selectsOnce", "(Z)Z"⟩ : MethodName)) (z := (⟨"com/example/node_sieve/nodesieve/Axis", "selectsOnce", "(Z)Z"⟩ : MethodName)) hown (mvT hZ (hw _ (List.mem_of_getElem? (i := 46) rfl))) (mvT hZ (hw _ (List.mem_of_getElem? (i := 47) rfl))) (notFace_of_selects (args := #[]) (mvT hZ (hw _ (List.mem_of_getElem? (i := 60) rfl)))) (mvT hZ (hw _ (List.mem_of_getElem? (i := 60) rfl))) (mvT hZ (hw _ (List.mem_of_getElem? (i := 48) rfl))) (by decide) (backOf (W := 0) (rm1_none l Z a0 hw [] x5 (g1_106_t0 p1) x1 x9 x10 x11 x2 x12 x14 h86 n0 Z86 (Sa1.ext f95.2) (Sa9.ext f95.2) (Sa10.ext f95.2) (Sa11.ext f95.2) (Sa2.ext f95.2) (Sa12.ext f95.2) (Sa14.ext f95.2) (ne_exa (Ea5) (Ea1) (by decide)) (ne_exa (Ea5) (Ea9) (by decide)) (ne_exa (Ea5) (Ea10) (by decide)) (ne_exa (Ea5) (Ea11) (by decide)) (ne_exa (Ea5) (Ea2) (by decide)) (ne_exa (Ea5) (Ea12) (by decide)) (ne_exa (Ea5) (Ea14) (by decide))) hZ (hw _ (List.mem_of_getElem? (i := 50) rfl)) (hw _ (List.mem_of_getElem? (i := 3) rfl)) (by decide) (by decide)) q99a q99c (g := (mkF m 167 #[.val (.int p0), .val (.int p1), .val (.ref b2), .val (.int jj), .val (.int (g1_106_t0 p1)), .val (.int (1793 : Int32)), .val (.int (10242 : Int32)), .val (.int (g2_129_t0 (g1_106_t0 p1) (1793 : Int32) (10242 : Int32))), .val (.int (g3_146_t0 jj (g2_129_t0 (g1_106_t0 p1) (1793 : Int32) (10242 : Int32))))] [(.int (g1_106_t0 p1)), (.ref x5)])) rfl (by rw [hml]; rfl) (Steps.refl _) (argsL := [(.int (g1_106_t0 p1))]) (rest := []) (lenOf pd_0 rfl) rfl (by show 2 * 0 + _ ≤ _; exact Nat.le_of_eq rfl) (hb hby at_167) (fun _ _ => ⟨rfl, e86, (by decide : 1 + 0 ≤ _), (by decide : 14 + 0 ≤ _)⟩)
    dsimp only [Pt.U, Pt.locs, Pt.cells, Pt.slots] at X99 l99 y99 z99 st99 hQ99
    rw [y99, z99] at X99
    obtain ⟨rfl, N99q, e99⟩ := hQ99
    have N99 : Fr n0 L99 := by rw [l99]; exact Fr.app N86 N99q
    replace X99 : Stand p l e _ s m _ below meth c T99 L99 1 14 := X99
    clear l99 y99 z99
    have c100 : ∀ τ, Steps p.tables e below (T99.setTop (mkF m 170 #[.val (.int p0), .val (.int p1), .val (.ref b2), .val (.int jj), .val (.int (g1_106_t0 p1)), .val (.int (1793 : Int32)), .val (.int (10242 : Int32)), .val (.int (g2_129_t0 (g1_106_t0 p1) (1793 : Int32) (10242 : Int32))), .val (.int (g3_146_t0 jj (g2_129_t0 (g1_106_t0 p1) (1793 : Int32) (10242 : Int32))))] [(.int (s_none_61_t0 (g1_106_t0 p1) (0 : Int32) (0 : Int32)))])) τ → Steps p.tables e below (s₁.setTop (entryFrame m #[(.int p0), (.int p1)] maxLocals)) τ := fun τ κ => c98 τ (st99.trans κ)
    have c101 : ∀ τ, Steps p.tables e below (T99.setTop (mkF m 180 #[.val (.int p0), .val (.int p1), .val (.ref b2), .val (.int jj), .val (.int (g1_106_t0 p1)), .val (.int (1793 : Int32)), .val (.int (10242 : Int32)), .val (.int (g2_129_t0 (g1_106_t0 p1) (1793 : Int32) (10242 : Int32))), .val (.int (g3_146_t0 jj (g2_129_t0 (g1_106_t0 p1) (1793 : Int32) (10242 : Int32))))] [(.int (1 : Int32))])) τ → Steps p.tables e below (s₁.setTop (entryFrame m #[(.int p0), (.int p1)] maxLocals)) τ := fun τ κ => c100 τ (by
        show Steps p.tables e below (T99.setTop (mkF m 170 #[.val (.int p0), .val (.int p1), .val (.ref b2), .val (.int jj), .val (.int (g1_106_t0 p1)), .val (.int (1793 : Int32)), .val (.int (10242 : Int32)), .val (.int (g2_129_t0 (g1_106_t0 p1) (1793 : Int32) (10242 : Int32))), .val (.int (g3_146_t0 jj (g2_129_t0 (g1_106_t0 p1) (1793 : Int32) (10242 : Int32))))] [(.int (s_none_61_t0 (g1_106_t0 p1) (0 : Int32) (0 : Int32)))])) _
        refine XS.iload X99.here hx rfl (hb hby at_170) rfl ?_
        show Steps p.tables e below (T99.setTop (mkF m 172 #[.val (.int p0), .val (.int p1), .val (.ref b2), .val (.int jj), .val (.int (g1_106_t0 p1)), .val (.int (1793 : Int32)), .val (.int (10242 : Int32)), .val (.int (g2_129_t0 (g1_106_t0 p1) (1793 : Int32) (10242 : Int32))), .val (.int (g3_146_t0 jj (g2_129_t0 (g1_106_t0 p1) (1793 : Int32) (10242 : Int32))))] [(.int (g3_146_t0 jj (g2_129_t0 (g1_106_t0 p1) (1793 : Int32) (10242 : Int32)))), (.int (s_none_61_t0 (g1_106_t0 p1) (0 : Int32) (0 : Int32)))])) _
        refine XS.icmpNo X99.here hx rfl (hb hby at_172) rfl (teq (own_l4 p1 jj hk)).2 ?_
        show Steps p.tables e below (T99.setTop (mkF m 175 #[.val (.int p0), .val (.int p1), .val (.ref b2), .val (.int jj), .val (.int (g1_106_t0 p1)), .val (.int (1793 : Int32)), .val (.int (10242 : Int32)), .val (.int (g2_129_t0 (g1_106_t0 p1) (1793 : Int32) (10242 : Int32))), .val (.int (g3_146_t0 jj (g2_129_t0 (g1_106_t0 p1) (1793 : Int32) (10242 : Int32))))] [])) _
        refine XS.iconst X99.here hx rfl (hb hby at_175) ?_
        show Steps p.tables e below (T99.setTop (mkF m 176 #[.val (.int p0), .val (.int p1), .val (.ref b2), .val (.int jj), .val (.int (g1_106_t0 p1)), .val (.int (1793 : Int32)), .val (.int (10242 : Int32)), .val (.int (g2_129_t0 (g1_106_t0 p1) (1793 : Int32) (10242 : Int32))), .val (.int (g3_146_t0 jj (g2_129_t0 (g1_106_t0 p1) (1793 : Int32) (10242 : Int32))))] [(.int (1 : Int32))])) _
        refine XS.goto X99.here hx rfl (pc0 := 176) (pc' := 180) rfl (hb hby at_176) (by decide) (by decide) ?_
        exact κ)
    obtain ⟨fs, hr, hrun, hended, hW, hsame⟩ := X99.leave (v := some (.int (1 : Int32))) (fun h => by rw [Bd.returns] at h; cases h)
    refine ⟨_, _, c101 _ (retN X99 hx (t := .boolean) Bd.returns (by simp) (hb hby at_180) hr), hrun, hended, _, _, rfl, ?_, ⟨_, rfl⟩, hW, hsame.mono (by decide) (by decide)⟩
    show Q_rm0 Z p0 p1 x1 x2 x3 x4 x5 x6 x7 x8 x9 x10 x11 x12 x13 x14 h0 n0 _ T99.heap _
    rw [e99]
    exact ⟨rfl, N99⟩
  · have c96 : ∀ τ, Steps p.tables e below (T86.setTop (mkF m 164 #[.val (.int p0), .val (.int p1), .val (.ref b2), .val (.int jj), .val (.int (g1_106_t0 p1)), .val (.int (1793 : Int32)), .val (.int (10242 : Int32)), .val (.int (g2_129_t0 (g1_106_t0 p1) (1793 : Int32) (10242 : Int32))), .val (.int (g3_146_t0 jj (g2_129_t0 (g1_106_t0 p1) (1793 : Int32) (10242 : Int32))))] [(.int jj), (.ref b2)])) τ → Steps p.tables e below (s₁.setTop (entryFrame m #[(.int p0), (.int p1)] maxLocals)) τ := fun τ κ => c94 τ (by
        show Steps p.tables e below (T86.setTop (mkF m 162 #[.val (.int p0), .val (.int p1), .val (.ref b2), .val (.int jj), .val (.int (g1_106_t0 p1)), .val (.int (1793 : Int32)), .val (.int (10242 : Int32)), .val (.int (g2_129_t0 (g1_106_t0 p1) (1793 : Int32) (10242 : Int32))), .val (.int (g3_146_t0 jj (g2_129_t0 (g1_106_t0 p1) (1793 : Int32) (10242 : Int32))))] [])) _
        refine XS.aloadN X86.here hx rfl (hb hby at_162) rfl rfl ?_
        show Steps p.tables e below (T86.setTop (mkF m 163 #[.val (.int p0), .val (.int p1), .val (.ref b2), .val (.int jj), .val (.int (g1_106_t0 p1)), .val (.int (1793 : Int32)), .val (.int (10242 : Int32)), .val (.int (g2_129_t0 (g1_106_t0 p1) (1793 : Int32) (10242 : Int32))), .val (.int (g3_146_t0 jj (g2_129_t0 (g1_106_t0 p1) (1793 : Int32) (10242 : Int32))))] [(.ref b2)])) _
        refine XS.iloadN X86.here hx rfl (hb hby at_163) rfl ?_
        exact κ)
    have c97 : ∀ τ, Steps p.tables e below (T86.setTop (mkF m 165 #[.val (.int p0), .val (.int p1), .val (.ref b2), .val (.int jj), .val (.int (g1_106_t0 p1)), .val (.int (1793 : Int32)), .val (.int (10242 : Int32)), .val (.int (g2_129_t0 (g1_106_t0 p1) (1793 : Int32) (10242 : Int32))), .val (.int (g3_146_t0 jj (g2_129_t0 (g1_106_t0 p1) (1793 : Int32) (10242 : Int32))))] [(.ref x6)])) τ → Steps p.tables e below (s₁.setTop (entryFrame m #[(.int p0), (.int p1)] maxLocals)) τ := fun τ κ => c96 τ (own_aaload X86 hx hZ e86 V86 (j := jj) hj14 (v := (.ref x6)) (by rw [hk]; rfl) (g := (mkF m 164 #[.val (.int p0), .val (.int p1), .val (.ref b2), .val (.int jj), .val (.int (g1_106_t0 p1)), .val (.int (1793 : Int32)), .val (.int (10242 : Int32)), .val (.int (g2_129_t0 (g1_106_t0 p1) (1793 : Int32) (10242 : Int32))), .val (.int (g3_146_t0 jj (g2_129_t0 (g1_106_t0 p1) (1793 : Int32) (10242 : Int32))))] [(.int jj), (.ref b2)])) rfl rfl (hb hby at_164) _ κ)
    have c98 : ∀ τ, Steps p.tables e below (T86.setTop (mkF m 167 #[.val (.int p0), .val (.int p1), .val (.ref b2), .val (.int jj), .val (.int (g1_106_t0 p1)), .val (.int (1793 : Int32)), .val (.int (10242 : Int32)), .val (.int (g2_129_t0 (g1_106_t0 p1) (1793 : Int32) (10242 : Int32))), .val (.int (g3_146_t0 jj (g2_129_t0 (g1_106_t0 p1) (1793 : Int32) (10242 : Int32))))] [(.int (g1_106_t0 p1)), (.ref x6)])) τ → Steps p.tables e below (s₁.setTop (entryFrame m #[(.int p0), (.int p1)] maxLocals)) τ := fun τ κ => c97 τ (by
        show Steps p.tables e below (T86.setTop (mkF m 165 #[.val (.int p0), .val (.int p1), .val (.ref b2), .val (.int jj), .val (.int (g1_106_t0 p1)), .val (.int (1793 : Int32)), .val (.int (10242 : Int32)), .val (.int (g2_129_t0 (g1_106_t0 p1) (1793 : Int32) (10242 : Int32))), .val (.int (g3_146_t0 jj (g2_129_t0 (g1_106_t0 p1) (1793 : Int32) (10242 : Int32))))] [(.ref x6)])) _
        refine XS.iload X86.here hx rfl (hb hby at_165) rfl ?_
        exact κ)
    obtain ⟨cq99, kq99, q99a, q99b, q99c⟩ := isOf hZ e86 (Ea6.ext f95.2)
    obtain ⟨_, _, ⟨T99, L99, k99, n99⟩, -, X99, ⟨Lc99, hQ99, l99, y99, z99⟩, st99⟩ := X86.virtualBack hx (y := (⟨"com/example/node_sieve/nodesieve/Axis", "selectsOnce", "(Z)Z"⟩ : MethodName)) (z := (⟨"com/example/node_sieve/nodesieve/Axis", "selectsOnce", "(Z)Z"⟩ : MethodName)) hown (mvT hZ (hw _ (List.mem_of_getElem? (i := 46) rfl))) (mvT hZ (hw _ (List.mem_of_getElem? (i := 47) rfl))) (notFace_of_selects (args := #[]) (mvT hZ (hw _ (List.mem_of_getElem? (i := 66) rfl)))) (mvT hZ (hw _ (List.mem_of_getElem? (i := 66) rfl))) (mvT hZ (hw _ (List.mem_of_getElem? (i := 48) rfl))) (by decide) (backOf (W := 0) (rm1_none l Z a0 hw [] x6 (g1_106_t0 p1) x1 x9 x10 x11 x2 x12 x14 h86 n0 Z86 (Sa1.ext f95.2) (Sa9.ext f95.2) (Sa10.ext f95.2) (Sa11.ext f95.2) (Sa2.ext f95.2) (Sa12.ext f95.2) (Sa14.ext f95.2) (ne_exa (Ea6) (Ea1) (by decide)) (ne_exa (Ea6) (Ea9) (by decide)) (ne_exa (Ea6) (Ea10) (by decide)) (ne_exa (Ea6) (Ea11) (by decide)) (ne_exa (Ea6) (Ea2) (by decide)) (ne_exa (Ea6) (Ea12) (by decide)) (ne_exa (Ea6) (Ea14) (by decide))) hZ (hw _ (List.mem_of_getElem? (i := 50) rfl)) (hw _ (List.mem_of_getElem? (i := 3) rfl)) (by decide) (by decide)) q99a q99c (g := (mkF m 167 #[.val (.int p0), .val (.int p1), .val (.ref b2), .val (.int jj), .val (.int (g1_106_t0 p1)), .val (.int (1793 : Int32)), .val (.int (10242 : Int32)), .val (.int (g2_129_t0 (g1_106_t0 p1) (1793 : Int32) (10242 : Int32))), .val (.int (g3_146_t0 jj (g2_129_t0 (g1_106_t0 p1) (1793 : Int32) (10242 : Int32))))] [(.int (g1_106_t0 p1)), (.ref x6)])) rfl (by rw [hml]; rfl) (Steps.refl _) (argsL := [(.int (g1_106_t0 p1))]) (rest := []) (lenOf pd_0 rfl) rfl (by show 2 * 0 + _ ≤ _; exact Nat.le_of_eq rfl) (hb hby at_167) (fun _ _ => ⟨rfl, e86, (by decide : 1 + 0 ≤ _), (by decide : 14 + 0 ≤ _)⟩)
    dsimp only [Pt.U, Pt.locs, Pt.cells, Pt.slots] at X99 l99 y99 z99 st99 hQ99
    rw [y99, z99] at X99
    obtain ⟨rfl, N99q, e99⟩ := hQ99
    have N99 : Fr n0 L99 := by rw [l99]; exact Fr.app N86 N99q
    replace X99 : Stand p l e _ s m _ below meth c T99 L99 1 14 := X99
    clear l99 y99 z99
    have c100 : ∀ τ, Steps p.tables e below (T99.setTop (mkF m 170 #[.val (.int p0), .val (.int p1), .val (.ref b2), .val (.int jj), .val (.int (g1_106_t0 p1)), .val (.int (1793 : Int32)), .val (.int (10242 : Int32)), .val (.int (g2_129_t0 (g1_106_t0 p1) (1793 : Int32) (10242 : Int32))), .val (.int (g3_146_t0 jj (g2_129_t0 (g1_106_t0 p1) (1793 : Int32) (10242 : Int32))))] [(.int (s_none_61_t0 (g1_106_t0 p1) (0 : Int32) (0 : Int32)))])) τ → Steps p.tables e below (s₁.setTop (entryFrame m #[(.int p0), (.int p1)] maxLocals)) τ := fun τ κ => c98 τ (st99.trans κ)
    have c101 : ∀ τ, Steps p.tables e below (T99.setTop (mkF m 180 #[.val (.int p0), .val (.int p1), .val (.ref b2), .val (.int jj), .val (.int (g1_106_t0 p1)), .val (.int (1793 : Int32)), .val (.int (10242 : Int32)), .val (.int (g2_129_t0 (g1_106_t0 p1) (1793 : Int32) (10242 : Int32))), .val (.int (g3_146_t0 jj (g2_129_t0 (g1_106_t0 p1) (1793 : Int32) (10242 : Int32))))] [(.int (1 : Int32))])) τ → Steps p.tables e below (s₁.setTop (entryFrame m #[(.int p0), (.int p1)] maxLocals)) τ := fun τ κ => c100 τ (by
        show Steps p.tables e below (T99.setTop (mkF m 170 #[.val (.int p0), .val (.int p1), .val (.ref b2), .val (.int jj), .val (.int (g1_106_t0 p1)), .val (.int (1793 : Int32)), .val (.int (10242 : Int32)), .val (.int (g2_129_t0 (g1_106_t0 p1) (1793 : Int32) (10242 : Int32))), .val (.int (g3_146_t0 jj (g2_129_t0 (g1_106_t0 p1) (1793 : Int32) (10242 : Int32))))] [(.int (s_none_61_t0 (g1_106_t0 p1) (0 : Int32) (0 : Int32)))])) _
        refine XS.iload X99.here hx rfl (hb hby at_170) rfl ?_
        show Steps p.tables e below (T99.setTop (mkF m 172 #[.val (.int p0), .val (.int p1), .val (.ref b2), .val (.int jj), .val (.int (g1_106_t0 p1)), .val (.int (1793 : Int32)), .val (.int (10242 : Int32)), .val (.int (g2_129_t0 (g1_106_t0 p1) (1793 : Int32) (10242 : Int32))), .val (.int (g3_146_t0 jj (g2_129_t0 (g1_106_t0 p1) (1793 : Int32) (10242 : Int32))))] [(.int (g3_146_t0 jj (g2_129_t0 (g1_106_t0 p1) (1793 : Int32) (10242 : Int32)))), (.int (s_none_61_t0 (g1_106_t0 p1) (0 : Int32) (0 : Int32)))])) _
        refine XS.icmpNo X99.here hx rfl (hb hby at_172) rfl (teq (own_l5 p1 jj hk)).2 ?_
        show Steps p.tables e below (T99.setTop (mkF m 175 #[.val (.int p0), .val (.int p1), .val (.ref b2), .val (.int jj), .val (.int (g1_106_t0 p1)), .val (.int (1793 : Int32)), .val (.int (10242 : Int32)), .val (.int (g2_129_t0 (g1_106_t0 p1) (1793 : Int32) (10242 : Int32))), .val (.int (g3_146_t0 jj (g2_129_t0 (g1_106_t0 p1) (1793 : Int32) (10242 : Int32))))] [])) _
        refine XS.iconst X99.here hx rfl (hb hby at_175) ?_
        show Steps p.tables e below (T99.setTop (mkF m 176 #[.val (.int p0), .val (.int p1), .val (.ref b2), .val (.int jj), .val (.int (g1_106_t0 p1)), .val (.int (1793 : Int32)), .val (.int (10242 : Int32)), .val (.int (g2_129_t0 (g1_106_t0 p1) (1793 : Int32) (10242 : Int32))), .val (.int (g3_146_t0 jj (g2_129_t0 (g1_106_t0 p1) (1793 : Int32) (10242 : Int32))))] [(.int (1 : Int32))])) _
        refine XS.goto X99.here hx rfl (pc0 := 176) (pc' := 180) rfl (hb hby at_176) (by decide) (by decide) ?_
        exact κ)
    obtain ⟨fs, hr, hrun, hended, hW, hsame⟩ := X99.leave (v := some (.int (1 : Int32))) (fun h => by rw [Bd.returns] at h; cases h)
    refine ⟨_, _, c101 _ (retN X99 hx (t := .boolean) Bd.returns (by simp) (hb hby at_180) hr), hrun, hended, _, _, rfl, ?_, ⟨_, rfl⟩, hW, hsame.mono (by decide) (by decide)⟩
    show Q_rm0 Z p0 p1 x1 x2 x3 x4 x5 x6 x7 x8 x9 x10 x11 x12 x13 x14 h0 n0 _ T99.heap _
    rw [e99]
    exact ⟨rfl, N99⟩
  · have c96 : ∀ τ, Steps p.tables e below (T86.setTop (mkF m 164 #[.val (.int p0), .val (.int p1), .val (.ref b2), .val (.int jj), .val (.int (g1_106_t0 p1)), .val (.int (1793 : Int32)), .val (.int (10242 : Int32)), .val (.int (g2_129_t0 (g1_106_t0 p1) (1793 : Int32) (10242 : Int32))), .val (.int (g3_146_t0 jj (g2_129_t0 (g1_106_t0 p1) (1793 : Int32) (10242 : Int32))))] [(.int jj), (.ref b2)])) τ → Steps p.tables e below (s₁.setTop (entryFrame m #[(.int p0), (.int p1)] maxLocals)) τ := fun τ κ => c94 τ (by
        show Steps p.tables e below (T86.setTop (mkF m 162 #[.val (.int p0), .val (.int p1), .val (.ref b2), .val (.int jj), .val (.int (g1_106_t0 p1)), .val (.int (1793 : Int32)), .val (.int (10242 : Int32)), .val (.int (g2_129_t0 (g1_106_t0 p1) (1793 : Int32) (10242 : Int32))), .val (.int (g3_146_t0 jj (g2_129_t0 (g1_106_t0 p1) (1793 : Int32) (10242 : Int32))))] [])) _
        refine XS.aloadN X86.here hx rfl (hb hby at_162) rfl rfl ?_
        show Steps p.tables e below (T86.setTop (mkF m 163 #[.val (.int p0), .val (.int p1), .val (.ref b2), .val (.int jj), .val (.int (g1_106_t0 p1)), .val (.int (1793 : Int32)), .val (.int (10242 : Int32)), .val (.int (g2_129_t0 (g1_106_t0 p1) (1793 : Int32) (10242 : Int32))), .val (.int (g3_146_t0 jj (g2_129_t0 (g1_106_t0 p1) (1793 : Int32) (10242 : Int32))))] [(.ref b2)])) _
        refine XS.iloadN X86.here hx rfl (hb hby at_163) rfl ?_
        exact κ)
    have c97 : ∀ τ, Steps p.tables e below (T86.setTop (mkF m 165 #[.val (.int p0), .val (.int p1), .val (.ref b2), .val (.int jj), .val (.int (g1_106_t0 p1)), .val (.int (1793 : Int32)), .val (.int (10242 : Int32)), .val (.int (g2_129_t0 (g1_106_t0 p1) (1793 : Int32) (10242 : Int32))), .val (.int (g3_146_t0 jj (g2_129_t0 (g1_106_t0 p1) (1793 : Int32) (10242 : Int32))))] [(.ref x7)])) τ → Steps p.tables e below (s₁.setTop (entryFrame m #[(.int p0), (.int p1)] maxLocals)) τ := fun τ κ => c96 τ (own_aaload X86 hx hZ e86 V86 (j := jj) hj14 (v := (.ref x7)) (by rw [hk]; rfl) (g := (mkF m 164 #[.val (.int p0), .val (.int p1), .val (.ref b2), .val (.int jj), .val (.int (g1_106_t0 p1)), .val (.int (1793 : Int32)), .val (.int (10242 : Int32)), .val (.int (g2_129_t0 (g1_106_t0 p1) (1793 : Int32) (10242 : Int32))), .val (.int (g3_146_t0 jj (g2_129_t0 (g1_106_t0 p1) (1793 : Int32) (10242 : Int32))))] [(.int jj), (.ref b2)])) rfl rfl (hb hby at_164) _ κ)
    have c98 : ∀ τ, Steps p.tables e below (T86.setTop (mkF m 167 #[.val (.int p0), .val (.int p1), .val (.ref b2), .val (.int jj), .val (.int (g1_106_t0 p1)), .val (.int (1793 : Int32)), .val (.int (10242 : Int32)), .val (.int (g2_129_t0 (g1_106_t0 p1) (1793 : Int32) (10242 : Int32))), .val (.int (g3_146_t0 jj (g2_129_t0 (g1_106_t0 p1) (1793 : Int32) (10242 : Int32))))] [(.int (g1_106_t0 p1)), (.ref x7)])) τ → Steps p.tables e below (s₁.setTop (entryFrame m #[(.int p0), (.int p1)] maxLocals)) τ := fun τ κ => c97 τ (by
        show Steps p.tables e below (T86.setTop (mkF m 165 #[.val (.int p0), .val (.int p1), .val (.ref b2), .val (.int jj), .val (.int (g1_106_t0 p1)), .val (.int (1793 : Int32)), .val (.int (10242 : Int32)), .val (.int (g2_129_t0 (g1_106_t0 p1) (1793 : Int32) (10242 : Int32))), .val (.int (g3_146_t0 jj (g2_129_t0 (g1_106_t0 p1) (1793 : Int32) (10242 : Int32))))] [(.ref x7)])) _
        refine XS.iload X86.here hx rfl (hb hby at_165) rfl ?_
        exact κ)
    obtain ⟨cq99, kq99, q99a, q99b, q99c⟩ := isOf hZ e86 (Ea7.ext f95.2)
    obtain ⟨_, _, ⟨T99, L99, k99, n99⟩, -, X99, ⟨Lc99, hQ99, l99, y99, z99⟩, st99⟩ := X86.virtualBack hx (y := (⟨"com/example/node_sieve/nodesieve/Axis", "selectsOnce", "(Z)Z"⟩ : MethodName)) (z := (⟨"com/example/node_sieve/nodesieve/Axis", "selectsOnce", "(Z)Z"⟩ : MethodName)) hown (mvT hZ (hw _ (List.mem_of_getElem? (i := 46) rfl))) (mvT hZ (hw _ (List.mem_of_getElem? (i := 47) rfl))) (notFace_of_selects (args := #[]) (mvT hZ (hw _ (List.mem_of_getElem? (i := 62) rfl)))) (mvT hZ (hw _ (List.mem_of_getElem? (i := 62) rfl))) (mvT hZ (hw _ (List.mem_of_getElem? (i := 48) rfl))) (by decide) (backOf (W := 0) (rm1_none l Z a0 hw [] x7 (g1_106_t0 p1) x1 x9 x10 x11 x2 x12 x14 h86 n0 Z86 (Sa1.ext f95.2) (Sa9.ext f95.2) (Sa10.ext f95.2) (Sa11.ext f95.2) (Sa2.ext f95.2) (Sa12.ext f95.2) (Sa14.ext f95.2) (ne_exa (Ea7) (Ea1) (by decide)) (ne_exa (Ea7) (Ea9) (by decide)) (ne_exa (Ea7) (Ea10) (by decide)) (ne_exa (Ea7) (Ea11) (by decide)) (ne_exa (Ea7) (Ea2) (by decide)) (ne_exa (Ea7) (Ea12) (by decide)) (ne_exa (Ea7) (Ea14) (by decide))) hZ (hw _ (List.mem_of_getElem? (i := 50) rfl)) (hw _ (List.mem_of_getElem? (i := 3) rfl)) (by decide) (by decide)) q99a q99c (g := (mkF m 167 #[.val (.int p0), .val (.int p1), .val (.ref b2), .val (.int jj), .val (.int (g1_106_t0 p1)), .val (.int (1793 : Int32)), .val (.int (10242 : Int32)), .val (.int (g2_129_t0 (g1_106_t0 p1) (1793 : Int32) (10242 : Int32))), .val (.int (g3_146_t0 jj (g2_129_t0 (g1_106_t0 p1) (1793 : Int32) (10242 : Int32))))] [(.int (g1_106_t0 p1)), (.ref x7)])) rfl (by rw [hml]; rfl) (Steps.refl _) (argsL := [(.int (g1_106_t0 p1))]) (rest := []) (lenOf pd_0 rfl) rfl (by show 2 * 0 + _ ≤ _; exact Nat.le_of_eq rfl) (hb hby at_167) (fun _ _ => ⟨rfl, e86, (by decide : 1 + 0 ≤ _), (by decide : 14 + 0 ≤ _)⟩)
    dsimp only [Pt.U, Pt.locs, Pt.cells, Pt.slots] at X99 l99 y99 z99 st99 hQ99
    rw [y99, z99] at X99
    obtain ⟨rfl, N99q, e99⟩ := hQ99
    have N99 : Fr n0 L99 := by rw [l99]; exact Fr.app N86 N99q
    replace X99 : Stand p l e _ s m _ below meth c T99 L99 1 14 := X99
    clear l99 y99 z99
    have c100 : ∀ τ, Steps p.tables e below (T99.setTop (mkF m 170 #[.val (.int p0), .val (.int p1), .val (.ref b2), .val (.int jj), .val (.int (g1_106_t0 p1)), .val (.int (1793 : Int32)), .val (.int (10242 : Int32)), .val (.int (g2_129_t0 (g1_106_t0 p1) (1793 : Int32) (10242 : Int32))), .val (.int (g3_146_t0 jj (g2_129_t0 (g1_106_t0 p1) (1793 : Int32) (10242 : Int32))))] [(.int (s_none_61_t0 (g1_106_t0 p1) (0 : Int32) (0 : Int32)))])) τ → Steps p.tables e below (s₁.setTop (entryFrame m #[(.int p0), (.int p1)] maxLocals)) τ := fun τ κ => c98 τ (st99.trans κ)
    have c101 : ∀ τ, Steps p.tables e below (T99.setTop (mkF m 180 #[.val (.int p0), .val (.int p1), .val (.ref b2), .val (.int jj), .val (.int (g1_106_t0 p1)), .val (.int (1793 : Int32)), .val (.int (10242 : Int32)), .val (.int (g2_129_t0 (g1_106_t0 p1) (1793 : Int32) (10242 : Int32))), .val (.int (g3_146_t0 jj (g2_129_t0 (g1_106_t0 p1) (1793 : Int32) (10242 : Int32))))] [(.int (1 : Int32))])) τ → Steps p.tables e below (s₁.setTop (entryFrame m #[(.int p0), (.int p1)] maxLocals)) τ := fun τ κ => c100 τ (by
        show Steps p.tables e below (T99.setTop (mkF m 170 #[.val (.int p0), .val (.int p1), .val (.ref b2), .val (.int jj), .val (.int (g1_106_t0 p1)), .val (.int (1793 : Int32)), .val (.int (10242 : Int32)), .val (.int (g2_129_t0 (g1_106_t0 p1) (1793 : Int32) (10242 : Int32))), .val (.int (g3_146_t0 jj (g2_129_t0 (g1_106_t0 p1) (1793 : Int32) (10242 : Int32))))] [(.int (s_none_61_t0 (g1_106_t0 p1) (0 : Int32) (0 : Int32)))])) _
        refine XS.iload X99.here hx rfl (hb hby at_170) rfl ?_
        show Steps p.tables e below (T99.setTop (mkF m 172 #[.val (.int p0), .val (.int p1), .val (.ref b2), .val (.int jj), .val (.int (g1_106_t0 p1)), .val (.int (1793 : Int32)), .val (.int (10242 : Int32)), .val (.int (g2_129_t0 (g1_106_t0 p1) (1793 : Int32) (10242 : Int32))), .val (.int (g3_146_t0 jj (g2_129_t0 (g1_106_t0 p1) (1793 : Int32) (10242 : Int32))))] [(.int (g3_146_t0 jj (g2_129_t0 (g1_106_t0 p1) (1793 : Int32) (10242 : Int32)))), (.int (s_none_61_t0 (g1_106_t0 p1) (0 : Int32) (0 : Int32)))])) _
        refine XS.icmpNo X99.here hx rfl (hb hby at_172) rfl (teq (own_l6 p1 jj hk)).2 ?_
        show Steps p.tables e below (T99.setTop (mkF m 175 #[.val (.int p0), .val (.int p1), .val (.ref b2), .val (.int jj), .val (.int (g1_106_t0 p1)), .val (.int (1793 : Int32)), .val (.int (10242 : Int32)), .val (.int (g2_129_t0 (g1_106_t0 p1) (1793 : Int32) (10242 : Int32))), .val (.int (g3_146_t0 jj (g2_129_t0 (g1_106_t0 p1) (1793 : Int32) (10242 : Int32))))] [])) _
        refine XS.iconst X99.here hx rfl (hb hby at_175) ?_
        show Steps p.tables e below (T99.setTop (mkF m 176 #[.val (.int p0), .val (.int p1), .val (.ref b2), .val (.int jj), .val (.int (g1_106_t0 p1)), .val (.int (1793 : Int32)), .val (.int (10242 : Int32)), .val (.int (g2_129_t0 (g1_106_t0 p1) (1793 : Int32) (10242 : Int32))), .val (.int (g3_146_t0 jj (g2_129_t0 (g1_106_t0 p1) (1793 : Int32) (10242 : Int32))))] [(.int (1 : Int32))])) _
        refine XS.goto X99.here hx rfl (pc0 := 176) (pc' := 180) rfl (hb hby at_176) (by decide) (by decide) ?_
        exact κ)
    obtain ⟨fs, hr, hrun, hended, hW, hsame⟩ := X99.leave (v := some (.int (1 : Int32))) (fun h => by rw [Bd.returns] at h; cases h)
    refine ⟨_, _, c101 _ (retN X99 hx (t := .boolean) Bd.returns (by simp) (hb hby at_180) hr), hrun, hended, _, _, rfl, ?_, ⟨_, rfl⟩, hW, hsame.mono (by decide) (by decide)⟩
    show Q_rm0 Z p0 p1 x1 x2 x3 x4 x5 x6 x7 x8 x9 x10 x11 x12 x13 x14 h0 n0 _ T99.heap _
    rw [e99]
    exact ⟨rfl, N99⟩
  · have c96 : ∀ τ, Steps p.tables e below (T86.setTop (mkF m 164 #[.val (.int p0), .val (.int p1), .val (.ref b2), .val (.int jj), .val (.int (g1_106_t0 p1)), .val (.int (1793 : Int32)), .val (.int (10242 : Int32)), .val (.int (g2_129_t0 (g1_106_t0 p1) (1793 : Int32) (10242 : Int32))), .val (.int (g3_146_t0 jj (g2_129_t0 (g1_106_t0 p1) (1793 : Int32) (10242 : Int32))))] [(.int jj), (.ref b2)])) τ → Steps p.tables e below (s₁.setTop (entryFrame m #[(.int p0), (.int p1)] maxLocals)) τ := fun τ κ => c94 τ (by
        show Steps p.tables e below (T86.setTop (mkF m 162 #[.val (.int p0), .val (.int p1), .val (.ref b2), .val (.int jj), .val (.int (g1_106_t0 p1)), .val (.int (1793 : Int32)), .val (.int (10242 : Int32)), .val (.int (g2_129_t0 (g1_106_t0 p1) (1793 : Int32) (10242 : Int32))), .val (.int (g3_146_t0 jj (g2_129_t0 (g1_106_t0 p1) (1793 : Int32) (10242 : Int32))))] [])) _
        refine XS.aloadN X86.here hx rfl (hb hby at_162) rfl rfl ?_
        show Steps p.tables e below (T86.setTop (mkF m 163 #[.val (.int p0), .val (.int p1), .val (.ref b2), .val (.int jj), .val (.int (g1_106_t0 p1)), .val (.int (1793 : Int32)), .val (.int (10242 : Int32)), .val (.int (g2_129_t0 (g1_106_t0 p1) (1793 : Int32) (10242 : Int32))), .val (.int (g3_146_t0 jj (g2_129_t0 (g1_106_t0 p1) (1793 : Int32) (10242 : Int32))))] [(.ref b2)])) _
        refine XS.iloadN X86.here hx rfl (hb hby at_163) rfl ?_
        exact κ)
    have c97 : ∀ τ, Steps p.tables e below (T86.setTop (mkF m 165 #[.val (.int p0), .val (.int p1), .val (.ref b2), .val (.int jj), .val (.int (g1_106_t0 p1)), .val (.int (1793 : Int32)), .val (.int (10242 : Int32)), .val (.int (g2_129_t0 (g1_106_t0 p1) (1793 : Int32) (10242 : Int32))), .val (.int (g3_146_t0 jj (g2_129_t0 (g1_106_t0 p1) (1793 : Int32) (10242 : Int32))))] [(.ref x8)])) τ → Steps p.tables e below (s₁.setTop (entryFrame m #[(.int p0), (.int p1)] maxLocals)) τ := fun τ κ => c96 τ (own_aaload X86 hx hZ e86 V86 (j := jj) hj14 (v := (.ref x8)) (by rw [hk]; rfl) (g := (mkF m 164 #[.val (.int p0), .val (.int p1), .val (.ref b2), .val (.int jj), .val (.int (g1_106_t0 p1)), .val (.int (1793 : Int32)), .val (.int (10242 : Int32)), .val (.int (g2_129_t0 (g1_106_t0 p1) (1793 : Int32) (10242 : Int32))), .val (.int (g3_146_t0 jj (g2_129_t0 (g1_106_t0 p1) (1793 : Int32) (10242 : Int32))))] [(.int jj), (.ref b2)])) rfl rfl (hb hby at_164) _ κ)
    have c98 : ∀ τ, Steps p.tables e below (T86.setTop (mkF m 167 #[.val (.int p0), .val (.int p1), .val (.ref b2), .val (.int jj), .val (.int (g1_106_t0 p1)), .val (.int (1793 : Int32)), .val (.int (10242 : Int32)), .val (.int (g2_129_t0 (g1_106_t0 p1) (1793 : Int32) (10242 : Int32))), .val (.int (g3_146_t0 jj (g2_129_t0 (g1_106_t0 p1) (1793 : Int32) (10242 : Int32))))] [(.int (g1_106_t0 p1)), (.ref x8)])) τ → Steps p.tables e below (s₁.setTop (entryFrame m #[(.int p0), (.int p1)] maxLocals)) τ := fun τ κ => c97 τ (by
        show Steps p.tables e below (T86.setTop (mkF m 165 #[.val (.int p0), .val (.int p1), .val (.ref b2), .val (.int jj), .val (.int (g1_106_t0 p1)), .val (.int (1793 : Int32)), .val (.int (10242 : Int32)), .val (.int (g2_129_t0 (g1_106_t0 p1) (1793 : Int32) (10242 : Int32))), .val (.int (g3_146_t0 jj (g2_129_t0 (g1_106_t0 p1) (1793 : Int32) (10242 : Int32))))] [(.ref x8)])) _
        refine XS.iload X86.here hx rfl (hb hby at_165) rfl ?_
        exact κ)
    obtain ⟨cq99, kq99, q99a, q99b, q99c⟩ := isOf hZ e86 (Ea8.ext f95.2)
    obtain ⟨_, _, ⟨T99, L99, k99, n99⟩, -, X99, ⟨Lc99, hQ99, l99, y99, z99⟩, st99⟩ := X86.virtualBack hx (y := (⟨"com/example/node_sieve/nodesieve/Axis", "selectsOnce", "(Z)Z"⟩ : MethodName)) (z := (⟨"com/example/node_sieve/nodesieve/Axis", "selectsOnce", "(Z)Z"⟩ : MethodName)) hown (mvT hZ (hw _ (List.mem_of_getElem? (i := 46) rfl))) (mvT hZ (hw _ (List.mem_of_getElem? (i := 47) rfl))) (notFace_of_selects (args := #[]) (mvT hZ (hw _ (List.mem_of_getElem? (i := 64) rfl)))) (mvT hZ (hw _ (List.mem_of_getElem? (i := 64) rfl))) (mvT hZ (hw _ (List.mem_of_getElem? (i := 48) rfl))) (by decide) (backOf (W := 0) (rm1_none l Z a0 hw [] x8 (g1_106_t0 p1) x1 x9 x10 x11 x2 x12 x14 h86 n0 Z86 (Sa1.ext f95.2) (Sa9.ext f95.2) (Sa10.ext f95.2) (Sa11.ext f95.2) (Sa2.ext f95.2) (Sa12.ext f95.2) (Sa14.ext f95.2) (ne_exa (Ea8) (Ea1) (by decide)) (ne_exa (Ea8) (Ea9) (by decide)) (ne_exa (Ea8) (Ea10) (by decide)) (ne_exa (Ea8) (Ea11) (by decide)) (ne_exa (Ea8) (Ea2) (by decide)) (ne_exa (Ea8) (Ea12) (by decide)) (ne_exa (Ea8) (Ea14) (by decide))) hZ (hw _ (List.mem_of_getElem? (i := 50) rfl)) (hw _ (List.mem_of_getElem? (i := 3) rfl)) (by decide) (by decide)) q99a q99c (g := (mkF m 167 #[.val (.int p0), .val (.int p1), .val (.ref b2), .val (.int jj), .val (.int (g1_106_t0 p1)), .val (.int (1793 : Int32)), .val (.int (10242 : Int32)), .val (.int (g2_129_t0 (g1_106_t0 p1) (1793 : Int32) (10242 : Int32))), .val (.int (g3_146_t0 jj (g2_129_t0 (g1_106_t0 p1) (1793 : Int32) (10242 : Int32))))] [(.int (g1_106_t0 p1)), (.ref x8)])) rfl (by rw [hml]; rfl) (Steps.refl _) (argsL := [(.int (g1_106_t0 p1))]) (rest := []) (lenOf pd_0 rfl) rfl (by show 2 * 0 + _ ≤ _; exact Nat.le_of_eq rfl) (hb hby at_167) (fun _ _ => ⟨rfl, e86, (by decide : 1 + 0 ≤ _), (by decide : 14 + 0 ≤ _)⟩)
    dsimp only [Pt.U, Pt.locs, Pt.cells, Pt.slots] at X99 l99 y99 z99 st99 hQ99
    rw [y99, z99] at X99
    obtain ⟨rfl, N99q, e99⟩ := hQ99
    have N99 : Fr n0 L99 := by rw [l99]; exact Fr.app N86 N99q
    replace X99 : Stand p l e _ s m _ below meth c T99 L99 1 14 := X99
    clear l99 y99 z99
    have c100 : ∀ τ, Steps p.tables e below (T99.setTop (mkF m 170 #[.val (.int p0), .val (.int p1), .val (.ref b2), .val (.int jj), .val (.int (g1_106_t0 p1)), .val (.int (1793 : Int32)), .val (.int (10242 : Int32)), .val (.int (g2_129_t0 (g1_106_t0 p1) (1793 : Int32) (10242 : Int32))), .val (.int (g3_146_t0 jj (g2_129_t0 (g1_106_t0 p1) (1793 : Int32) (10242 : Int32))))] [(.int (s_none_61_t0 (g1_106_t0 p1) (0 : Int32) (0 : Int32)))])) τ → Steps p.tables e below (s₁.setTop (entryFrame m #[(.int p0), (.int p1)] maxLocals)) τ := fun τ κ => c98 τ (st99.trans κ)
    have c101 : ∀ τ, Steps p.tables e below (T99.setTop (mkF m 180 #[.val (.int p0), .val (.int p1), .val (.ref b2), .val (.int jj), .val (.int (g1_106_t0 p1)), .val (.int (1793 : Int32)), .val (.int (10242 : Int32)), .val (.int (g2_129_t0 (g1_106_t0 p1) (1793 : Int32) (10242 : Int32))), .val (.int (g3_146_t0 jj (g2_129_t0 (g1_106_t0 p1) (1793 : Int32) (10242 : Int32))))] [(.int (1 : Int32))])) τ → Steps p.tables e below (s₁.setTop (entryFrame m #[(.int p0), (.int p1)] maxLocals)) τ := fun τ κ => c100 τ (by
        show Steps p.tables e below (T99.setTop (mkF m 170 #[.val (.int p0), .val (.int p1), .val (.ref b2), .val (.int jj), .val (.int (g1_106_t0 p1)), .val (.int (1793 : Int32)), .val (.int (10242 : Int32)), .val (.int (g2_129_t0 (g1_106_t0 p1) (1793 : Int32) (10242 : Int32))), .val (.int (g3_146_t0 jj (g2_129_t0 (g1_106_t0 p1) (1793 : Int32) (10242 : Int32))))] [(.int (s_none_61_t0 (g1_106_t0 p1) (0 : Int32) (0 : Int32)))])) _
        refine XS.iload X99.here hx rfl (hb hby at_170) rfl ?_
        show Steps p.tables e below (T99.setTop (mkF m 172 #[.val (.int p0), .val (.int p1), .val (.ref b2), .val (.int jj), .val (.int (g1_106_t0 p1)), .val (.int (1793 : Int32)), .val (.int (10242 : Int32)), .val (.int (g2_129_t0 (g1_106_t0 p1) (1793 : Int32) (10242 : Int32))), .val (.int (g3_146_t0 jj (g2_129_t0 (g1_106_t0 p1) (1793 : Int32) (10242 : Int32))))] [(.int (g3_146_t0 jj (g2_129_t0 (g1_106_t0 p1) (1793 : Int32) (10242 : Int32)))), (.int (s_none_61_t0 (g1_106_t0 p1) (0 : Int32) (0 : Int32)))])) _
        refine XS.icmpNo X99.here hx rfl (hb hby at_172) rfl (teq (own_l7 p1 jj hk)).2 ?_
        show Steps p.tables e below (T99.setTop (mkF m 175 #[.val (.int p0), .val (.int p1), .val (.ref b2), .val (.int jj), .val (.int (g1_106_t0 p1)), .val (.int (1793 : Int32)), .val (.int (10242 : Int32)), .val (.int (g2_129_t0 (g1_106_t0 p1) (1793 : Int32) (10242 : Int32))), .val (.int (g3_146_t0 jj (g2_129_t0 (g1_106_t0 p1) (1793 : Int32) (10242 : Int32))))] [])) _
        refine XS.iconst X99.here hx rfl (hb hby at_175) ?_
        show Steps p.tables e below (T99.setTop (mkF m 176 #[.val (.int p0), .val (.int p1), .val (.ref b2), .val (.int jj), .val (.int (g1_106_t0 p1)), .val (.int (1793 : Int32)), .val (.int (10242 : Int32)), .val (.int (g2_129_t0 (g1_106_t0 p1) (1793 : Int32) (10242 : Int32))), .val (.int (g3_146_t0 jj (g2_129_t0 (g1_106_t0 p1) (1793 : Int32) (10242 : Int32))))] [(.int (1 : Int32))])) _
        refine XS.goto X99.here hx rfl (pc0 := 176) (pc' := 180) rfl (hb hby at_176) (by decide) (by decide) ?_
        exact κ)
    obtain ⟨fs, hr, hrun, hended, hW, hsame⟩ := X99.leave (v := some (.int (1 : Int32))) (fun h => by rw [Bd.returns] at h; cases h)
    refine ⟨_, _, c101 _ (retN X99 hx (t := .boolean) Bd.returns (by simp) (hb hby at_180) hr), hrun, hended, _, _, rfl, ?_, ⟨_, rfl⟩, hW, hsame.mono (by decide) (by decide)⟩
    show Q_rm0 Z p0 p1 x1 x2 x3 x4 x5 x6 x7 x8 x9 x10 x11 x12 x13 x14 h0 n0 _ T99.heap _
    rw [e99]
    exact ⟨rfl, N99⟩
  · have c96 : ∀ τ, Steps p.tables e below (T86.setTop (mkF m 164 #[.val (.int p0), .val (.int p1), .val (.ref b2), .val (.int jj), .val (.int (g1_106_t0 p1)), .val (.int (1793 : Int32)), .val (.int (10242 : Int32)), .val (.int (g2_129_t0 (g1_106_t0 p1) (1793 : Int32) (10242 : Int32))), .val (.int (g3_146_t0 jj (g2_129_t0 (g1_106_t0 p1) (1793 : Int32) (10242 : Int32))))] [(.int jj), (.ref b2)])) τ → Steps p.tables e below (s₁.setTop (entryFrame m #[(.int p0), (.int p1)] maxLocals)) τ := fun τ κ => c94 τ (by
        show Steps p.tables e below (T86.setTop (mkF m 162 #[.val (.int p0), .val (.int p1), .val (.ref b2), .val (.int jj), .val (.int (g1_106_t0 p1)), .val (.int (1793 : Int32)), .val (.int (10242 : Int32)), .val (.int (g2_129_t0 (g1_106_t0 p1) (1793 : Int32) (10242 : Int32))), .val (.int (g3_146_t0 jj (g2_129_t0 (g1_106_t0 p1) (1793 : Int32) (10242 : Int32))))] [])) _
        refine XS.aloadN X86.here hx rfl (hb hby at_162) rfl rfl ?_
        show Steps p.tables e below (T86.setTop (mkF m 163 #[.val (.int p0), .val (.int p1), .val (.ref b2), .val (.int jj), .val (.int (g1_106_t0 p1)), .val (.int (1793 : Int32)), .val (.int (10242 : Int32)), .val (.int (g2_129_t0 (g1_106_t0 p1) (1793 : Int32) (10242 : Int32))), .val (.int (g3_146_t0 jj (g2_129_t0 (g1_106_t0 p1) (1793 : Int32) (10242 : Int32))))] [(.ref b2)])) _
        refine XS.iloadN X86.here hx rfl (hb hby at_163) rfl ?_
        exact κ)
    have c97 : ∀ τ, Steps p.tables e below (T86.setTop (mkF m 165 #[.val (.int p0), .val (.int p1), .val (.ref b2), .val (.int jj), .val (.int (g1_106_t0 p1)), .val (.int (1793 : Int32)), .val (.int (10242 : Int32)), .val (.int (g2_129_t0 (g1_106_t0 p1) (1793 : Int32) (10242 : Int32))), .val (.int (g3_146_t0 jj (g2_129_t0 (g1_106_t0 p1) (1793 : Int32) (10242 : Int32))))] [(.ref x9)])) τ → Steps p.tables e below (s₁.setTop (entryFrame m #[(.int p0), (.int p1)] maxLocals)) τ := fun τ κ => c96 τ (own_aaload X86 hx hZ e86 V86 (j := jj) hj14 (v := (.ref x9)) (by rw [hk]; rfl) (g := (mkF m 164 #[.val (.int p0), .val (.int p1), .val (.ref b2), .val (.int jj), .val (.int (g1_106_t0 p1)), .val (.int (1793 : Int32)), .val (.int (10242 : Int32)), .val (.int (g2_129_t0 (g1_106_t0 p1) (1793 : Int32) (10242 : Int32))), .val (.int (g3_146_t0 jj (g2_129_t0 (g1_106_t0 p1) (1793 : Int32) (10242 : Int32))))] [(.int jj), (.ref b2)])) rfl rfl (hb hby at_164) _ κ)
    have c98 : ∀ τ, Steps p.tables e below (T86.setTop (mkF m 167 #[.val (.int p0), .val (.int p1), .val (.ref b2), .val (.int jj), .val (.int (g1_106_t0 p1)), .val (.int (1793 : Int32)), .val (.int (10242 : Int32)), .val (.int (g2_129_t0 (g1_106_t0 p1) (1793 : Int32) (10242 : Int32))), .val (.int (g3_146_t0 jj (g2_129_t0 (g1_106_t0 p1) (1793 : Int32) (10242 : Int32))))] [(.int (g1_106_t0 p1)), (.ref x9)])) τ → Steps p.tables e below (s₁.setTop (entryFrame m #[(.int p0), (.int p1)] maxLocals)) τ := fun τ κ => c97 τ (by
        show Steps p.tables e below (T86.setTop (mkF m 165 #[.val (.int p0), .val (.int p1), .val (.ref b2), .val (.int jj), .val (.int (g1_106_t0 p1)), .val (.int (1793 : Int32)), .val (.int (10242 : Int32)), .val (.int (g2_129_t0 (g1_106_t0 p1) (1793 : Int32) (10242 : Int32))), .val (.int (g3_146_t0 jj (g2_129_t0 (g1_106_t0 p1) (1793 : Int32) (10242 : Int32))))] [(.ref x9)])) _
        refine XS.iload X86.here hx rfl (hb hby at_165) rfl ?_
        exact κ)
    obtain ⟨cq99, kq99, q99a, q99b, q99c⟩ := isOf hZ e86 (Ea9.ext f95.2)
    obtain ⟨_, _, ⟨T99, L99, k99, n99⟩, -, X99, ⟨Lc99, hQ99, l99, y99, z99⟩, st99⟩ := X86.virtualBack hx (y := (⟨"com/example/node_sieve/nodesieve/Axis", "selectsOnce", "(Z)Z"⟩ : MethodName)) (z := (⟨"com/example/node_sieve/nodesieve/Axis", "selectsOnce", "(Z)Z"⟩ : MethodName)) hown (mvT hZ (hw _ (List.mem_of_getElem? (i := 46) rfl))) (mvT hZ (hw _ (List.mem_of_getElem? (i := 47) rfl))) (notFace_of_selects (args := #[]) (mvT hZ (hw _ (List.mem_of_getElem? (i := 59) rfl)))) (mvT hZ (hw _ (List.mem_of_getElem? (i := 59) rfl))) (mvT hZ (hw _ (List.mem_of_getElem? (i := 48) rfl))) (by decide) (backOf (W := 0) (rm1_ATTRIBUTE l Z a0 hw [] x9 (g1_106_t0 p1) x1 x10 x11 x2 x12 x14 h86 n0 Z86 (Sa1.ext f95.2) (Sa9.ext f95.2) (Sa10.ext f95.2) (Sa11.ext f95.2) (Sa2.ext f95.2) (Sa12.ext f95.2) (Sa14.ext f95.2) (ne_exa (Ea9) (Ea1) (by decide)) (ne_exa (Ea9) (Ea10) (by decide)) (ne_exa (Ea9) (Ea11) (by decide)) (ne_exa (Ea9) (Ea2) (by decide)) (ne_exa (Ea9) (Ea12) (by decide)) (ne_exa (Ea9) (Ea14) (by decide))) hZ (hw _ (List.mem_of_getElem? (i := 50) rfl)) (hw _ (List.mem_of_getElem? (i := 3) rfl)) (by decide) (by decide)) q99a q99c (g := (mkF m 167 #[.val (.int p0), .val (.int p1), .val (.ref b2), .val (.int jj), .val (.int (g1_106_t0 p1)), .val (.int (1793 : Int32)), .val (.int (10242 : Int32)), .val (.int (g2_129_t0 (g1_106_t0 p1) (1793 : Int32) (10242 : Int32))), .val (.int (g3_146_t0 jj (g2_129_t0 (g1_106_t0 p1) (1793 : Int32) (10242 : Int32))))] [(.int (g1_106_t0 p1)), (.ref x9)])) rfl (by rw [hml]; rfl) (Steps.refl _) (argsL := [(.int (g1_106_t0 p1))]) (rest := []) (lenOf pd_0 rfl) rfl (by show 2 * 0 + _ ≤ _; exact Nat.le_of_eq rfl) (hb hby at_167) (fun _ _ => ⟨rfl, e86, (by decide : 1 + 0 ≤ _), (by decide : 14 + 0 ≤ _)⟩)
    dsimp only [Pt.U, Pt.locs, Pt.cells, Pt.slots] at X99 l99 y99 z99 st99 hQ99
    rw [y99, z99] at X99
    obtain ⟨rfl, N99q, e99⟩ := hQ99
    have N99 : Fr n0 L99 := by rw [l99]; exact Fr.app N86 N99q
    replace X99 : Stand p l e _ s m _ below meth c T99 L99 1 14 := X99
    clear l99 y99 z99
    have c100 : ∀ τ, Steps p.tables e below (T99.setTop (mkF m 170 #[.val (.int p0), .val (.int p1), .val (.ref b2), .val (.int jj), .val (.int (g1_106_t0 p1)), .val (.int (1793 : Int32)), .val (.int (10242 : Int32)), .val (.int (g2_129_t0 (g1_106_t0 p1) (1793 : Int32) (10242 : Int32))), .val (.int (g3_146_t0 jj (g2_129_t0 (g1_106_t0 p1) (1793 : Int32) (10242 : Int32))))] [(.int (s_ATTRIBUTE_61_t0 (g1_106_t0 p1) (1 : Int32) (0 : Int32)))])) τ → Steps p.tables e below (s₁.setTop (entryFrame m #[(.int p0), (.int p1)] maxLocals)) τ := fun τ κ => c98 τ (st99.trans κ)
    have c101 : ∀ τ, Steps p.tables e below (T99.setTop (mkF m 180 #[.val (.int p0), .val (.int p1), .val (.ref b2), .val (.int jj), .val (.int (g1_106_t0 p1)), .val (.int (1793 : Int32)), .val (.int (10242 : Int32)), .val (.int (g2_129_t0 (g1_106_t0 p1) (1793 : Int32) (10242 : Int32))), .val (.int (g3_146_t0 jj (g2_129_t0 (g1_106_t0 p1) (1793 : Int32) (10242 : Int32))))] [(.int (1 : Int32))])) τ → Steps p.tables e below (s₁.setTop (entryFrame m #[(.int p0), (.int p1)] maxLocals)) τ := fun τ κ => c100 τ (by
        show Steps p.tables e below (T99.setTop (mkF m 170 #[.val (.int p0), .val (.int p1), .val (.ref b2), .val (.int jj), .val (.int (g1_106_t0 p1)), .val (.int (1793 : Int32)), .val (.int (10242 : Int32)), .val (.int (g2_129_t0 (g1_106_t0 p1) (1793 : Int32) (10242 : Int32))), .val (.int (g3_146_t0 jj (g2_129_t0 (g1_106_t0 p1) (1793 : Int32) (10242 : Int32))))] [(.int (s_ATTRIBUTE_61_t0 (g1_106_t0 p1) (1 : Int32) (0 : Int32)))])) _
        refine XS.iload X99.here hx rfl (hb hby at_170) rfl ?_
        show Steps p.tables e below (T99.setTop (mkF m 172 #[.val (.int p0), .val (.int p1), .val (.ref b2), .val (.int jj), .val (.int (g1_106_t0 p1)), .val (.int (1793 : Int32)), .val (.int (10242 : Int32)), .val (.int (g2_129_t0 (g1_106_t0 p1) (1793 : Int32) (10242 : Int32))), .val (.int (g3_146_t0 jj (g2_129_t0 (g1_106_t0 p1) (1793 : Int32) (10242 : Int32))))] [(.int (g3_146_t0 jj (g2_129_t0 (g1_106_t0 p1) (1793 : Int32) (10242 : Int32)))), (.int (s_ATTRIBUTE_61_t0 (g1_106_t0 p1) (1 : Int32) (0 : Int32)))])) _
        refine XS.icmpNo X99.here hx rfl (hb hby at_172) rfl (teq (own_l8 p1 jj hk)).2 ?_
        show Steps p.tables e below (T99.setTop (mkF m 175 #[.val (.int p0), .val (.int p1), .val (.ref b2), .val (.int jj), .val (.int (g1_106_t0 p1)), .val (.int (1793 : Int32)), .val (.int (10242 : Int32)), .val (.int (g2_129_t0 (g1_106_t0 p1) (1793 : Int32) (10242 : Int32))), .val (.int (g3_146_t0 jj (g2_129_t0 (g1_106_t0 p1) (1793 : Int32) (10242 : Int32))))] [])) _
        refine XS.iconst X99.here hx rfl (hb hby at_175) ?_
        show Steps p.tables e below (T99.setTop (mkF m 176 #[.val (.int p0), .val (.int p1), .val (.ref b2), .val (.int jj), .val (.int (g1_106_t0 p1)), .val (.int (1793 : Int32)), .val (.int (10242 : Int32)), .val (.int (g2_129_t0 (g1_106_t0 p1) (1793 : Int32) (10242 : Int32))), .val (.int (g3_146_t0 jj (g2_129_t0 (g1_106_t0 p1) (1793 : Int32) (10242 : Int32))))] [(.int (1 : Int32))])) _
        refine XS.goto X99.here hx rfl (pc0 := 176) (pc' := 180) rfl (hb hby at_176) (by decide) (by decide) ?_
        exact κ)
    obtain ⟨fs, hr, hrun, hended, hW, hsame⟩ := X99.leave (v := some (.int (1 : Int32))) (fun h => by rw [Bd.returns] at h; cases h)
    refine ⟨_, _, c101 _ (retN X99 hx (t := .boolean) Bd.returns (by simp) (hb hby at_180) hr), hrun, hended, _, _, rfl, ?_, ⟨_, rfl⟩, hW, hsame.mono (by decide) (by decide)⟩
    show Q_rm0 Z p0 p1 x1 x2 x3 x4 x5 x6 x7 x8 x9 x10 x11 x12 x13 x14 h0 n0 _ T99.heap _
    rw [e99]
    exact ⟨rfl, N99⟩
  · have c96 : ∀ τ, Steps p.tables e below (T86.setTop (mkF m 164 #[.val (.int p0), .val (.int p1), .val (.ref b2), .val (.int jj), .val (.int (g1_106_t0 p1)), .val (.int (1793 : Int32)), .val (.int (10242 : Int32)), .val (.int (g2_129_t0 (g1_106_t0 p1) (1793 : Int32) (10242 : Int32))), .val (.int (g3_146_t0 jj (g2_129_t0 (g1_106_t0 p1) (1793 : Int32) (10242 : Int32))))] [(.int jj), (.ref b2)])) τ → Steps p.tables e below (s₁.setTop (entryFrame m #[(.int p0), (.int p1)] maxLocals)) τ := fun τ κ => c94 τ (by
        show Steps p.tables e below (T86.setTop (mkF m 162 #[.val (.int p0), .val (.int p1), .val (.ref b2), .val (.int jj), .val (.int (g1_106_t0 p1)), .val (.int (1793 : Int32)), .val (.int (10242 : Int32)), .val (.int (g2_129_t0 (g1_106_t0 p1) (1793 : Int32) (10242 : Int32))), .val (.int (g3_146_t0 jj (g2_129_t0 (g1_106_t0 p1) (1793 : Int32) (10242 : Int32))))] [])) _
        refine XS.aloadN X86.here hx rfl (hb hby at_162) rfl rfl ?_
        show Steps p.tables e below (T86.setTop (mkF m 163 #[.val (.int p0), .val (.int p1), .val (.ref b2), .val (.int jj), .val (.int (g1_106_t0 p1)), .val (.int (1793 : Int32)), .val (.int (10242 : Int32)), .val (.int (g2_129_t0 (g1_106_t0 p1) (1793 : Int32) (10242 : Int32))), .val (.int (g3_146_t0 jj (g2_129_t0 (g1_106_t0 p1) (1793 : Int32) (10242 : Int32))))] [(.ref b2)])) _
        refine XS.iloadN X86.here hx rfl (hb hby at_163) rfl ?_
        exact κ)
    have c97 : ∀ τ, Steps p.tables e below (T86.setTop (mkF m 165 #[.val (.int p0), .val (.int p1), .val (.ref b2), .val (.int jj), .val (.int (g1_106_t0 p1)), .val (.int (1793 : Int32)), .val (.int (10242 : Int32)), .val (.int (g2_129_t0 (g1_106_t0 p1) (1793 : Int32) (10242 : Int32))), .val (.int (g3_146_t0 jj (g2_129_t0 (g1_106_t0 p1) (1793 : Int32) (10242 : Int32))))] [(.ref x10)])) τ → Steps p.tables e below (s₁.setTop (entryFrame m #[(.int p0), (.int p1)] maxLocals)) τ := fun τ κ => c96 τ (own_aaload X86 hx hZ e86 V86 (j := jj) hj14 (v := (.ref x10)) (by rw [hk]; rfl) (g := (mkF m 164 #[.val (.int p0), .val (.int p1), .val (.ref b2), .val (.int jj), .val (.int (g1_106_t0 p1)), .val (.int (1793 : Int32)), .val (.int (10242 : Int32)), .val (.int (g2_129_t0 (g1_106_t0 p1) (1793 : Int32) (10242 : Int32))), .val (.int (g3_146_t0 jj (g2_129_t0 (g1_106_t0 p1) (1793 : Int32) (10242 : Int32))))] [(.int jj), (.ref b2)])) rfl rfl (hb hby at_164) _ κ)
    have c98 : ∀ τ, Steps p.tables e below (T86.setTop (mkF m 167 #[.val (.int p0), .val (.int p1), .val (.ref b2), .val (.int jj), .val (.int (g1_106_t0 p1)), .val (.int (1793 : Int32)), .val (.int (10242 : Int32)), .val (.int (g2_129_t0 (g1_106_t0 p1) (1793 : Int32) (10242 : Int32))), .val (.int (g3_146_t0 jj (g2_129_t0 (g1_106_t0 p1) (1793 : Int32) (10242 : Int32))))] [(.int (g1_106_t0 p1)), (.ref x10)])) τ → Steps p.tables e below (s₁.setTop (entryFrame m #[(.int p0), (.int p1)] maxLocals)) τ := fun τ κ => c97 τ (by
        show Steps p.tables e below (T86.setTop (mkF m 165 #[.val (.int p0), .val (.int p1), .val (.ref b2), .val (.int jj), .val (.int (g1_106_t0 p1)), .val (.int (1793 : Int32)), .val (.int (10242 : Int32)), .val (.int (g2_129_t0 (g1_106_t0 p1) (1793 : Int32) (10242 : Int32))), .val (.int (g3_146_t0 jj (g2_129_t0 (g1_106_t0 p1) (1793 : Int32) (10242 : Int32))))] [(.ref x10)])) _
        refine XS.iload X86.here hx rfl (hb hby at_165) rfl ?_
        exact κ)
    obtain ⟨cq99, kq99, q99a, q99b, q99c⟩ := isOf hZ e86 (Ea10.ext f95.2)
    obtain ⟨_, _, ⟨T99, L99, k99, n99⟩, -, X99, ⟨Lc99, hQ99, l99, y99, z99⟩, st99⟩ := X86.virtualBack hx (y := (⟨"com/example/node_sieve/nodesieve/Axis", "selectsOnce", "(Z)Z"⟩ : MethodName)) (z := (⟨"com/example/node_sieve/nodesieve/Axis", "selectsOnce", "(Z)Z"⟩ : MethodName)) hown (mvT hZ (hw _ (List.mem_of_getElem? (i := 46) rfl))) (mvT hZ (hw _ (List.mem_of_getElem? (i := 47) rfl))) (notFace_of_selects (args := #[]) (mvT hZ (hw _ (List.mem_of_getElem? (i := 70) rfl)))) (mvT hZ (hw _ (List.mem_of_getElem? (i := 70) rfl))) (mvT hZ (hw _ (List.mem_of_getElem? (i := 48) rfl))) (by decide) (backOf (W := 0) (rm1_NAMESPACE l Z a0 hw [] x10 (g1_106_t0 p1) x1 x9 x11 x2 x12 x14 h86 n0 Z86 (Sa1.ext f95.2) (Sa9.ext f95.2) (Sa10.ext f95.2) (Sa11.ext f95.2) (Sa2.ext f95.2) (Sa12.ext f95.2) (Sa14.ext f95.2) (ne_exa (Ea10) (Ea1) (by decide)) (ne_exa (Ea10) (Ea9) (by decide)) (ne_exa (Ea10) (Ea11) (by decide)) (ne_exa (Ea10) (Ea2) (by decide)) (ne_exa (Ea10) (Ea12) (by decide)) (ne_exa (Ea10) (Ea14) (by decide))) hZ (hw _ (List.mem_of_getElem? (i := 50) rfl)) (hw _ (List.mem_of_getElem? (i := 3) rfl)) (by decide) (by decide)) q99a q99c (g := (mkF m 167 #[.val (.int p0), .val (.int p1), .val (.ref b2), .val (.int jj), .val (.int (g1_106_t0 p1)), .val (.int (1793 : Int32)), .val (.int (10242 : Int32)), .val (.int (g2_129_t0 (g1_106_t0 p1) (1793 : Int32) (10242 : Int32))), .val (.int (g3_146_t0 jj (g2_129_t0 (g1_106_t0 p1) (1793 : Int32) (10242 : Int32))))] [(.int (g1_106_t0 p1)), (.ref x10)])) rfl (by rw [hml]; rfl) (Steps.refl _) (argsL := [(.int (g1_106_t0 p1))]) (rest := []) (lenOf pd_0 rfl) rfl (by show 2 * 0 + _ ≤ _; exact Nat.le_of_eq rfl) (hb hby at_167) (fun _ _ => ⟨rfl, e86, (by decide : 1 + 0 ≤ _), (by decide : 14 + 0 ≤ _)⟩)
    dsimp only [Pt.U, Pt.locs, Pt.cells, Pt.slots] at X99 l99 y99 z99 st99 hQ99
    rw [y99, z99] at X99
    obtain ⟨rfl, N99q, e99⟩ := hQ99
    have N99 : Fr n0 L99 := by rw [l99]; exact Fr.app N86 N99q
    replace X99 : Stand p l e _ s m _ below meth c T99 L99 1 14 := X99
    clear l99 y99 z99
    have c100 : ∀ τ, Steps p.tables e below (T99.setTop (mkF m 170 #[.val (.int p0), .val (.int p1), .val (.ref b2), .val (.int jj), .val (.int (g1_106_t0 p1)), .val (.int (1793 : Int32)), .val (.int (10242 : Int32)), .val (.int (g2_129_t0 (g1_106_t0 p1) (1793 : Int32) (10242 : Int32))), .val (.int (g3_146_t0 jj (g2_129_t0 (g1_106_t0 p1) (1793 : Int32) (10242 : Int32))))] [(.int (s_NAMESPACE_61_t0 (g1_106_t0 p1) (1 : Int32) (0 : Int32)))])) τ → Steps p.tables e below (s₁.setTop (entryFrame m #[(.int p0), (.int p1)] maxLocals)) τ := fun τ κ => c98 τ (st99.trans κ)
    have c101 : ∀ τ, Steps p.tables e below (T99.setTop (mkF m 180 #[.val (.int p0), .val (.int p1), .val (.ref b2), .val (.int jj), .val (.int (g1_106_t0 p1)), .val (.int (1793 : Int32)), .val (.int (10242 : Int32)), .val (.int (g2_129_t0 (g1_106_t0 p1) (1793 : Int32) (10242 : Int32))), .val (.int (g3_146_t0 jj (g2_129_t0 (g1_106_t0 p1) (1793 : Int32) (10242 : Int32))))] [(.int (1 : Int32))])) τ → Steps p.tables e below (s₁.setTop (entryFrame m #[(.int p0), (.int p1)] maxLocals)) τ := fun τ κ => c100 τ (by
        show Steps p.tables e below (T99.setTop (mkF m 170 #[.val (.int p0), .val (.int p1), .val (.ref b2), .val (.int jj), .val (.int (g1_106_t0 p1)), .val (.int (1793 : Int32)), .val (.int (10242 : Int32)), .val (.int (g2_129_t0 (g1_106_t0 p1) (1793 : Int32) (10242 : Int32))), .val (.int (g3_146_t0 jj (g2_129_t0 (g1_106_t0 p1) (1793 : Int32) (10242 : Int32))))] [(.int (s_NAMESPACE_61_t0 (g1_106_t0 p1) (1 : Int32) (0 : Int32)))])) _
        refine XS.iload X99.here hx rfl (hb hby at_170) rfl ?_
        show Steps p.tables e below (T99.setTop (mkF m 172 #[.val (.int p0), .val (.int p1), .val (.ref b2), .val (.int jj), .val (.int (g1_106_t0 p1)), .val (.int (1793 : Int32)), .val (.int (10242 : Int32)), .val (.int (g2_129_t0 (g1_106_t0 p1) (1793 : Int32) (10242 : Int32))), .val (.int (g3_146_t0 jj (g2_129_t0 (g1_106_t0 p1) (1793 : Int32) (10242 : Int32))))] [(.int (g3_146_t0 jj (g2_129_t0 (g1_106_t0 p1) (1793 : Int32) (10242 : Int32)))), (.int (s_NAMESPACE_61_t0 (g1_106_t0 p1) (1 : Int32) (0 : Int32)))])) _
        refine XS.icmpNo X99.here hx rfl (hb hby at_172) rfl (teq (own_l9 p1 jj hk)).2 ?_
        show Steps p.tables e below (T99.setTop (mkF m 175 #[.val (.int p0), .val (.int p1), .val (.ref b2), .val (.int jj), .val (.int (g1_106_t0 p1)), .val (.int (1793 : Int32)), .val (.int (10242 : Int32)), .val (.int (g2_129_t0 (g1_106_t0 p1) (1793 : Int32) (10242 : Int32))), .val (.int (g3_146_t0 jj (g2_129_t0 (g1_106_t0 p1) (1793 : Int32) (10242 : Int32))))] [])) _
        refine XS.iconst X99.here hx rfl (hb hby at_175) ?_
        show Steps p.tables e below (T99.setTop (mkF m 176 #[.val (.int p0), .val (.int p1), .val (.ref b2), .val (.int jj), .val (.int (g1_106_t0 p1)), .val (.int (1793 : Int32)), .val (.int (10242 : Int32)), .val (.int (g2_129_t0 (g1_106_t0 p1) (1793 : Int32) (10242 : Int32))), .val (.int (g3_146_t0 jj (g2_129_t0 (g1_106_t0 p1) (1793 : Int32) (10242 : Int32))))] [(.int (1 : Int32))])) _
        refine XS.goto X99.here hx rfl (pc0 := 176) (pc' := 180) rfl (hb hby at_176) (by decide) (by decide) ?_
        exact κ)
    obtain ⟨fs, hr, hrun, hended, hW, hsame⟩ := X99.leave (v := some (.int (1 : Int32))) (fun h => by rw [Bd.returns] at h; cases h)
    refine ⟨_, _, c101 _ (retN X99 hx (t := .boolean) Bd.returns (by simp) (hb hby at_180) hr), hrun, hended, _, _, rfl, ?_, ⟨_, rfl⟩, hW, hsame.mono (by decide) (by decide)⟩
    show Q_rm0 Z p0 p1 x1 x2 x3 x4 x5 x6 x7 x8 x9 x10 x11 x12 x13 x14 h0 n0 _ T99.heap _
    rw [e99]
    exact ⟨rfl, N99⟩
  · have c96 : ∀ τ, Steps p.tables e below (T86.setTop (mkF m 164 #[.val (.int p0), .val (.int p1), .val (.ref b2), .val (.int jj), .val (.int (g1_106_t0 p1)), .val (.int (1793 : Int32)), .val (.int (10242 : Int32)), .val (.int (g2_129_t0 (g1_106_t0 p1) (1793 : Int32) (10242 : Int32))), .val (.int (g3_146_t0 jj (g2_129_t0 (g1_106_t0 p1) (1793 : Int32) (10242 : Int32))))] [(.int jj), (.ref b2)])) τ → Steps p.tables e below (s₁.setTop (entryFrame m #[(.int p0), (.int p1)] maxLocals)) τ := fun τ κ => c94 τ (by
        show Steps p.tables e below (T86.setTop (mkF m 162 #[.val (.int p0), .val (.int p1), .val (.ref b2), .val (.int jj), .val (.int (g1_106_t0 p1)), .val (.int (1793 : Int32)), .val (.int (10242 : Int32)), .val (.int (g2_129_t0 (g1_106_t0 p1) (1793 : Int32) (10242 : Int32))), .val (.int (g3_146_t0 jj (g2_129_t0 (g1_106_t0 p1) (1793 : Int32) (10242 : Int32))))] [])) _
        refine XS.aloadN X86.here hx rfl (hb hby at_162) rfl rfl ?_
        show Steps p.tables e below (T86.setTop (mkF m 163 #[.val (.int p0), .val (.int p1), .val (.ref b2), .val (.int jj), .val (.int (g1_106_t0 p1)), .val (.int (1793 : Int32)), .val (.int (10242 : Int32)), .val (.int (g2_129_t0 (g1_106_t0 p1) (1793 : Int32) (10242 : Int32))), .val (.int (g3_146_t0 jj (g2_129_t0 (g1_106_t0 p1) (1793 : Int32) (10242 : Int32))))] [(.ref b2)])) _
        refine XS.iloadN X86.here hx rfl (hb hby at_163) rfl ?_
        exact κ)
    have c97 : ∀ τ, Steps p.tables e below (T86.setTop (mkF m 165 #[.val (.int p0), .val (.int p1), .val (.ref b2), .val (.int jj), .val (.int (g1_106_t0 p1)), .val (.int (1793 : Int32)), .val (.int (10242 : Int32)), .val (.int (g2_129_t0 (g1_106_t0 p1) (1793 : Int32) (10242 : Int32))), .val (.int (g3_146_t0 jj (g2_129_t0 (g1_106_t0 p1) (1793 : Int32) (10242 : Int32))))] [(.ref x11)])) τ → Steps p.tables e below (s₁.setTop (entryFrame m #[(.int p0), (.int p1)] maxLocals)) τ := fun τ κ => c96 τ (own_aaload X86 hx hZ e86 V86 (j := jj) hj14 (v := (.ref x11)) (by rw [hk]; rfl) (g := (mkF m 164 #[.val (.int p0), .val (.int p1), .val (.ref b2), .val (.int jj), .val (.int (g1_106_t0 p1)), .val (.int (1793 : Int32)), .val (.int (10242 : Int32)), .val (.int (g2_129_t0 (g1_106_t0 p1) (1793 : Int32) (10242 : Int32))), .val (.int (g3_146_t0 jj (g2_129_t0 (g1_106_t0 p1) (1793 : Int32) (10242 : Int32))))] [(.int jj), (.ref b2)])) rfl rfl (hb hby at_164) _ κ)
    have c98 : ∀ τ, Steps p.tables e below (T86.setTop (mkF m 167 #[.val (.int p0), .val (.int p1), .val (.ref b2), .val (.int jj), .val (.int (g1_106_t0 p1)), .val (.int (1793 : Int32)), .val (.int (10242 : Int32)), .val (.int (g2_129_t0 (g1_106_t0 p1) (1793 : Int32) (10242 : Int32))), .val (.int (g3_146_t0 jj (g2_129_t0 (g1_106_t0 p1) (1793 : Int32) (10242 : Int32))))] [(.int (g1_106_t0 p1)), (.ref x11)])) τ → Steps p.tables e below (s₁.setTop (entryFrame m #[(.int p0), (.int p1)] maxLocals)) τ := fun τ κ => c97 τ (by
        show Steps p.tables e below (T86.setTop (mkF m 165 #[.val (.int p0), .val (.int p1), .val (.ref b2), .val (.int jj), .val (.int (g1_106_t0 p1)), .val (.int (1793 : Int32)), .val (.int (10242 : Int32)), .val (.int (g2_129_t0 (g1_106_t0 p1) (1793 : Int32) (10242 : Int32))), .val (.int (g3_146_t0 jj (g2_129_t0 (g1_106_t0 p1) (1793 : Int32) (10242 : Int32))))] [(.ref x11)])) _
        refine XS.iload X86.here hx rfl (hb hby at_165) rfl ?_
        exact κ)
    obtain ⟨cq99, kq99, q99a, q99b, q99c⟩ := isOf hZ e86 (Ea11.ext f95.2)
    obtain ⟨_, _, ⟨T99, L99, k99, n99⟩, -, X99, ⟨Lc99, hQ99, l99, y99, z99⟩, st99⟩ := X86.virtualBack hx (y := (⟨"com/example/node_sieve/nodesieve/Axis", "selectsOnce", "(Z)Z"⟩ : MethodName)) (z := (⟨"com/example/node_sieve/nodesieve/Axis", "selectsOnce", "(Z)Z"⟩ : MethodName)) hown (mvT hZ (hw _ (List.mem_of_getElem? (i := 46) rfl))) (mvT hZ (hw _ (List.mem_of_getElem? (i := 47) rfl))) (notFace_of_selects (args := #[]) (mvT hZ (hw _ (List.mem_of_getElem? (i := 55) rfl)))) (mvT hZ (hw _ (List.mem_of_getElem? (i := 55) rfl))) (mvT hZ (hw _ (List.mem_of_getElem? (i := 48) rfl))) (by decide) (backOf (W := 0) (rm1_SELF l Z a0 hw [] x11 (g1_106_t0 p1) x1 x9 x10 x2 x12 x14 h86 n0 Z86 (Sa1.ext f95.2) (Sa9.ext f95.2) (Sa10.ext f95.2) (Sa11.ext f95.2) (Sa2.ext f95.2) (Sa12.ext f95.2) (Sa14.ext f95.2) (ne_exa (Ea11) (Ea1) (by decide)) (ne_exa (Ea11) (Ea9) (by decide)) (ne_exa (Ea11) (Ea10) (by decide)) (ne_exa (Ea11) (Ea2) (by decide)) (ne_exa (Ea11) (Ea12) (by decide)) (ne_exa (Ea11) (Ea14) (by decide))) hZ (hw _ (List.mem_of_getElem? (i := 50) rfl)) (hw _ (List.mem_of_getElem? (i := 3) rfl)) (by decide) (by decide)) q99a q99c (g := (mkF m 167 #[.val (.int p0), .val (.int p1), .val (.ref b2), .val (.int jj), .val (.int (g1_106_t0 p1)), .val (.int (1793 : Int32)), .val (.int (10242 : Int32)), .val (.int (g2_129_t0 (g1_106_t0 p1) (1793 : Int32) (10242 : Int32))), .val (.int (g3_146_t0 jj (g2_129_t0 (g1_106_t0 p1) (1793 : Int32) (10242 : Int32))))] [(.int (g1_106_t0 p1)), (.ref x11)])) rfl (by rw [hml]; rfl) (Steps.refl _) (argsL := [(.int (g1_106_t0 p1))]) (rest := []) (lenOf pd_0 rfl) rfl (by show 2 * 0 + _ ≤ _; exact Nat.le_of_eq rfl) (hb hby at_167) (fun _ _ => ⟨rfl, e86, (by decide : 1 + 0 ≤ _), (by decide : 14 + 0 ≤ _)⟩)
    dsimp only [Pt.U, Pt.locs, Pt.cells, Pt.slots] at X99 l99 y99 z99 st99 hQ99
    rw [y99, z99] at X99
    obtain ⟨rfl, N99q, e99⟩ := hQ99
    have N99 : Fr n0 L99 := by rw [l99]; exact Fr.app N86 N99q
    replace X99 : Stand p l e _ s m _ below meth c T99 L99 1 14 := X99
    clear l99 y99 z99
    have c100 : ∀ τ, Steps p.tables e below (T99.setTop (mkF m 170 #[.val (.int p0), .val (.int p1), .val (.ref b2), .val (.int jj), .val (.int (g1_106_t0 p1)), .val (.int (1793 : Int32)), .val (.int (10242 : Int32)), .val (.int (g2_129_t0 (g1_106_t0 p1) (1793 : Int32) (10242 : Int32))), .val (.int (g3_146_t0 jj (g2_129_t0 (g1_106_t0 p1) (1793 : Int32) (10242 : Int32))))] [(.int (s_SELF_61_t0 (g1_106_t0 p1) (1 : Int32) (0 : Int32)))])) τ → Steps p.tables e below (s₁.setTop (entryFrame m #[(.int p0), (.int p1)] maxLocals)) τ := fun τ κ => c98 τ (st99.trans κ)
    have c101 : ∀ τ, Steps p.tables e below (T99.setTop (mkF m 180 #[.val (.int p0), .val (.int p1), .val (.ref b2), .val (.int jj), .val (.int (g1_106_t0 p1)), .val (.int (1793 : Int32)), .val (.int (10242 : Int32)), .val (.int (g2_129_t0 (g1_106_t0 p1) (1793 : Int32) (10242 : Int32))), .val (.int (g3_146_t0 jj (g2_129_t0 (g1_106_t0 p1) (1793 : Int32) (10242 : Int32))))] [(.int (1 : Int32))])) τ → Steps p.tables e below (s₁.setTop (entryFrame m #[(.int p0), (.int p1)] maxLocals)) τ := fun τ κ => c100 τ (by
        show Steps p.tables e below (T99.setTop (mkF m 170 #[.val (.int p0), .val (.int p1), .val (.ref b2), .val (.int jj), .val (.int (g1_106_t0 p1)), .val (.int (1793 : Int32)), .val (.int (10242 : Int32)), .val (.int (g2_129_t0 (g1_106_t0 p1) (1793 : Int32) (10242 : Int32))), .val (.int (g3_146_t0 jj (g2_129_t0 (g1_106_t0 p1) (1793 : Int32) (10242 : Int32))))] [(.int (s_SELF_61_t0 (g1_106_t0 p1) (1 : Int32) (0 : Int32)))])) _
        refine XS.iload X99.here hx rfl (hb hby at_170) rfl ?_
        show Steps p.tables e below (T99.setTop (mkF m 172 #[.val (.int p0), .val (.int p1), .val (.ref b2), .val (.int jj), .val (.int (g1_106_t0 p1)), .val (.int (1793 : Int32)), .val (.int (10242 : Int32)), .val (.int (g2_129_t0 (g1_106_t0 p1) (1793 : Int32) (10242 : Int32))), .val (.int (g3_146_t0 jj (g2_129_t0 (g1_106_t0 p1) (1793 : Int32) (10242 : Int32))))] [(.int (g3_146_t0 jj (g2_129_t0 (g1_106_t0 p1) (1793 : Int32) (10242 : Int32)))), (.int (s_SELF_61_t0 (g1_106_t0 p1) (1 : Int32) (0 : Int32)))])) _
        refine XS.icmpNo X99.here hx rfl (hb hby at_172) rfl (teq (own_l10 p1 jj hk)).2 ?_
        show Steps p.tables e below (T99.setTop (mkF m 175 #[.val (.int p0), .val (.int p1), .val (.ref b2), .val (.int jj), .val (.int (g1_106_t0 p1)), .val (.int (1793 : Int32)), .val (.int (10242 : Int32)), .val (.int (g2_129_t0 (g1_106_t0 p1) (1793 : Int32) (10242 : Int32))), .val (.int (g3_146_t0 jj (g2_129_t0 (g1_106_t0 p1) (1793 : Int32) (10242 : Int32))))] [])) _
        refine XS.iconst X99.here hx rfl (hb hby at_175) ?_
        show Steps p.tables e below (T99.setTop (mkF m 176 #[.val (.int p0), .val (.int p1), .val (.ref b2), .val (.int jj), .val (.int (g1_106_t0 p1)), .val (.int (1793 : Int32)), .val (.int (10242 : Int32)), .val (.int (g2_129_t0 (g1_106_t0 p1) (1793 : Int32) (10242 : Int32))), .val (.int (g3_146_t0 jj (g2_129_t0 (g1_106_t0 p1) (1793 : Int32) (10242 : Int32))))] [(.int (1 : Int32))])) _
        refine XS.goto X99.here hx rfl (pc0 := 176) (pc' := 180) rfl (hb hby at_176) (by decide) (by decide) ?_
        exact κ)
    obtain ⟨fs, hr, hrun, hended, hW, hsame⟩ := X99.leave (v := some (.int (1 : Int32))) (fun h => by rw [Bd.returns] at h; cases h)
    refine ⟨_, _, c101 _ (retN X99 hx (t := .boolean) Bd.returns (by simp) (hb hby at_180) hr), hrun, hended, _, _, rfl, ?_, ⟨_, rfl⟩, hW, hsame.mono (by decide) (by decide)⟩
    show Q_rm0 Z p0 p1 x1 x2 x3 x4 x5 x6 x7 x8 x9 x10 x11 x12 x13 x14 h0 n0 _ T99.heap _
    rw [e99]
    exact ⟨rfl, N99⟩
  · have c96 : ∀ τ, Steps p.tables e below (T86.setTop (mkF m 164 #[.val (.int p0), .val (.int p1), .val (.ref b2), .val (.int jj), .val (.int (g1_106_t0 p1)), .val (.int (1793 : Int32)), .val (.int (10242 : Int32)), .val (.int (g2_129_t0 (g1_106_t0 p1) (1793 : Int32) (10242 : Int32))), .val (.int (g3_146_t0 jj (g2_129_t0 (g1_106_t0 p1) (1793 : Int32) (10242 : Int32))))] [(.int jj), (.ref b2)])) τ → Steps p.tables e below (s₁.setTop (entryFrame m #[(.int p0), (.int p1)] maxLocals)) τ := fun τ κ => c94 τ (by
        show Steps p.tables e below (T86.setTop (mkF m 162 #[.val (.int p0), .val (.int p1), .val (.ref b2), .val (.int jj), .val (.int (g1_106_t0 p1)), .val (.int (1793 : Int32)), .val (.int (10242 : Int32)), .val (.int (g2_129_t0 (g1_106_t0 p1) (1793 : Int32) (10242 : Int32))), .val (.int (g3_146_t0 jj (g2_129_t0 (g1_106_t0 p1) (1793 : Int32) (10242 : Int32))))] [])) _
        refine XS.aloadN X86.here hx rfl (hb hby at_162) rfl rfl ?_
        show Steps p.tables e below (T86.setTop (mkF m 163 #[.val (.int p0), .val (.int p1), .val (.ref b2), .val (.int jj), .val (.int (g1_106_t0 p1)), .val (.int (1793 : Int32)), .val (.int (10242 : Int32)), .val (.int (g2_129_t0 (g1_106_t0 p1) (1793 : Int32) (10242 : Int32))), .val (.int (g3_146_t0 jj (g2_129_t0 (g1_106_t0 p1) (1793 : Int32) (10242 : Int32))))] [(.ref b2)])) _
        refine XS.iloadN X86.here hx rfl (hb hby at_163) rfl ?_
        exact κ)
    have c97 : ∀ τ, Steps p.tables e below (T86.setTop (mkF m 165 #[.val (.int p0), .val (.int p1), .val (.ref b2), .val (.int jj), .val (.int (g1_106_t0 p1)), .val (.int (1793 : Int32)), .val (.int (10242 : Int32)), .val (.int (g2_129_t0 (g1_106_t0 p1) (1793 : Int32) (10242 : Int32))), .val (.int (g3_146_t0 jj (g2_129_t0 (g1_106_t0 p1) (1793 : Int32) (10242 : Int32))))] [(.ref x12)])) τ → Steps p.tables e below (s₁.setTop (entryFrame m #[(.int p0), (.int p1)] maxLocals)) τ := fun τ κ => c96 τ (own_aaload X86 hx hZ e86 V86 (j := jj) hj14 (v := (.ref x12)) (by rw [hk]; rfl) (g := (mkF m 164 #[.val (.int p0), .val (.int p1), .val (.ref b2), .val (.int jj), .val (.int (g1_106_t0 p1)), .val (.int (1793 : Int32)), .val (.int (10242 : Int32)), .val (.int (g2_129_t0 (g1_106_t0 p1) (1793 : Int32) (10242 : Int32))), .val (.int (g3_146_t0 jj (g2_129_t0 (g1_106_t0 p1) (1793 : Int32) (10242 : Int32))))] [(.int jj), (.ref b2)])) rfl rfl (hb hby at_164) _ κ)
    have c98 : ∀ τ, Steps p.tables e below (T86.setTop (mkF m 167 #[.val (.int p0), .val (.int p1), .val (.ref b2), .val (.int jj), .val (.int (g1_106_t0 p1)), .val (.int (1793 : Int32)), .val (.int (10242 : Int32)), .val (.int (g2_129_t0 (g1_106_t0 p1) (1793 : Int32) (10242 : Int32))), .val (.int (g3_146_t0 jj (g2_129_t0 (g1_106_t0 p1) (1793 : Int32) (10242 : Int32))))] [(.int (g1_106_t0 p1)), (.ref x12)])) τ → Steps p.tables e below (s₁.setTop (entryFrame m #[(.int p0), (.int p1)] maxLocals)) τ := fun τ κ => c97 τ (by
        show Steps p.tables e below (T86.setTop (mkF m 165 #[.val (.int p0), .val (.int p1), .val (.ref b2), .val (.int jj), .val (.int (g1_106_t0 p1)), .val (.int (1793 : Int32)), .val (.int (10242 : Int32)), .val (.int (g2_129_t0 (g1_106_t0 p1) (1793 : Int32) (10242 : Int32))), .val (.int (g3_146_t0 jj (g2_129_t0 (g1_106_t0 p1) (1793 : Int32) (10242 : Int32))))] [(.ref x12)])) _
        refine XS.iload X86.here hx rfl (hb hby at_165) rfl ?_
        exact κ)
    obtain ⟨cq99, kq99, q99a, q99b, q99c⟩ := isOf hZ e86 (Ea12.ext f95.2)
    obtain ⟨_, _, ⟨T99, L99, k99, n99⟩, -, X99, ⟨Lc99, hQ99, l99, y99, z99⟩, st99⟩ := X86.virtualBack hx (y := (⟨"com/example/node_sieve/nodesieve/Axis", "selectsOnce", "(Z)Z"⟩ : MethodName)) (z := (⟨"com/example/node_sieve/nodesieve/Axis", "selectsOnce", "(Z)Z"⟩ : MethodName)) hown (mvT hZ (hw _ (List.mem_of_getElem? (i := 46) rfl))) (mvT hZ (hw _ (List.mem_of_getElem? (i := 47) rfl))) (notFace_of_selects (args := #[]) (mvT hZ (hw _ (List.mem_of_getElem? (i := 61) rfl)))) (mvT hZ (hw _ (List.mem_of_getElem? (i := 61) rfl))) (mvT hZ (hw _ (List.mem_of_getElem? (i := 48) rfl))) (by decide) (backOf (W := 0) (rm1_DESCENDANT_OR_SELF l Z a0 hw [] x12 (g1_106_t0 p1) x1 x9 x10 x11 x2 x14 h86 n0 Z86 (Sa1.ext f95.2) (Sa9.ext f95.2) (Sa10.ext f95.2) (Sa11.ext f95.2) (Sa2.ext f95.2) (Sa12.ext f95.2) (Sa14.ext f95.2) (ne_exa (Ea12) (Ea1) (by decide)) (ne_exa (Ea12) (Ea9) (by decide)) (ne_exa (Ea12) (Ea10) (by decide)) (ne_exa (Ea12) (Ea11) (by decide)) (ne_exa (Ea12) (Ea2) (by decide)) (ne_exa (Ea12) (Ea14) (by decide))) hZ (hw _ (List.mem_of_getElem? (i := 50) rfl)) (hw _ (List.mem_of_getElem? (i := 3) rfl)) (by decide) (by decide)) q99a q99c (g := (mkF m 167 #[.val (.int p0), .val (.int p1), .val (.ref b2), .val (.int jj), .val (.int (g1_106_t0 p1)), .val (.int (1793 : Int32)), .val (.int (10242 : Int32)), .val (.int (g2_129_t0 (g1_106_t0 p1) (1793 : Int32) (10242 : Int32))), .val (.int (g3_146_t0 jj (g2_129_t0 (g1_106_t0 p1) (1793 : Int32) (10242 : Int32))))] [(.int (g1_106_t0 p1)), (.ref x12)])) rfl (by rw [hml]; rfl) (Steps.refl _) (argsL := [(.int (g1_106_t0 p1))]) (rest := []) (lenOf pd_0 rfl) rfl (by show 2 * 0 + _ ≤ _; exact Nat.le_of_eq rfl) (hb hby at_167) (fun _ _ => ⟨rfl, e86, (by decide : 1 + 0 ≤ _), (by decide : 14 + 0 ≤ _)⟩)
    dsimp only [Pt.U, Pt.locs, Pt.cells, Pt.slots] at X99 l99 y99 z99 st99 hQ99
    rw [y99, z99] at X99
    obtain ⟨rfl, N99q, e99⟩ := hQ99
    have N99 : Fr n0 L99 := by rw [l99]; exact Fr.app N86 N99q
    replace X99 : Stand p l e _ s m _ below meth c T99 L99 1 14 := X99
    clear l99 y99 z99
    have c100 : ∀ τ, Steps p.tables e below (T99.setTop (mkF m 170 #[.val (.int p0), .val (.int p1), .val (.ref b2), .val (.int jj), .val (.int (g1_106_t0 p1)), .val (.int (1793 : Int32)), .val (.int (10242 : Int32)), .val (.int (g2_129_t0 (g1_106_t0 p1) (1793 : Int32) (10242 : Int32))), .val (.int (g3_146_t0 jj (g2_129_t0 (g1_106_t0 p1) (1793 : Int32) (10242 : Int32))))] [(.int (s_DESCENDANT_OR_SELF_61_t0 (g1_106_t0 p1) (0 : Int32) (1 : Int32)))])) τ → Steps p.tables e below (s₁.setTop (entryFrame m #[(.int p0), (.int p1)] maxLocals)) τ := fun τ κ => c98 τ (st99.trans κ)
    have c101 : ∀ τ, Steps p.tables e below (T99.setTop (mkF m 180 #[.val (.int p0), .val (.int p1), .val (.ref b2), .val (.int jj), .val (.int (g1_106_t0 p1)), .val (.int (1793 : Int32)), .val (.int (10242 : Int32)), .val (.int (g2_129_t0 (g1_106_t0 p1) (1793 : Int32) (10242 : Int32))), .val (.int (g3_146_t0 jj (g2_129_t0 (g1_106_t0 p1) (1793 : Int32) (10242 : Int32))))] [(.int (1 : Int32))])) τ → Steps p.tables e below (s₁.setTop (entryFrame m #[(.int p0), (.int p1)] maxLocals)) τ := fun τ κ => c100 τ (by
        show Steps p.tables e below (T99.setTop (mkF m 170 #[.val (.int p0), .val (.int p1), .val (.ref b2), .val (.int jj), .val (.int (g1_106_t0 p1)), .val (.int (1793 : Int32)), .val (.int (10242 : Int32)), .val (.int (g2_129_t0 (g1_106_t0 p1) (1793 : Int32) (10242 : Int32))), .val (.int (g3_146_t0 jj (g2_129_t0 (g1_106_t0 p1) (1793 : Int32) (10242 : Int32))))] [(.int (s_DESCENDANT_OR_SELF_61_t0 (g1_106_t0 p1) (0 : Int32) (1 : Int32)))])) _
        refine XS.iload X99.here hx rfl (hb hby at_170) rfl ?_
        show Steps p.tables e below (T99.setTop (mkF m 172 #[.val (.int p0), .val (.int p1), .val (.ref b2), .val (.int jj), .val (.int (g1_106_t0 p1)), .val (.int (1793 : Int32)), .val (.int (10242 : Int32)), .val (.int (g2_129_t0 (g1_106_t0 p1) (1793 : Int32) (10242 : Int32))), .val (.int (g3_146_t0 jj (g2_129_t0 (g1_106_t0 p1) (1793 : Int32) (10242 : Int32))))] [(.int (g3_146_t0 jj (g2_129_t0 (g1_106_t0 p1) (1793 : Int32) (10242 : Int32)))), (.int (s_DESCENDANT_OR_SELF_61_t0 (g1_106_t0 p1) (0 : Int32) (1 : Int32)))])) _
        refine XS.icmpNo X99.here hx rfl (hb hby at_172) rfl (teq (own_l11 p1 jj hk)).2 ?_
        show Steps p.tables e below (T99.setTop (mkF m 175 #[.val (.int p0), .val (.int p1), .val (.ref b2), .val (.int jj), .val (.int (g1_106_t0 p1)), .val (.int (1793 : Int32)), .val (.int (10242 : Int32)), .val (.int (g2_129_t0 (g1_106_t0 p1) (1793 : Int32) (10242 : Int32))), .val (.int (g3_146_t0 jj (g2_129_t0 (g1_106_t0 p1) (1793 : Int32) (10242 : Int32))))] [])) _
        refine XS.iconst X99.here hx rfl (hb hby at_175) ?_
        show Steps p.tables e below (T99.setTop (mkF m 176 #[.val (.int p0), .val (.int p1), .val (.ref b2), .val (.int jj), .val (.int (g1_106_t0 p1)), .val (.int (1793 : Int32)), .val (.int (10242 : Int32)), .val (.int (g2_129_t0 (g1_106_t0 p1) (1793 : Int32) (10242 : Int32))), .val (.int (g3_146_t0 jj (g2_129_t0 (g1_106_t0 p1) (1793 : Int32) (10242 : Int32))))] [(.int (1 : Int32))])) _
        refine XS.goto X99.here hx rfl (pc0 := 176) (pc' := 180) rfl (hb hby at_176) (by decide) (by decide) ?_
        exact κ)
    obtain ⟨fs, hr, hrun, hended, hW, hsame⟩ := X99.leave (v := some (.int (1 : Int32))) (fun h => by rw [Bd.returns] at h; cases h)
    refine ⟨_, _, c101 _ (retN X99 hx (t := .boolean) Bd.returns (by simp) (hb hby at_180) hr), hrun, hended, _, _, rfl, ?_, ⟨_, rfl⟩, hW, hsame.mono (by decide) (by decide)⟩
    show Q_rm0 Z p0 p1 x1 x2 x3 x4 x5 x6 x7 x8 x9 x10 x11 x12 x13 x14 h0 n0 _ T99.heap _
    rw [e99]
    exact ⟨rfl, N99⟩
  · have c96 : ∀ τ, Steps p.tables e below (T86.setTop (mkF m 164 #[.val (.int p0), .val (.int p1), .val (.ref b2), .val (.int jj), .val (.int (g1_106_t0 p1)), .val (.int (1793 : Int32)), .val (.int (10242 : Int32)), .val (.int (g2_129_t0 (g1_106_t0 p1) (1793 : Int32) (10242 : Int32))), .val (.int (g3_146_t0 jj (g2_129_t0 (g1_106_t0 p1) (1793 : Int32) (10242 : Int32))))] [(.int jj), (.ref b2)])) τ → Steps p.tables e below (s₁.setTop (entryFrame m #[(.int p0), (.int p1)] maxLocals)) τ := fun τ κ => c94 τ (by
        show Steps p.tables e below (T86.setTop (mkF m 162 #[.val (.int p0), .val (.int p1), .val (.ref b2), .val (.int jj), .val (.int (g1_106_t0 p1)), .val (.int (1793 : Int32)), .val (.int (10242 : Int32)), .val (.int (g2_129_t0 (g1_106_t0 p1) (1793 : Int32) (10242 : Int32))), .val (.int (g3_146_t0 jj (g2_129_t0 (g1_106_t0 p1) (1793 : Int32) (10242 : Int32))))] [])) _
        refine XS.aloadN X86.here hx rfl (hb hby at_162) rfl rfl ?_
        show Steps p.tables e below (T86.setTop (mkF m 163 #[.val (.int p0), .val (.int p1), .val (.ref b2), .val (.int jj), .val (.int (g1_106_t0 p1)), .val (.int (1793 : Int32)), .val (.int (10242 : Int32)), .val (.int (g2_129_t0 (g1_106_t0 p1) (1793 : Int32) (10242 : Int32))), .val (.int (g3_146_t0 jj (g2_129_t0 (g1_106_t0 p1) (1793 : Int32) (10242 : Int32))))] [(.ref b2)])) _
        refine XS.iloadN X86.here hx rfl (hb hby at_163) rfl ?_
        exact κ)
    have c97 : ∀ τ, Steps p.tables e below (T86.setTop (mkF m 165 #[.val (.int p0), .val (.int p1), .val (.ref b2), .val (.int jj), .val (.int (g1_106_t0 p1)), .val (.int (1793 : Int32)), .val (.int (10242 : Int32)), .val (.int (g2_129_t0 (g1_106_t0 p1) (1793 : Int32) (10242 : Int32))), .val (.int (g3_146_t0 jj (g2_129_t0 (g1_106_t0 p1) (1793 : Int32) (10242 : Int32))))] [(.ref x13)])) τ → Steps p.tables e below (s₁.setTop (entryFrame m #[(.int p0), (.int p1)] maxLocals)) τ := fun τ κ => c96 τ (own_aaload X86 hx hZ e86 V86 (j := jj) hj14 (v := (.ref x13)) (by rw [hk]; rfl) (g := (mkF m 164 #[.val (.int p0), .val (.int p1), .val (.ref b2), .val (.int jj), .val (.int (g1_106_t0 p1)), .val (.int (1793 : Int32)), .val (.int (10242 : Int32)), .val (.int (g2_129_t0 (g1_106_t0 p1) (1793 : Int32) (10242 : Int32))), .val (.int (g3_146_t0 jj (g2_129_t0 (g1_106_t0 p1) (1793 : Int32) (10242 : Int32))))] [(.int jj), (.ref b2)])) rfl rfl (hb hby at_164) _ κ)
    have c98 : ∀ τ, Steps p.tables e below (T86.setTop (mkF m 167 #[.val (.int p0), .val (.int p1), .val (.ref b2), .val (.int jj), .val (.int (g1_106_t0 p1)), .val (.int (1793 : Int32)), .val (.int (10242 : Int32)), .val (.int (g2_129_t0 (g1_106_t0 p1) (1793 : Int32) (10242 : Int32))), .val (.int (g3_146_t0 jj (g2_129_t0 (g1_106_t0 p1) (1793 : Int32) (10242 : Int32))))] [(.int (g1_106_t0 p1)), (.ref x13)])) τ → Steps p.tables e below (s₁.setTop (entryFrame m #[(.int p0), (.int p1)] maxLocals)) τ := fun τ κ => c97 τ (by
        show Steps p.tables e below (T86.setTop (mkF m 165 #[.val (.int p0), .val (.int p1), .val (.ref b2), .val (.int jj), .val (.int (g1_106_t0 p1)), .val (.int (1793 : Int32)), .val (.int (10242 : Int32)), .val (.int (g2_129_t0 (g1_106_t0 p1) (1793 : Int32) (10242 : Int32))), .val (.int (g3_146_t0 jj (g2_129_t0 (g1_106_t0 p1) (1793 : Int32) (10242 : Int32))))] [(.ref x13)])) _
        refine XS.iload X86.here hx rfl (hb hby at_165) rfl ?_
        exact κ)
    obtain ⟨cq99, kq99, q99a, q99b, q99c⟩ := isOf hZ e86 (Ea13.ext f95.2)
    obtain ⟨_, _, ⟨T99, L99, k99, n99⟩, -, X99, ⟨Lc99, hQ99, l99, y99, z99⟩, st99⟩ := X86.virtualBack hx (y := (⟨"com/example/node_sieve/nodesieve/Axis", "selectsOnce", "(Z)Z"⟩ : MethodName)) (z := (⟨"com/example/node_sieve/nodesieve/Axis", "selectsOnce", "(Z)Z"⟩ : MethodName)) hown (mvT hZ (hw _ (List.mem_of_getElem? (i := 46) rfl))) (mvT hZ (hw _ (List.mem_of_getElem? (i := 47) rfl))) (notFace_of_selects (args := #[]) (mvT hZ (hw _ (List.mem_of_getElem? (i := 63) rfl)))) (mvT hZ (hw _ (List.mem_of_getElem? (i := 63) rfl))) (mvT hZ (hw _ (List.mem_of_getElem? (i := 48) rfl))) (by decide) (backOf (W := 0) (rm1_none l Z a0 hw [] x13 (g1_106_t0 p1) x1 x9 x10 x11 x2 x12 x14 h86 n0 Z86 (Sa1.ext f95.2) (Sa9.ext f95.2) (Sa10.ext f95.2) (Sa11.ext f95.2) (Sa2.ext f95.2) (Sa12.ext f95.2) (Sa14.ext f95.2) (ne_exa (Ea13) (Ea1) (by decide)) (ne_exa (Ea13) (Ea9) (by decide)) (ne_exa (Ea13) (Ea10) (by decide)) (ne_exa (Ea13) (Ea11) (by decide)) (ne_exa (Ea13) (Ea2) (by decide)) (ne_exa (Ea13) (Ea12) (by decide)) (ne_exa (Ea13) (Ea14) (by decide))) hZ (hw _ (List.mem_of_getElem? (i := 50) rfl)) (hw _ (List.mem_of_getElem? (i := 3) rfl)) (by decide) (by decide)) q99a q99c (g := (mkF m 167 #[.val (.int p0), .val (.int p1), .val (.ref b2), .val (.int jj), .val (.int (g1_106_t0 p1)), .val (.int (1793 : Int32)), .val (.int (10242 : Int32)), .val (.int (g2_129_t0 (g1_106_t0 p1) (1793 : Int32) (10242 : Int32))), .val (.int (g3_146_t0 jj (g2_129_t0 (g1_106_t0 p1) (1793 : Int32) (10242 : Int32))))] [(.int (g1_106_t0 p1)), (.ref x13)])) rfl (by rw [hml]; rfl) (Steps.refl _) (argsL := [(.int (g1_106_t0 p1))]) (rest := []) (lenOf pd_0 rfl) rfl (by show 2 * 0 + _ ≤ _; exact Nat.le_of_eq rfl) (hb hby at_167) (fun _ _ => ⟨rfl, e86, (by decide : 1 + 0 ≤ _), (by decide : 14 + 0 ≤ _)⟩)
    dsimp only [Pt.U, Pt.locs, Pt.cells, Pt.slots] at X99 l99 y99 z99 st99 hQ99
    rw [y99, z99] at X99
    obtain ⟨rfl, N99q, e99⟩ := hQ99
    have N99 : Fr n0 L99 := by rw [l99]; exact Fr.app N86 N99q
    replace X99 : Stand p l e _ s m _ below meth c T99 L99 1 14 := X99
    clear l99 y99 z99
    have c100 : ∀ τ, Steps p.tables e below (T99.setTop (mkF m 170 #[.val (.int p0), .val (.int p1), .val (.ref b2), .val (.int jj), .val (.int (g1_106_t0 p1)), .val (.int (1793 : Int32)), .val (.int (10242 : Int32)), .val (.int (g2_129_t0 (g1_106_t0 p1) (1793 : Int32) (10242 : Int32))), .val (.int (g3_146_t0 jj (g2_129_t0 (g1_106_t0 p1) (1793 : Int32) (10242 : Int32))))] [(.int (s_none_61_t0 (g1_106_t0 p1) (0 : Int32) (0 : Int32)))])) τ → Steps p.tables e below (s₁.setTop (entryFrame m #[(.int p0), (.int p1)] maxLocals)) τ := fun τ κ => c98 τ (st99.trans κ)
    have c101 : ∀ τ, Steps p.tables e below (T99.setTop (mkF m 180 #[.val (.int p0), .val (.int p1), .val (.ref b2), .val (.int jj), .val (.int (g1_106_t0 p1)), .val (.int (1793 : Int32)), .val (.int (10242 : Int32)), .val (.int (g2_129_t0 (g1_106_t0 p1) (1793 : Int32) (10242 : Int32))), .val (.int (g3_146_t0 jj (g2_129_t0 (g1_106_t0 p1) (1793 : Int32) (10242 : Int32))))] [(.int (1 : Int32))])) τ → Steps p.tables e below (s₁.setTop (entryFrame m #[(.int p0), (.int p1)] maxLocals)) τ := fun τ κ => c100 τ (by
        show Steps p.tables e below (T99.setTop (mkF m 170 #[.val (.int p0), .val (.int p1), .val (.ref b2), .val (.int jj), .val (.int (g1_106_t0 p1)), .val (.int (1793 : Int32)), .val (.int (10242 : Int32)), .val (.int (g2_129_t0 (g1_106_t0 p1) (1793 : Int32) (10242 : Int32))), .val (.int (g3_146_t0 jj (g2_129_t0 (g1_106_t0 p1) (1793 : Int32) (10242 : Int32))))] [(.int (s_none_61_t0 (g1_106_t0 p1) (0 : Int32) (0 : Int32)))])) _
        refine XS.iload X99.here hx rfl (hb hby at_170) rfl ?_
        show Steps p.tables e below (T99.setTop (mkF m 172 #[.val (.int p0), .val (.int p1), .val (.ref b2), .val (.int jj), .val (.int (g1_106_t0 p1)), .val (.int (1793 : Int32)), .val (.int (10242 : Int32)), .val (.int (g2_129_t0 (g1_106_t0 p1) (1793 : Int32) (10242 : Int32))), .val (.int (g3_146_t0 jj (g2_129_t0 (g1_106_t0 p1) (1793 : Int32) (10242 : Int32))))] [(.int (g3_146_t0 jj (g2_129_t0 (g1_106_t0 p1) (1793 : Int32) (10242 : Int32)))), (.int (s_none_61_t0 (g1_106_t0 p1) (0 : Int32) (0 : Int32)))])) _
        refine XS.icmpNo X99.here hx rfl (hb hby at_172) rfl (teq (own_l12 p1 jj hk)).2 ?_
        show Steps p.tables e below (T99.setTop (mkF m 175 #[.val (.int p0), .val (.int p1), .val (.ref b2), .val (.int jj), .val (.int (g1_106_t0 p1)), .val (.int (1793 : Int32)), .val (.int (10242 : Int32)), .val (.int (g2_129_t0 (g1_106_t0 p1) (1793 : Int32) (10242 : Int32))), .val (.int (g3_146_t0 jj (g2_129_t0 (g1_106_t0 p1) (1793 : Int32) (10242 : Int32))))] [])) _
        refine XS.iconst X99.here hx rfl (hb hby at_175) ?_
        show Steps p.tables e below (T99.setTop (mkF m 176 #[.val (.int p0), .val (.int p1), .val (.ref b2), .val (.int jj), .val (.int (g1_106_t0 p1)), .val (.int (1793 : Int32)), .val (.int (10242 : Int32)), .val (.int (g2_129_t0 (g1_106_t0 p1) (1793 : Int32) (10242 : Int32))), .val (.int (g3_146_t0 jj (g2_129_t0 (g1_106_t0 p1) (1793 : Int32) (10242 : Int32))))] [(.int (1 : Int32))])) _
        refine XS.goto X99.here hx rfl (pc0 := 176) (pc' := 180) rfl (hb hby at_176) (by decide) (by decide) ?_
        exact κ)
    obtain ⟨fs, hr, hrun, hended, hW, hsame⟩ := X99.leave (v := some (.int (1 : Int32))) (fun h => by rw [Bd.returns] at h; cases h)
    refine ⟨_, _, c101 _ (retN X99 hx (t := .boolean) Bd.returns (by simp) (hb hby at_180) hr), hrun, hended, _, _, rfl, ?_, ⟨_, rfl⟩, hW, hsame.mono (by decide) (by decide)⟩
    show Q_rm0 Z p0 p1 x1 x2 x3 x4 x5 x6 x7 x8 x9 x10 x11 x12 x13 x14 h0 n0 _ T99.heap _
    rw [e99]
    exact ⟨rfl, N99⟩
  · have c96 : ∀ τ, Steps p.tables e below (T86.setTop (mkF m 164 #[.val (.int p0), .val (.int p1), .val (.ref b2), .val (.int jj), .val (.int (g1_106_t0 p1)), .val (.int (1793 : Int32)), .val (.int (10242 : Int32)), .val (.int (g2_129_t0 (g1_106_t0 p1) (1793 : Int32) (10242 : Int32))), .val (.int (g3_146_t0 jj (g2_129_t0 (g1_106_t0 p1) (1793 : Int32) (10242 : Int32))))] [(.int jj), (.ref b2)])) τ → Steps p.tables e below (s₁.setTop (entryFrame m #[(.int p0), (.int p1)] maxLocals)) τ := fun τ κ => c94 τ (by
        show Steps p.tables e below (T86.setTop (mkF m 162 #[.val (.int p0), .val (.int p1), .val (.ref b2), .val (.int jj), .val (.int (g1_106_t0 p1)), .val (.int (1793 : Int32)), .val (.int (10242 : Int32)), .val (.int (g2_129_t0 (g1_106_t0 p1) (1793 : Int32) (10242 : Int32))), .val (.int (g3_146_t0 jj (g2_129_t0 (g1_106_t0 p1) (1793 : Int32) (10242 : Int32))))] [])) _
        refine XS.aloadN X86.here hx rfl (hb hby at_162) rfl rfl ?_
        show Steps p.tables e below (T86.setTop (mkF m 163 #[.val (.int p0), .val (.int p1), .val (.ref b2), .val (.int jj), .val (.int (g1_106_t0 p1)), .val (.int (1793 : Int32)), .val (.int (10242 : Int32)), .val (.int (g2_129_t0 (g1_106_t0 p1) (1793 : Int32) (10242 : Int32))), .val (.int (g3_146_t0 jj (g2_129_t0 (g1_106_t0 p1) (1793 : Int32) (10242 : Int32))))] [(.ref b2)])) _
        refine XS.iloadN X86.here hx rfl (hb hby at_163) rfl ?_
        exact κ)
    have c97 : ∀ τ, Steps p.tables e below (T86.setTop (mkF m 165 #[.val (.int p0), .val (.int p1), .val (.ref b2), .val (.int jj), .val (.int (g1_106_t0 p1)), .val (.int (1793 : Int32)), .val (.int (10242 : Int32)), .val (.int (g2_129_t0 (g1_106_t0 p1) (1793 : Int32) (10242 : Int32))), .val (.int (g3_146_t0 jj (g2_129_t0 (g1_106_t0 p1) (1793 : Int32) (10242 : Int32))))] [(.ref x14)])) τ → Steps p.tables e below (s₁.setTop (entryFrame m #[(.int p0), (.int p1)] maxLocals)) τ := fun τ κ => c96 τ (own_aaload X86 hx hZ e86 V86 (j := jj) hj14 (v := (.ref x14)) (by rw [hk]; rfl) (g := (mkF m 164 #[.val (.int p0), .val (.int p1), .val (.ref b2), .val (.int jj), .val (.int (g1_106_t0 p1)), .val (.int (1793 : Int32)), .val (.int (10242 : Int32)), .val (.int (g2_129_t0 (g1_106_t0 p1) (1793 : Int32) (10242 : Int32))), .val (.int (g3_146_t0 jj (g2_129_t0 (g1_106_t0 p1) (1793 : Int32) (10242 : Int32))))] [(.int jj), (.ref b2)])) rfl rfl (hb hby at_164) _ κ)
    have c98 : ∀ τ, Steps p.tables e below (T86.setTop (mkF m 167 #[.val (.int p0), .val (.int p1), .val (.ref b2), .val (.int jj), .val (.int (g1_106_t0 p1)), .val (.int (1793 : Int32)), .val (.int (10242 : Int32)), .val (.int (g2_129_t0 (g1_106_t0 p1) (1793 : Int32) (10242 : Int32))), .val (.int (g3_146_t0 jj (g2_129_t0 (g1_106_t0 p1) (1793 : Int32) (10242 : Int32))))] [(.int (g1_106_t0 p1)), (.ref x14)])) τ → Steps p.tables e below (s₁.setTop (entryFrame m #[(.int p0), (.int p1)] maxLocals)) τ := fun τ κ => c97 τ (by
        show Steps p.tables e below (T86.setTop (mkF m 165 #[.val (.int p0), .val (.int p1), .val (.ref b2), .val (.int jj), .val (.int (g1_106_t0 p1)), .val (.int (1793 : Int32)), .val (.int (10242 : Int32)), .val (.int (g2_129_t0 (g1_106_t0 p1) (1793 : Int32) (10242 : Int32))), .val (.int (g3_146_t0 jj (g2_129_t0 (g1_106_t0 p1) (1793 : Int32) (10242 : Int32))))] [(.ref x14)])) _
        refine XS.iload X86.here hx rfl (hb hby at_165) rfl ?_
        exact κ)
    obtain ⟨cq99, kq99, q99a, q99b, q99c⟩ := isOf hZ e86 (Ea14.ext f95.2)
    obtain ⟨_, _, ⟨T99, L99, k99, n99⟩, -, X99, ⟨Lc99, hQ99, l99, y99, z99⟩, st99⟩ := X86.virtualBack hx (y := (⟨"com/example/node_sieve/nodesieve/Axis", "selectsOnce", "(Z)Z"⟩ : MethodName)) (z := (⟨"com/example/node_sieve/nodesieve/Axis", "selectsOnce", "(Z)Z"⟩ : MethodName)) hown (mvT hZ (hw _ (List.mem_of_getElem? (i := 46) rfl))) (mvT hZ (hw _ (List.mem_of_getElem? (i := 47) rfl))) (notFace_of_selects (args := #[]) (mvT hZ (hw _ (List.mem_of_getElem? (i := 69) rfl)))) (mvT hZ (hw _ (List.mem_of_getElem? (i := 69) rfl))) (mvT hZ (hw _ (List.mem_of_getElem? (i := 48) rfl))) (by decide) (backOf (W := 0) (rm1_SUBTREE_ATTRIBUTE l Z a0 hw [] x14 (g1_106_t0 p1) x1 x9 x10 x11 x2 x12 h86 n0 Z86 (Sa1.ext f95.2) (Sa9.ext f95.2) (Sa10.ext f95.2) (Sa11.ext f95.2) (Sa2.ext f95.2) (Sa12.ext f95.2) (Sa14.ext f95.2) (ne_exa (Ea14) (Ea1) (by decide)) (ne_exa (Ea14) (Ea9) (by decide)) (ne_exa (Ea14) (Ea10) (by decide)) (ne_exa (Ea14) (Ea11) (by decide)) (ne_exa (Ea14) (Ea2) (by decide)) (ne_exa (Ea14) (Ea12) (by decide))) hZ (hw _ (List.mem_of_getElem? (i := 50) rfl)) (hw _ (List.mem_of_getElem? (i := 3) rfl)) (by decide) (by decide)) q99a q99c (g := (mkF m 167 #[.val (.int p0), .val (.int p1), .val (.ref b2), .val (.int jj), .val (.int (g1_106_t0 p1)), .val (.int (1793 : Int32)), .val (.int (10242 : Int32)), .val (.int (g2_129_t0 (g1_106_t0 p1) (1793 : Int32) (10242 : Int32))), .val (.int (g3_146_t0 jj (g2_129_t0 (g1_106_t0 p1) (1793 : Int32) (10242 : Int32))))] [(.int (g1_106_t0 p1)), (.ref x14)])) rfl (by rw [hml]; rfl) (Steps.refl _) (argsL := [(.int (g1_106_t0 p1))]) (rest := []) (lenOf pd_0 rfl) rfl (by show 2 * 0 + _ ≤ _; exact Nat.le_of_eq rfl) (hb hby at_167) (fun _ _ => ⟨rfl, e86, (by decide : 1 + 0 ≤ _), (by decide : 14 + 0 ≤ _)⟩)
    dsimp only [Pt.U, Pt.locs, Pt.cells, Pt.slots] at X99 l99 y99 z99 st99 hQ99
    rw [y99, z99] at X99
    obtain ⟨rfl, N99q, e99⟩ := hQ99
    have N99 : Fr n0 L99 := by rw [l99]; exact Fr.app N86 N99q
    replace X99 : Stand p l e _ s m _ below meth c T99 L99 1 14 := X99
    clear l99 y99 z99
    have c100 : ∀ τ, Steps p.tables e below (T99.setTop (mkF m 170 #[.val (.int p0), .val (.int p1), .val (.ref b2), .val (.int jj), .val (.int (g1_106_t0 p1)), .val (.int (1793 : Int32)), .val (.int (10242 : Int32)), .val (.int (g2_129_t0 (g1_106_t0 p1) (1793 : Int32) (10242 : Int32))), .val (.int (g3_146_t0 jj (g2_129_t0 (g1_106_t0 p1) (1793 : Int32) (10242 : Int32))))] [(.int (s_SUBTREE_ATTRIBUTE_61_t0 (g1_106_t0 p1) (0 : Int32) (1 : Int32)))])) τ → Steps p.tables e below (s₁.setTop (entryFrame m #[(.int p0), (.int p1)] maxLocals)) τ := fun τ κ => c98 τ (st99.trans κ)
    have c101 : ∀ τ, Steps p.tables e below (T99.setTop (mkF m 180 #[.val (.int p0), .val (.int p1), .val (.ref b2), .val (.int jj), .val (.int (g1_106_t0 p1)), .val (.int (1793 : Int32)), .val (.int (10242 : Int32)), .val (.int (g2_129_t0 (g1_106_t0 p1) (1793 : Int32) (10242 : Int32))), .val (.int (g3_146_t0 jj (g2_129_t0 (g1_106_t0 p1) (1793 : Int32) (10242 : Int32))))] [(.int (1 : Int32))])) τ → Steps p.tables e below (s₁.setTop (entryFrame m #[(.int p0), (.int p1)] maxLocals)) τ := fun τ κ => c100 τ (by
        show Steps p.tables e below (T99.setTop (mkF m 170 #[.val (.int p0), .val (.int p1), .val (.ref b2), .val (.int jj), .val (.int (g1_106_t0 p1)), .val (.int (1793 : Int32)), .val (.int (10242 : Int32)), .val (.int (g2_129_t0 (g1_106_t0 p1) (1793 : Int32) (10242 : Int32))), .val (.int (g3_146_t0 jj (g2_129_t0 (g1_106_t0 p1) (1793 : Int32) (10242 : Int32))))] [(.int (s_SUBTREE_ATTRIBUTE_61_t0 (g1_106_t0 p1) (0 : Int32) (1 : Int32)))])) _
        refine XS.iload X99.here hx rfl (hb hby at_170) rfl ?_
        show Steps p.tables e below (T99.setTop (mkF m 172 #[.val (.int p0), .val (.int p1), .val (.ref b2), .val (.int jj), .val (.int (g1_106_t0 p1)), .val (.int (1793 : Int32)), .val (.int (10242 : Int32)), .val (.int (g2_129_t0 (g1_106_t0 p1) (1793 : Int32) (10242 : Int32))), .val (.int (g3_146_t0 jj (g2_129_t0 (g1_106_t0 p1) (1793 : Int32) (10242 : Int32))))] [(.int (g3_146_t0 jj (g2_129_t0 (g1_106_t0 p1) (1793 : Int32) (10242 : Int32)))), (.int (s_SUBTREE_ATTRIBUTE_61_t0 (g1_106_t0 p1) (0 : Int32) (1 : Int32)))])) _
        refine XS.icmpNo X99.here hx rfl (hb hby at_172) rfl (teq (own_l13 p1 jj hk)).2 ?_
        show Steps p.tables e below (T99.setTop (mkF m 175 #[.val (.int p0), .val (.int p1), .val (.ref b2), .val (.int jj), .val (.int (g1_106_t0 p1)), .val (.int (1793 : Int32)), .val (.int (10242 : Int32)), .val (.int (g2_129_t0 (g1_106_t0 p1) (1793 : Int32) (10242 : Int32))), .val (.int (g3_146_t0 jj (g2_129_t0 (g1_106_t0 p1) (1793 : Int32) (10242 : Int32))))] [])) _
        refine XS.iconst X99.here hx rfl (hb hby at_175) ?_
        show Steps p.tables e below (T99.setTop (mkF m 176 #[.val (.int p0), .val (.int p1), .val (.ref b2), .val (.int jj), .val (.int (g1_106_t0 p1)), .val (.int (1793 : Int32)), .val (.int (10242 : Int32)), .val (.int (g2_129_t0 (g1_106_t0 p1) (1793 : Int32) (10242 : Int32))), .val (.int (g3_146_t0 jj (g2_129_t0 (g1_106_t0 p1) (1793 : Int32) (10242 : Int32))))] [(.int (1 : Int32))])) _
        refine XS.goto X99.here hx rfl (pc0 := 176) (pc' := 180) rfl (hb hby at_176) (by decide) (by decide) ?_
        exact κ)
    obtain ⟨fs, hr, hrun, hended, hW, hsame⟩ := X99.leave (v := some (.int (1 : Int32))) (fun h => by rw [Bd.returns] at h; cases h)
    refine ⟨_, _, c101 _ (retN X99 hx (t := .boolean) Bd.returns (by simp) (hb hby at_180) hr), hrun, hended, _, _, rfl, ?_, ⟨_, rfl⟩, hW, hsame.mono (by decide) (by decide)⟩
    show Q_rm0 Z p0 p1 x1 x2 x3 x4 x5 x6 x7 x8 x9 x10 x11 x12 x13 x14 h0 n0 _ T99.heap _
    rw [e99]
    exact ⟨rfl, N99⟩
set_option maxRecDepth 65536 in
set_option maxHeartbeats 40000000 in
theorem comes_1 {Post : Tables → Env → Array Value → State → Outcome → State → Prop} (hpost : ∀ tb e args s v u, (limb_1_1.after args s (.returned v) u = true ∧ limb_1_2.after args s (.returned v) u = true ∧ True) → FrameEnd s (.returned v) u (Jvm.fieldLocs frame_1_writes args s ++ Jvm.arrayLocs frame_1_arrays args s ++ Jvm.staticLocs frame_1_statics s) 16 128 → Post tb e args s (.returned v) u) :
    ArmFor flags0 classFile x code maxLocals ret World_1 tables_1 room_1 Calls_1 rest_1 Pre_1 Post := by
  intro l hfl _ _ p e ha hc hk s m args below hf hA hF happ hP
  obtain ⟨hcalls, hrest, hpre⟩ := hP
  obtain ⟨-, -, -, hnamed, -, -, -, hat⟩ := (Spec.applies_iff hf).mp happ
  obtain ⟨hg, hn⟩ := and_e (Cond.before_iff.mp (show (Jvm.Cond.and given_1 narrow_1).before args s = true from hpre))
  obtain ⟨g1, g2⟩ := and_e hg
  obtain ⟨g3, g4⟩ := and_e g2
  obtain ⟨w0, w1, rfl⟩ : ∃ w0 w1 : Value, args = #[w0, w1] := by
    have hs : args.size = 2 := by simpa [Cond.value, given_1] using g1
    obtain ⟨L⟩ := args
    match L, hs with
    | [w0, w1], _ => exact ⟨w0, w1, rfl⟩
  have hw := fun d (hd : d ∈ tables_1) => atoms_spec (ws := Jvm.Cond.code x code maxLocals ret :: tables_1) hat d (List.mem_cons_of_mem _ hd)
  have hfit : Fit s := fun {y c} hc i hi => by
    obtain ⟨ha, rfl⟩ := Array.getElem?_eq_some_iff.mp hc
    have q := List.all_eq_true.mp ((Array.all_eq_true_iff_forall_mem.mp hF) _ (Array.getElem_mem ha)) i (List.mem_range.mpr hi)
    simpa [Array.getElem?_eq_getElem hi] using q
  obtain ⟨i0, ei0⟩ := is_v g3
  obtain rfl : w0 = (.int i0) := Option.some.inj ei0
  obtain ⟨i1, ei1⟩ := is_v g4
  obtain rfl : w1 = (.int i1) := Option.some.inj ei1
  obtain ⟨e1, r1⟩ := and_e hn
  obtain ⟨x1, _, _, _, v1, -⟩ := Cond.exactly_spec (Cond.before_iff.mpr e1)
  have Sa1 := Sta.start v1 (Or.inr ⟨(hw _ (List.mem_of_getElem? (i := 3) rfl)), (hw _ (List.mem_of_getElem? (i := 4) rfl))⟩)
  have Ea1 := Exa.start v1 e1
  obtain ⟨e2, r2⟩ := and_e r1
  obtain ⟨x2, _, _, _, v2, -⟩ := Cond.exactly_spec (Cond.before_iff.mpr e2)
  have Sa2 := Sta.start v2 (Or.inr ⟨(hw _ (List.mem_of_getElem? (i := 3) rfl)), (hw _ (List.mem_of_getElem? (i := 7) rfl))⟩)
  have Ea2 := Exa.start v2 e2
  obtain ⟨e3, r3⟩ := and_e r2
  obtain ⟨x3, _, _, _, v3, -⟩ := Cond.exactly_spec (Cond.before_iff.mpr e3)
  have Sa3 := Sta.start v3 (Or.inr ⟨(hw _ (List.mem_of_getElem? (i := 3) rfl)), (hw _ (List.mem_of_getElem? (i := 10) rfl))⟩)
  have Ea3 := Exa.start v3 e3
  obtain ⟨e4, r4⟩ := and_e r3
  obtain ⟨x4, _, _, _, v4, -⟩ := Cond.exactly_spec (Cond.before_iff.mpr e4)
  have Sa4 := Sta.start v4 (Or.inr ⟨(hw _ (List.mem_of_getElem? (i := 3) rfl)), (hw _ (List.mem_of_getElem? (i := 13) rfl))⟩)
  have Ea4 := Exa.start v4 e4
  obtain ⟨e5, r5⟩ := and_e r4
  obtain ⟨x5, _, _, _, v5, -⟩ := Cond.exactly_spec (Cond.before_iff.mpr e5)
  have Sa5 := Sta.start v5 (Or.inr ⟨(hw _ (List.mem_of_getElem? (i := 3) rfl)), (hw _ (List.mem_of_getElem? (i := 16) rfl))⟩)
  have Ea5 := Exa.start v5 e5
  obtain ⟨e6, r6⟩ := and_e r5
  obtain ⟨x6, _, _, _, v6, -⟩ := Cond.exactly_spec (Cond.before_iff.mpr e6)
  have Sa6 := Sta.start v6 (Or.inr ⟨(hw _ (List.mem_of_getElem? (i := 3) rfl)), (hw _ (List.mem_of_getElem? (i := 19) rfl))⟩)
  have Ea6 := Exa.start v6 e6
  obtain ⟨e7, r7⟩ := and_e r6
  obtain ⟨x7, _, _, _, v7, -⟩ := Cond.exactly_spec (Cond.before_iff.mpr e7)
  have Sa7 := Sta.start v7 (Or.inr ⟨(hw _ (List.mem_of_getElem? (i := 3) rfl)), (hw _ (List.mem_of_getElem? (i := 22) rfl))⟩)
  have Ea7 := Exa.start v7 e7
  obtain ⟨e8, r8⟩ := and_e r7
  obtain ⟨x8, _, _, _, v8, -⟩ := Cond.exactly_spec (Cond.before_iff.mpr e8)
  have Sa8 := Sta.start v8 (Or.inr ⟨(hw _ (List.mem_of_getElem? (i := 3) rfl)), (hw _ (List.mem_of_getElem? (i := 25) rfl))⟩)
  have Ea8 := Exa.start v8 e8
  obtain ⟨e9, r9⟩ := and_e r8
  obtain ⟨x9, _, _, _, v9, -⟩ := Cond.exactly_spec (Cond.before_iff.mpr e9)
  have Sa9 := Sta.start v9 (Or.inr ⟨(hw _ (List.mem_of_getElem? (i := 3) rfl)), (hw _ (List.mem_of_getElem? (i := 28) rfl))⟩)
  have Ea9 := Exa.start v9 e9
  obtain ⟨e10, r10⟩ := and_e r9
  obtain ⟨x10, _, _, _, v10, -⟩ := Cond.exactly_spec (Cond.before_iff.mpr e10)
  have Sa10 := Sta.start v10 (Or.inr ⟨(hw _ (List.mem_of_getElem? (i := 3) rfl)), (hw _ (List.mem_of_getElem? (i := 31) rfl))⟩)
  have Ea10 := Exa.start v10 e10
  obtain ⟨e11, r11⟩ := and_e r10
  obtain ⟨x11, _, _, _, v11, -⟩ := Cond.exactly_spec (Cond.before_iff.mpr e11)
  have Sa11 := Sta.start v11 (Or.inr ⟨(hw _ (List.mem_of_getElem? (i := 3) rfl)), (hw _ (List.mem_of_getElem? (i := 34) rfl))⟩)
  have Ea11 := Exa.start v11 e11
  obtain ⟨e12, r12⟩ := and_e r11
  obtain ⟨x12, _, _, _, v12, -⟩ := Cond.exactly_spec (Cond.before_iff.mpr e12)
  have Sa12 := Sta.start v12 (Or.inr ⟨(hw _ (List.mem_of_getElem? (i := 3) rfl)), (hw _ (List.mem_of_getElem? (i := 37) rfl))⟩)
  have Ea12 := Exa.start v12 e12
  obtain ⟨e13, r13⟩ := and_e r12
  obtain ⟨x13, _, _, _, v13, -⟩ := Cond.exactly_spec (Cond.before_iff.mpr e13)
  have Sa13 := Sta.start v13 (Or.inr ⟨(hw _ (List.mem_of_getElem? (i := 3) rfl)), (hw _ (List.mem_of_getElem? (i := 40) rfl))⟩)
  have Ea13 := Exa.start v13 e13
  obtain ⟨x14, _, _, _, v14, -⟩ := Cond.exactly_spec (Cond.before_iff.mpr r13)
  have Sa14 := Sta.start v14 (Or.inr ⟨(hw _ (List.mem_of_getElem? (i := 3) rfl)), (hw _ (List.mem_of_getElem? (i := 43) rfl))⟩)
  have Ea14 := Exa.start v14 r13
  obtain ⟨n, o, h1, h2, h3, _, L, rfl, ⟨rfl, N⟩, hq⟩ := rm0 l s _ hw tables_1 i0 i1 x1 x2 x3 x4 x5 x6 x7 x8 x9 x10 x11 x12 x13 x14 s.heap s.heap.size (Nat.le_refl _) (Old.start s) Sa1 Ea1 Sa2 Ea2 Sa3 Ea3 Sa4 Ea4 Sa5 Ea5 Sa6 Ea6 Sa7 Ea7 Sa8 Ea8 Sa9 Ea9 Sa10 Ea10 Sa11 Ea11 Sa12 Ea12 Sa13 Ea13 Sa14 Ea14 p e ha hc hk s m _ below hf ((Spec.applies_iff_loose hf).mp happ).1 ⟨rfl, State.Warmed39.refl s, rfl⟩ trivial
  refine ⟨n, _, h1, h2, h3, hpost _ _ _ _ _ _ ⟨Cond.after_iff.mpr rfl, Cond.after_iff.mpr (eq_i res_at (Term.int_eval (1)) rfl), trivial⟩ ⟨hq.1, hq.2.1, (hq.2.2.sift fun y hy => Or.inr (N y hy)).mono (by decide) (by decide)⟩⟩
theorem main_1_1 : Claimed_1_1 := comes_1 fun _ _ _ _ _ _ h hF => ⟨h.1, hF⟩
theorem main_1_2 : Claimed_1_2 := comes_1 fun _ _ _ _ _ _ h hF => ⟨h.2.1, hF⟩
end Jvm.Pilot.@@N@@
namespace Jvm.Pilot.@@N@@
open Jvm Jvm.ClassFile Sem Op Lib Jvm.Free Jvm.Stand Jvm.Pilot.@@N@@.Jvm.D
/-! MADE BY PROGRAM (witnessworld.py) out of the Statement's table words and the real class files: 27 classes; the members and pool entries that the words name. The judged class is class 1, her method 1. -/
namespace start1
open Jvm.ClassFile
def u (s : String) : CpInfo := .utf8 (stringToUtf16 s)
/-- a pool by its gaps: so many unusable entries, then the entry; so many at the end -/
def gap : Nat → List CpInfo → List CpInfo
  | 0, r => r
  | n + 1, r => .unusable :: gap n r
def poolList (es : List (Nat × CpInfo)) (last : Nat) : List CpInfo := es.foldr (fun e r => gap e.1 (e.2 :: r)) (gap last [])
def pool (es : List (Nat × CpInfo)) (last : Nat) : Array CpInfo := ⟨poolList es last⟩
def fileOf (pool : Array CpInfo) (this : Nat) (attrs : Array Attribute := #[]) (ms : Array MethodInfo := #[]) (fl : Nat := 33) (sup : Nat := 0) (ifs : Array Nat := #[]) (fds : Array FieldInfo := #[]) : ClassFile where
  minorVersion := 0
  majorVersion := 65
  constantPool := pool
  accessFlags := fl
  thisClass := this
  superClass := sup
  interfaces := ifs
  fields := fds
  methods := ms
  attributes := attrs
def plain (name : String) (sup : Option ClassId) : Class where
  name := name
  kind := .ordinary
  loader := none
  accessFlags := 33
  super := sup
  interfaces := #[]
  cf := none
  fields := #[]
  methods := #[]
  instanceTypes := #[]
  staticTypes := #[]
  resolved := #[]
  callSites := []
  init := .initialized
  statics := none
  mirror := none

def pool0 : Array CpInfo := pool [(5, u "<init>"), (0, u "()V"), (1, .class_ 10), (1, u "java/lang/Object")] 113

def k0m0 : Method := { name := "<init>", desc := "()V", sig := { parameters := [], returnType := none }, accessFlags := 1, code := none }
/-- java/lang/Object -/
def k0 : Class := { plain "java/lang/Object" none with
  accessFlags := 33
  interfaces := #[]
  cf := some (fileOf pool0 8 #[] #[{ accessFlags := 1, nameIndex := 5, descriptorIndex := 6, attributes := #[] }] 33 0 #[] #[])
  fields := #[]
  methods := #[k0m0]
  instanceTypes := #[]
  staticTypes := #[]
  resolved := Array.replicate 124 none
  statics := none }

def pool1 : Array CpInfo := pool [(2, .class_ 4), (1, u "java/lang/Object"), (0, u "<init>"), (0, u "()V"), (0, .class_ 8), (0, u "com/example/node_sieve/nodesieve/Axis"), (0, .fieldref 7 10), (0, .nameAndType 11 12), (0, u "CHILD"), (0, u "Lcom/example/node_sieve/nodesieve/Axis;"), (0, .fieldref 7 14), (0, .nameAndType 15 12), (0, u "DESCENDANT"), (0, .fieldref 7 17), (0, .nameAndType 18 12), (0, u "PARENT"), (0, .fieldref 7 20), (0, .nameAndType 21 12), (0, u "ANCESTOR"), (0, .fieldref 7 23), (0, .nameAndType 24 12), (0, u "FOLLOWING_SIBLING"), (0, .fieldref 7 26), (0, .nameAndType 27 12), (0, u "PRECEDING_SIBLING"), (0, .fieldref 7 29), (0, .nameAndType 30 12), (0, u "FOLLOWING"), (0, .fieldref 7 32), (0, .nameAndType 33 12), (0, u "PRECEDING"), (0, .fieldref 7 35), (0, .nameAndType 36 12), (0, u "ATTRIBUTE"), (0, .fieldref 7 38), (0, .nameAndType 39 12), (0, u "NAMESPACE"), (0, .fieldref 7 41), (0, .nameAndType 42 12), (0, u "SELF"), (0, .fieldref 7 44), (0, .nameAndType 45 12), (0, u "DESCENDANT_OR_SELF"), (0, .fieldref 7 47), (0, .nameAndType 48 12), (0, u "ANCESTOR_OR_SELF"), (0, .fieldref 7 50), (0, .nameAndType 51 12), (0, u "SUBTREE_ATTRIBUTE"), (0, .integer 2147483647), (0, .methodref 7 54), (0, .nameAndType 55 56), (0, u "selectsOnce"), (0, u "(Z)Z"), (0, .class_ 58), (0, u "com/example/node_sieve/nodesieve/AxisSelectsOncePinLaw"), (2, u "law"), (0, u "(II)Z")] 5

def k1m0 : Method := { name := "<init>", desc := "()V", sig := { parameters := [], returnType := none }, accessFlags := 1, code := none }
def k1c1 : Code := { maxStack := 4, maxLocals := 9, code := code, exceptionTable := #[], attributes := #[] }
def k1m1 : Method := { name := "law", desc := "(II)Z", sig := { parameters := [.int, .int], returnType := some .boolean }, accessFlags := 9, code := some k1c1 }
/-- com/example/node_sieve/nodesieve/AxisSelectsOncePinLaw -/
def k1 : Class := { plain "com/example/node_sieve/nodesieve/AxisSelectsOncePinLaw" (some 0) with
  accessFlags := 49
  interfaces := #[]
  cf := some (fileOf pool1 57 #[] #[{ accessFlags := 1, nameIndex := 5, descriptorIndex := 6, attributes := #[] }, { accessFlags := 9, nameIndex := 61, descriptorIndex := 62, attributes := #[] }] 49 2 #[] #[])
  fields := #[]
  methods := #[k1m0, k1m1]
  instanceTypes := #[]
  staticTypes := #[]
  resolved := Array.replicate 68 none
  statics := none }

def pool2 : Array CpInfo := pool [(1, .class_ 2), (0, u "java/lang/constant/Constable"), (0, .class_ 4), (0, u "java/lang/Object")] 6

/-- java/lang/constant/Constable -/
def k2 : Class := { plain "java/lang/constant/Constable" (some 0) with
  accessFlags := 1537
  interfaces := #[]
  cf := some (fileOf pool2 1 #[] #[] 1537 3 #[] #[])
  fields := #[]
  methods := #[]
  instanceTypes := #[]
  staticTypes := #[]
  resolved := Array.replicate 11 none
  statics := none }

def pool3 : Array CpInfo := pool [(1, .class_ 2), (0, u "java/lang/Comparable"), (0, .class_ 4), (0, u "java/lang/Object")] 7

/-- java/lang/Comparable -/
def k3 : Class := { plain "java/lang/Comparable" (some 0) with
  accessFlags := 1537
  interfaces := #[]
  cf := some (fileOf pool3 1 #[] #[] 1537 3 #[] #[])
  fields := #[]
  methods := #[]
  instanceTypes := #[]
  staticTypes := #[]
  resolved := Array.replicate 12 none
  statics := none }

def pool4 : Array CpInfo := pool [(1, .class_ 2), (0, u "java/io/Serializable"), (0, .class_ 4), (0, u "java/lang/Object")] 2

/-- java/io/Serializable -/
def k4 : Class := { plain "java/io/Serializable" (some 0) with
  accessFlags := 1537
  interfaces := #[]
  cf := some (fileOf pool4 1 #[] #[] 1537 3 #[] #[])
  fields := #[]
  methods := #[]
  instanceTypes := #[]
  staticTypes := #[]
  resolved := Array.replicate 7 none
  statics := none }

def pool5 : Array CpInfo := pool [(2, .class_ 4), (1, u "java/lang/Enum"), (0, u "name"), (0, u "Ljava/lang/String;"), (2, u "ordinal"), (0, u "I"), (1, .class_ 14), (1, u "java/lang/Object"), (4, u "hash"), (86, .class_ 108), (1, u "java/lang/Enum$EnumDesc"), (2, .class_ 112), (0, u "java/lang/constant/Constable"), (0, .class_ 114), (0, u "java/lang/Comparable"), (0, .class_ 116), (0, u "java/io/Serializable")] 87

/-- java/lang/Enum -/
def k5 : Class := { plain "java/lang/Enum" (some 0) with
  accessFlags := 1057
  interfaces := #[2, 3, 4]
  cf := some (fileOf pool5 2 #[.nestMembers #[106]] #[] 1057 12 #[111, 113, 115] #[{ accessFlags := 18, nameIndex := 5, descriptorIndex := 6, attributes := #[] }, { accessFlags := 18, nameIndex := 9, descriptorIndex := 10, attributes := #[] }, { accessFlags := 2, nameIndex := 19, descriptorIndex := 10, attributes := #[] }])
  fields := #[{ name := "name", type := (.object "java/lang/String"), accessFlags := 18, slot := 0, constantValue := 0 }, { name := "ordinal", type := .int, accessFlags := 18, slot := 1, constantValue := 0 }, { name := "hash", type := .int, accessFlags := 2, slot := 2, constantValue := 0 }]
  methods := #[]
  instanceTypes := #[(.object "java/lang/String"), .int, .int]
  staticTypes := #[]
  resolved := Array.replicate 204 none
  statics := none }

def pool6 : Array CpInfo := pool [(1, .class_ 2), (0, u "com/example/node_sieve/nodesieve/Axis"), (0, .fieldref 1 4), (0, .nameAndType 5 6), (0, u "CHILD"), (0, u "Lcom/example/node_sieve/nodesieve/Axis;"), (0, .fieldref 1 8), (0, .nameAndType 9 6), (0, u "DESCENDANT"), (2, u "PARENT"), (2, u "ANCESTOR"), (2, u "FOLLOWING_SIBLING"), (2, u "PRECEDING_SIBLING"), (2, u "FOLLOWING"), (2, u "PRECEDING"), (0, .fieldref 1 29), (0, .nameAndType 30 6), (0, u "ATTRIBUTE"), (0, .fieldref 1 32), (0, .nameAndType 33 6), (0, u "NAMESPACE"), (0, .fieldref 1 35), (0, .nameAndType 36 6), (0, u "SELF"), (0, .fieldref 1 38), (0, .nameAndType 39 6), (0, u "DESCENDANT_OR_SELF"), (2, u "ANCESTOR_OR_SELF"), (0, .fieldref 1 44), (0, .nameAndType 45 6), (0, u "SUBTREE_ATTRIBUTE"), (2, u "$VALUES"), (0, u "[Lcom/example/node_sieve/nodesieve/Axis;"), (6, .class_ 58), (1, u "java/lang/Enum"), (8, u "axisName"), (0, u "Ljava/lang/String;"), (2, u "principalKind"), (0, u "Lcom/example/node_sieve/nodesieve/NodeKind;"), (2, u "reverse"), (0, u "Z"), (34, .class_ 113), (1, u "com/example/node_sieve/nodesieve/Axis$Walk"), (4, .class_ 119), (0, u "com/example/node_sieve/nodesieve/Axis$Listed"), (13, .class_ 135), (1, u "com/example/node_sieve/nodesieve/Axis$Region"), (50, .class_ 187), (0, u "com/example/node_sieve/nodesieve/Axis$TreeWalk"), (4, .class_ 194), (1, u "com/example/node_sieve/nodesieve/Axis$Move"), (35, .class_ 231), (0, u "com/example/node_sieve/nodesieve/Axis$1"), (9, .class_ 242), (0, u "com/example/node_sieve/nodesieve/Axis$2"), (4, .class_ 248), (0, u "com/example/node_sieve/nodesieve/Axis$3"), (3, .class_ 253), (0, u "com/example/node_sieve/nodesieve/Axis$4"), (4, .class_ 259), (0, u "com/example/node_sieve/nodesieve/Axis$5"), (4, .class_ 265), (0, u "com/example/node_sieve/nodesieve/Axis$6"), (4, .class_ 271), (0, u "com/example/node_sieve/nodesieve/Axis$7"), (4, .class_ 277), (0, u "com/example/node_sieve/nodesieve/Axis$8"), (4, .class_ 283), (0, u "com/example/node_sieve/nodesieve/Axis$9"), (4, .class_ 289), (0, u "com/example/node_sieve/nodesieve/Axis$10"), (4, .class_ 295), (0, u "com/example/node_sieve/nodesieve/Axis$11"), (4, .class_ 301), (0, u "com/example/node_sieve/nodesieve/Axis$12"), (4, .class_ 307), (0, u "com/example/node_sieve/nodesieve/Axis$13"), (4, .class_ 313), (0, u "com/example/node_sieve/nodesieve/Axis$14"), (10, u "ANY_NAME"), (0, u "Lcom/example/node_sieve/nodesieve/NameTest;"), (12, u "selectsOnce"), (0, u "(Z)Z"), (51, .class_ 392), (0, u "com/example/node_sieve/nodesieve/Axis$Preceding"), (0, .class_ 394), (0, u "com/example/node_sieve/nodesieve/Axis$ListedBefore"), (0, .class_ 396), (0, u "com/example/node_sieve/nodesieve/Axis$SubtreeAttributes"), (0, .class_ 398), (0, u "com/example/node_sieve/nodesieve/Axis$Check")] 25

def k6c0 : Code := { maxStack := 2, maxLocals := 4, code := prog_1_method_8_code, exceptionTable := #[], attributes := #[] }
def k6m0 : Method := { name := "selectsOnce", desc := "(Z)Z", sig := { parameters := [.boolean], returnType := some .boolean }, accessFlags := 0, code := some k6c0 }
/-- com/example/node_sieve/nodesieve/Axis -/
def k6 : Class := { plain "com/example/node_sieve/nodesieve/Axis" (some 5) with
  accessFlags := 17440
  interfaces := #[]
  cf := some (fileOf pool6 1 #[.nestMembers #[391, 393, 118, 395, 397, 186, 192, 111, 133, 312, 306, 300, 294, 288, 282, 276, 270, 264, 258, 252, 247, 241, 230]] #[{ accessFlags := 0, nameIndex := 338, descriptorIndex := 339, attributes := #[] }] 17440 56 #[] #[{ accessFlags := 16409, nameIndex := 5, descriptorIndex := 6, attributes := #[] }, { accessFlags := 16409, nameIndex := 9, descriptorIndex := 6, attributes := #[] }, { accessFlags := 16409, nameIndex := 12, descriptorIndex := 6, attributes := #[] }, { accessFlags := 16409, nameIndex := 15, descriptorIndex := 6, attributes := #[] }, { accessFlags := 16409, nameIndex := 18, descriptorIndex := 6, attributes := #[] }, { accessFlags := 16409, nameIndex := 21, descriptorIndex := 6, attributes := #[] }, { accessFlags := 16409, nameIndex := 24, descriptorIndex := 6, attributes := #[] }, { accessFlags := 16409, nameIndex := 27, descriptorIndex := 6, attributes := #[] }, { accessFlags := 16409, nameIndex := 30, descriptorIndex := 6, attributes := #[] }, { accessFlags := 16409, nameIndex := 33, descriptorIndex := 6, attributes := #[] }, { accessFlags := 16409, nameIndex := 36, descriptorIndex := 6, attributes := #[] }, { accessFlags := 16409, nameIndex := 39, descriptorIndex := 6, attributes := #[] }, { accessFlags := 16409, nameIndex := 42, descriptorIndex := 6, attributes := #[] }, { accessFlags := 16409, nameIndex := 45, descriptorIndex := 6, attributes := #[] }, { accessFlags := 26, nameIndex := 324, descriptorIndex := 325, attributes := #[] }, { accessFlags := 18, nameIndex := 67, descriptorIndex := 68, attributes := #[] }, { accessFlags := 18, nameIndex := 71, descriptorIndex := 72, attributes := #[] }, { accessFlags := 18, nameIndex := 75, descriptorIndex := 76, attributes := #[] }, { accessFlags := 4122, nameIndex := 48, descriptorIndex := 49, attributes := #[] }])
  fields := #[{ name := "CHILD", type := (.object "com/example/node_sieve/nodesieve/Axis"), accessFlags := 16409, slot := 0, constantValue := 0 }, { name := "DESCENDANT", type := (.object "com/example/node_sieve/nodesieve/Axis"), accessFlags := 16409, slot := 1, constantValue := 0 }, { name := "PARENT", type := (.object "com/example/node_sieve/nodesieve/Axis"), accessFlags := 16409, slot := 2, constantValue := 0 }, { name := "ANCESTOR", type := (.object "com/example/node_sieve/nodesieve/Axis"), accessFlags := 16409, slot := 3, constantValue := 0 }, { name := "FOLLOWING_SIBLING", type := (.object "com/example/node_sieve/nodesieve/Axis"), accessFlags := 16409, slot := 4, constantValue := 0 }, { name := "PRECEDING_SIBLING", type := (.object "com/example/node_sieve/nodesieve/Axis"), accessFlags := 16409, slot := 5, constantValue := 0 }, { name := "FOLLOWING", type := (.object "com/example/node_sieve/nodesieve/Axis"), accessFlags := 16409, slot := 6, constantValue := 0 }, { name := "PRECEDING", type := (.object "com/example/node_sieve/nodesieve/Axis"), accessFlags := 16409, slot := 7, constantValue := 0 }, { name := "ATTRIBUTE", type := (.object "com/example/node_sieve/nodesieve/Axis"), accessFlags := 16409, slot := 8, constantValue := 0 }, { name := "NAMESPACE", type := (.object "com/example/node_sieve/nodesieve/Axis"), accessFlags := 16409, slot := 9, constantValue := 0 }, { name := "SELF", type := (.object "com/example/node_sieve/nodesieve/Axis"), accessFlags := 16409, slot := 10, constantValue := 0 }, { name := "DESCENDANT_OR_SELF", type := (.object "com/example/node_sieve/nodesieve/Axis"), accessFlags := 16409, slot := 11, constantValue := 0 }, { name := "ANCESTOR_OR_SELF", type := (.object "com/example/node_sieve/nodesieve/Axis"), accessFlags := 16409, slot := 12, constantValue := 0 }, { name := "SUBTREE_ATTRIBUTE", type := (.object "com/example/node_sieve/nodesieve/Axis"), accessFlags := 16409, slot := 13, constantValue := 0 }, { name := "ANY_NAME", type := (.object "com/example/node_sieve/nodesieve/NameTest"), accessFlags := 26, slot := 14, constantValue := 0 }, { name := "axisName", type := (.object "java/lang/String"), accessFlags := 18, slot := 3, constantValue := 0 }, { name := "principalKind", type := (.object "com/example/node_sieve/nodesieve/NodeKind"), accessFlags := 18, slot := 4, constantValue := 0 }, { name := "reverse", type := .boolean, accessFlags := 18, slot := 5, constantValue := 0 }, { name := "$VALUES", type := (.array (.object "com/example/node_sieve/nodesieve/Axis")), accessFlags := 4122, slot := 15, constantValue := 0 }]
  methods := #[k6m0]
  instanceTypes := #[(.object "java/lang/String"), .int, .int, (.object "java/lang/String"), (.object "com/example/node_sieve/nodesieve/NodeKind"), .boolean]
  staticTypes := #[(.object "com/example/node_sieve/nodesieve/Axis"), (.object "com/example/node_sieve/nodesieve/Axis"), (.object "com/example/node_sieve/nodesieve/Axis"), (.object "com/example/node_sieve/nodesieve/Axis"), (.object "com/example/node_sieve/nodesieve/Axis"), (.object "com/example/node_sieve/nodesieve/Axis"), (.object "com/example/node_sieve/nodesieve/Axis"), (.object "com/example/node_sieve/nodesieve/Axis"), (.object "com/example/node_sieve/nodesieve/Axis"), (.object "com/example/node_sieve/nodesieve/Axis"), (.object "com/example/node_sieve/nodesieve/Axis"), (.object "com/example/node_sieve/nodesieve/Axis"), (.object "com/example/node_sieve/nodesieve/Axis"), (.object "com/example/node_sieve/nodesieve/Axis"), (.object "com/example/node_sieve/nodesieve/NameTest"), (.array (.object "com/example/node_sieve/nodesieve/Axis"))]
  resolved := Array.replicate 424 none
  statics := some 0 }

def pool7 : Array CpInfo := pool [(2, .class_ 4), (1, u "com/example/node_sieve/nodesieve/Axis"), (15, .class_ 22), (1, u "com/example/node_sieve/nodesieve/Axis$1")] 44

/-- com/example/node_sieve/nodesieve/Axis$1 -/
def k7 : Class := { plain "com/example/node_sieve/nodesieve/Axis$1" (some 6) with
  accessFlags := 16432
  interfaces := #[]
  cf := some (fileOf pool7 20 #[.nestHost 2] #[] 16432 2 #[] #[])
  fields := #[]
  methods := #[]
  instanceTypes := #[(.object "java/lang/String"), .int, .int, (.object "java/lang/String"), (.object "com/example/node_sieve/nodesieve/NodeKind"), .boolean]
  staticTypes := #[]
  resolved := Array.replicate 67 none
  statics := none }

def pool8 : Array CpInfo := pool [(2, .class_ 4), (1, u "com/example/node_sieve/nodesieve/Axis"), (9, .class_ 16), (1, u "com/example/node_sieve/nodesieve/Axis$2")] 31

/-- com/example/node_sieve/nodesieve/Axis$2 -/
def k8 : Class := { plain "com/example/node_sieve/nodesieve/Axis$2" (some 6) with
  accessFlags := 16432
  interfaces := #[]
  cf := some (fileOf pool8 14 #[.nestHost 2] #[] 16432 2 #[] #[])
  fields := #[]
  methods := #[]
  instanceTypes := #[(.object "java/lang/String"), .int, .int, (.object "java/lang/String"), (.object "com/example/node_sieve/nodesieve/NodeKind"), .boolean]
  staticTypes := #[]
  resolved := Array.replicate 48 none
  statics := none }

def pool9 : Array CpInfo := pool [(2, .class_ 4), (1, u "com/example/node_sieve/nodesieve/Axis"), (15, .class_ 22), (1, u "com/example/node_sieve/nodesieve/Axis$3")] 18

/-- com/example/node_sieve/nodesieve/Axis$3 -/
def k9 : Class := { plain "com/example/node_sieve/nodesieve/Axis$3" (some 6) with
  accessFlags := 16432
  interfaces := #[]
  cf := some (fileOf pool9 20 #[.nestHost 2] #[] 16432 2 #[] #[])
  fields := #[]
  methods := #[]
  instanceTypes := #[(.object "java/lang/String"), .int, .int, (.object "java/lang/String"), (.object "com/example/node_sieve/nodesieve/NodeKind"), .boolean]
  staticTypes := #[]
  resolved := Array.replicate 41 none
  statics := none }

def pool10 : Array CpInfo := pool [(2, .class_ 4), (1, u "com/example/node_sieve/nodesieve/Axis"), (15, .class_ 22), (1, u "com/example/node_sieve/nodesieve/Axis$4")] 18

/-- com/example/node_sieve/nodesieve/Axis$4 -/
def k10 : Class := { plain "com/example/node_sieve/nodesieve/Axis$4" (some 6) with
  accessFlags := 16432
  interfaces := #[]
  cf := some (fileOf pool10 20 #[.nestHost 2] #[] 16432 2 #[] #[])
  fields := #[]
  methods := #[]
  instanceTypes := #[(.object "java/lang/String"), .int, .int, (.object "java/lang/String"), (.object "com/example/node_sieve/nodesieve/NodeKind"), .boolean]
  staticTypes := #[]
  resolved := Array.replicate 41 none
  statics := none }

def pool11 : Array CpInfo := pool [(2, .class_ 4), (1, u "com/example/node_sieve/nodesieve/Axis"), (15, .class_ 22), (1, u "com/example/node_sieve/nodesieve/Axis$5")] 18

/-- com/example/node_sieve/nodesieve/Axis$5 -/
def k11 : Class := { plain "com/example/node_sieve/nodesieve/Axis$5" (some 6) with
  accessFlags := 16432
  interfaces := #[]
  cf := some (fileOf pool11 20 #[.nestHost 2] #[] 16432 2 #[] #[])
  fields := #[]
  methods := #[]
  instanceTypes := #[(.object "java/lang/String"), .int, .int, (.object "java/lang/String"), (.object "com/example/node_sieve/nodesieve/NodeKind"), .boolean]
  staticTypes := #[]
  resolved := Array.replicate 41 none
  statics := none }

def pool12 : Array CpInfo := pool [(2, .class_ 4), (1, u "com/example/node_sieve/nodesieve/Axis"), (15, .class_ 22), (1, u "com/example/node_sieve/nodesieve/Axis$6")] 18

/-- com/example/node_sieve/nodesieve/Axis$6 -/
def k12 : Class := { plain "com/example/node_sieve/nodesieve/Axis$6" (some 6) with
  accessFlags := 16432
  interfaces := #[]
  cf := some (fileOf pool12 20 #[.nestHost 2] #[] 16432 2 #[] #[])
  fields := #[]
  methods := #[]
  instanceTypes := #[(.object "java/lang/String"), .int, .int, (.object "java/lang/String"), (.object "com/example/node_sieve/nodesieve/NodeKind"), .boolean]
  staticTypes := #[]
  resolved := Array.replicate 41 none
  statics := none }

def pool13 : Array CpInfo := pool [(2, .class_ 4), (1, u "com/example/node_sieve/nodesieve/Axis"), (23, .class_ 30), (1, u "com/example/node_sieve/nodesieve/Axis$7")] 104

/-- com/example/node_sieve/nodesieve/Axis$7 -/
def k13 : Class := { plain "com/example/node_sieve/nodesieve/Axis$7" (some 6) with
  accessFlags := 16432
  interfaces := #[]
  cf := some (fileOf pool13 28 #[.nestHost 2] #[] 16432 2 #[] #[])
  fields := #[]
  methods := #[]
  instanceTypes := #[(.object "java/lang/String"), .int, .int, (.object "java/lang/String"), (.object "com/example/node_sieve/nodesieve/NodeKind"), .boolean]
  staticTypes := #[]
  resolved := Array.replicate 135 none
  statics := none }

def pool14 : Array CpInfo := pool [(2, .class_ 4), (1, u "com/example/node_sieve/nodesieve/Axis"), (60, .class_ 67), (1, u "com/example/node_sieve/nodesieve/Axis$8")] 53

/-- com/example/node_sieve/nodesieve/Axis$8 -/
def k14 : Class := { plain "com/example/node_sieve/nodesieve/Axis$8" (some 6) with
  accessFlags := 16432
  interfaces := #[]
  cf := some (fileOf pool14 65 #[.nestHost 2] #[] 16432 2 #[] #[])
  fields := #[]
  methods := #[]
  instanceTypes := #[(.object "java/lang/String"), .int, .int, (.object "java/lang/String"), (.object "com/example/node_sieve/nodesieve/NodeKind"), .boolean]
  staticTypes := #[]
  resolved := Array.replicate 121 none
  statics := none }

def pool15 : Array CpInfo := pool [(2, .class_ 4), (1, u "com/example/node_sieve/nodesieve/Axis"), (15, .class_ 22), (1, u "com/example/node_sieve/nodesieve/Axis$9")] 47

/-- com/example/node_sieve/nodesieve/Axis$9 -/
def k15 : Class := { plain "com/example/node_sieve/nodesieve/Axis$9" (some 6) with
  accessFlags := 16432
  interfaces := #[]
  cf := some (fileOf pool15 20 #[.nestHost 2] #[] 16432 2 #[] #[])
  fields := #[]
  methods := #[]
  instanceTypes := #[(.object "java/lang/String"), .int, .int, (.object "java/lang/String"), (.object "com/example/node_sieve/nodesieve/NodeKind"), .boolean]
  staticTypes := #[]
  resolved := Array.replicate 70 none
  statics := none }

def pool16 : Array CpInfo := pool [(2, .class_ 4), (1, u "com/example/node_sieve/nodesieve/Axis"), (15, .class_ 22), (1, u "com/example/node_sieve/nodesieve/Axis$10")] 18

/-- com/example/node_sieve/nodesieve/Axis$10 -/
def k16 : Class := { plain "com/example/node_sieve/nodesieve/Axis$10" (some 6) with
  accessFlags := 16432
  interfaces := #[]
  cf := some (fileOf pool16 20 #[.nestHost 2] #[] 16432 2 #[] #[])
  fields := #[]
  methods := #[]
  instanceTypes := #[(.object "java/lang/String"), .int, .int, (.object "java/lang/String"), (.object "com/example/node_sieve/nodesieve/NodeKind"), .boolean]
  staticTypes := #[]
  resolved := Array.replicate 41 none
  statics := none }

def pool17 : Array CpInfo := pool [(2, .class_ 4), (1, u "com/example/node_sieve/nodesieve/Axis"), (9, .class_ 16), (1, u "com/example/node_sieve/nodesieve/Axis$11")] 18

/-- com/example/node_sieve/nodesieve/Axis$11 -/
def k17 : Class := { plain "com/example/node_sieve/nodesieve/Axis$11" (some 6) with
  accessFlags := 16432
  interfaces := #[]
  cf := some (fileOf pool17 14 #[.nestHost 2] #[] 16432 2 #[] #[])
  fields := #[]
  methods := #[]
  instanceTypes := #[(.object "java/lang/String"), .int, .int, (.object "java/lang/String"), (.object "com/example/node_sieve/nodesieve/NodeKind"), .boolean]
  staticTypes := #[]
  resolved := Array.replicate 35 none
  statics := none }

def pool18 : Array CpInfo := pool [(2, .class_ 4), (1, u "com/example/node_sieve/nodesieve/Axis"), (3, .class_ 10), (1, u "com/example/node_sieve/nodesieve/Axis$12")] 17

/-- com/example/node_sieve/nodesieve/Axis$12 -/
def k18 : Class := { plain "com/example/node_sieve/nodesieve/Axis$12" (some 6) with
  accessFlags := 16432
  interfaces := #[]
  cf := some (fileOf pool18 8 #[.nestHost 2] #[] 16432 2 #[] #[])
  fields := #[]
  methods := #[]
  instanceTypes := #[(.object "java/lang/String"), .int, .int, (.object "java/lang/String"), (.object "com/example/node_sieve/nodesieve/NodeKind"), .boolean]
  staticTypes := #[]
  resolved := Array.replicate 28 none
  statics := none }

def pool19 : Array CpInfo := pool [(2, .class_ 4), (1, u "com/example/node_sieve/nodesieve/Axis"), (9, .class_ 16), (1, u "com/example/node_sieve/nodesieve/Axis$13")] 18

/-- com/example/node_sieve/nodesieve/Axis$13 -/
def k19 : Class := { plain "com/example/node_sieve/nodesieve/Axis$13" (some 6) with
  accessFlags := 16432
  interfaces := #[]
  cf := some (fileOf pool19 14 #[.nestHost 2] #[] 16432 2 #[] #[])
  fields := #[]
  methods := #[]
  instanceTypes := #[(.object "java/lang/String"), .int, .int, (.object "java/lang/String"), (.object "com/example/node_sieve/nodesieve/NodeKind"), .boolean]
  staticTypes := #[]
  resolved := Array.replicate 35 none
  statics := none }

def pool20 : Array CpInfo := pool [(2, .class_ 4), (1, u "com/example/node_sieve/nodesieve/Axis"), (22, .class_ 28), (0, u "com/example/node_sieve/nodesieve/Axis$14")] 22

/-- com/example/node_sieve/nodesieve/Axis$14 -/
def k20 : Class := { plain "com/example/node_sieve/nodesieve/Axis$14" (some 6) with
  accessFlags := 16432
  interfaces := #[]
  cf := some (fileOf pool20 27 #[.nestHost 2] #[] 16432 2 #[] #[])
  fields := #[]
  methods := #[]
  instanceTypes := #[(.object "java/lang/String"), .int, .int, (.object "java/lang/String"), (.object "com/example/node_sieve/nodesieve/NodeKind"), .boolean]
  staticTypes := #[]
  resolved := Array.replicate 51 none
  statics := none }

def pool21 : Array CpInfo := pool [(1, u "java/lang/Cloneable"), (0, .class_ 1), (0, u "java/lang/Object"), (0, .class_ 3)] 3

/-- java/lang/Cloneable -/
def k21 : Class := { plain "java/lang/Cloneable" (some 0) with
  accessFlags := 1537
  interfaces := #[]
  cf := some (fileOf pool21 2 #[] #[] 1537 4 #[] #[])
  fields := #[]
  methods := #[]
  instanceTypes := #[]
  staticTypes := #[]
  resolved := Array.replicate 8 none
  statics := none }

/-- the primitive byte -/
def k22 : Class := { plain "byte" none with kind := .primitive 'B', accessFlags := 0x411 }
/-- [B -/
def k23 : Class := { plain "[B" (some 0) with kind := .array 22 .byte, interfaces := #[21, 4], accessFlags := 1041 }

/-- the primitive int -/
def k24 : Class := { plain "int" none with kind := .primitive 'I', accessFlags := 0x411 }
/-- [I -/
def k25 : Class := { plain "[I" (some 0) with kind := .array 24 .int, interfaces := #[21, 4], accessFlags := 1041 }

/-- [Lcom/example/node_sieve/nodesieve/Axis; -/
def k26 : Class := { plain "[Lcom/example/node_sieve/nodesieve/Axis;" (some 0) with kind := .array 6 (.object "com/example/node_sieve/nodesieve/Axis"), interfaces := #[21, 4], accessFlags := 1041 }

def heap : Heap := #[{ cls := 6, slots := #[.ref 1, .ref 2, .ref 3, .ref 4, .ref 5, .ref 6, .ref 7, .ref 8, .ref 9, .ref 10, .ref 11, .ref 12, .ref 13, .ref 14, .null, .null], vm := .statics 6 },
  { cls := 7, slots := #[.null, .int 0, .int 0, .null, .null, .int 0], vm := .none },
  { cls := 8, slots := #[.null, .int 0, .int 0, .null, .null, .int 0], vm := .none },
  { cls := 9, slots := #[.null, .int 0, .int 0, .null, .null, .int 0], vm := .none },
  { cls := 10, slots := #[.null, .int 0, .int 0, .null, .null, .int 0], vm := .none },
  { cls := 11, slots := #[.null, .int 0, .int 0, .null, .null, .int 0], vm := .none },
  { cls := 12, slots := #[.null, .int 0, .int 0, .null, .null, .int 0], vm := .none },
  { cls := 13, slots := #[.null, .int 0, .int 0, .null, .null, .int 0], vm := .none },
  { cls := 14, slots := #[.null, .int 0, .int 0, .null, .null, .int 0], vm := .none },
  { cls := 15, slots := #[.null, .int 0, .int 0, .null, .null, .int 0], vm := .none },
  { cls := 16, slots := #[.null, .int 0, .int 0, .null, .null, .int 0], vm := .none },
  { cls := 17, slots := #[.null, .int 0, .int 0, .null, .null, .int 0], vm := .none },
  { cls := 18, slots := #[.null, .int 0, .int 0, .null, .null, .int 0], vm := .none },
  { cls := 19, slots := #[.null, .int 0, .int 0, .null, .null, .int 0], vm := .none },
  { cls := 20, slots := #[.null, .int 0, .int 0, .null, .null, .int 0], vm := .none }]
def classes : Array Class := #[k0, k1, k2, k3, k4, k5, k6, k7, k8, k9, k10, k11, k12, k13, k14, k15, k16, k17, k18, k19, k20, k21, k22, k23, k24, k25, k26]
def interned : List (Array UInt16 × Addr) := []
def slotsUsed : Nat := 100
def theMethod : MethodId := ⟨1, 1⟩
def args0 : Array Value := #[.int 5, .int 1]
def aboutOver (below : List Frame) : State where
  vm := { classes := classes, interned := interned.toArray }
  heap := heap
  slotsUsed := slotsUsed
  threads := #[{ frames := .invoking theMethod args0 :: below }]
def below0 : List Frame := [.native { method := ⟨0, 0⟩, args := #[] }]
def about1 : State := aboutOver below0
def p0 : Program := .bare "" "" ""
def e0 : Env := launch0.env 0 0 0
theorem w_frames : about1.frames = Frame.invoking theMethod args0 :: below0 := rfl
set_option maxRecDepth 65536 in
theorem w_args : argsFit about1.vm theMethod args0 = true := by decide +kernel
set_option maxRecDepth 65536 in
theorem w_heap : heapFits about1 = true := by decide +kernel
set_option maxRecDepth 65536 in
theorem w_runnable : about1.curStatus? = some .runnable := by decide +kernel
set_option maxRecDepth 65536 in
theorem w_alone : about1.alone = true := by decide +kernel
set_option maxRecDepth 65536 in
theorem w_named : about1.methodNamed? x = some theMethod := by decide +kernel
set_option maxRecDepth 65536 in
theorem w_hears : about1.hears theMethod below0 = true := by decide +kernel
set_option maxRecDepth 65536 in
theorem w_ripe : about1.ripe theMethod args0 below0 = true := by decide +kernel
theorem w_running : about1.status = .running := rfl
set_option maxRecDepth 65536 in
theorem w_room : about1.hasRoom e0.platform room_1 = true :=
  launch0.hasRoom_least _ room_1 (by decide +kernel) (by decide +kernel) (by decide +kernel) (by decide +kernel) (by decide +kernel) (by decide +kernel)
theorem allAtoms_all (ts : List Jvm.Cond) (a : Array Jvm.Value) (st : Jvm.State) : (allAtoms ts).before a st = ts.all (fun c => c.before a st) := by
  induction ts with
  | nil => rfl
  | cons c t ih =>
    show (Jvm.Cond.and c (allAtoms t)).before a st = _
    rw [Jvm.Cond.before_and, ih, List.all_cons]
def words1 : List Jvm.Cond := Jvm.Cond.code x code maxLocals ret :: tables_1
/-- a 'code' word, met by the world's own term for the bytes: nothing is compared byte by byte -/
theorem code_word {y : MethodName} {bytes : ByteArray} {mx : Nat} {rt : Option FieldType} {a : Array Value} {s : State} {m : MethodId} {meth : Method} {c : Code} (h1 : s.methodNamed? y = some m) (h2 : s.vm.method? m = some meth) (h3 : meth.code = some c) (h4 : c.code = bytes)
    (h5 : (c.maxLocals == mx && c.exceptionTable.isEmpty && decide (c.maxStack ≤ mostOperands) && decide (meth.sig.returnType = rt) && !meth.locks && decide (parseMethodDescriptor y.desc = some meth.sig)) = true) : (Jvm.Cond.code y bytes mx rt).before a s = true := by
  simp only [Bool.and_eq_true, beq_iff_eq, Bool.not_eq_true', decide_eq_true_eq] at h5
  obtain ⟨⟨⟨⟨⟨g1, g2⟩, g3⟩, g4⟩, g5⟩, g6⟩ := h5
  simp [Cond.before, Cond.holds, Cond.value, h1, h2, h3, h4, g1, g2, g3, g4, g5, g6]
def isCode : Jvm.Cond → Bool
  | .code _ _ _ _ => true
  | _ => false
theorem all_split {L : List Jvm.Cond} {P : Jvm.Cond → Bool} (h1 : L.all (fun c => isCode c || P c) = true) (h2 : ∀ c ∈ L.filter isCode, P c = true) : L.all P = true := by
  refine List.all_eq_true.mpr fun c hc => ?_
  have h := List.all_eq_true.mp h1 c hc
  rcases Bool.eq_false_or_eq_true (isCode c) with hi | hi
  · exact h2 c (List.mem_filter.mpr ⟨hc, hi⟩)
  · simpa [hi] using h
set_option maxRecDepth 65536 in
theorem w_c0 : (Jvm.Cond.code x code maxLocals ret).before args0 about1 = true := code_word (m := ⟨1, 1⟩) (meth := k1m1) (c := k1c1) (by decide +kernel) rfl rfl rfl (by decide +kernel)
set_option maxRecDepth 65536 in
theorem w_c1 : (Jvm.Cond.code ({ cls := "com/example/node_sieve/nodesieve/Axis", name := "selectsOnce", desc := "(Z)Z" } : Jvm.MethodName) prog_1_method_8_code (4 : Nat) (Option.some Jvm.ClassFile.FieldType.boolean)).before args0 about1 = true := code_word (m := ⟨6, 0⟩) (meth := k6m0) (c := k6c0) (by decide +kernel) rfl rfl rfl (by decide +kernel)
def codes1 : List Jvm.Cond := [Jvm.Cond.code x code maxLocals ret, Jvm.Cond.code ({ cls := "com/example/node_sieve/nodesieve/Axis", name := "selectsOnce", desc := "(Z)Z" } : Jvm.MethodName) prog_1_method_8_code (4 : Nat) (Option.some Jvm.ClassFile.FieldType.boolean)]
set_option maxRecDepth 65536 in
theorem codes_eq : words1.filter isCode = codes1 := rfl
theorem w_codes : ∀ c ∈ words1.filter isCode, c.before args0 about1 = true := by
  rw [codes_eq]
  intro c hc
  simp only [codes1, List.mem_cons, List.not_mem_nil, or_false] at hc
  rcases hc with rfl | rfl
  · exact w_c0
  · exact w_c1
set_option maxRecDepth 65536 in
theorem w_t1 : (words1.take 24).all (fun c => isCode c || c.before args0 about1) = true := by decide +kernel
set_option maxRecDepth 65536 in
theorem w_t2 : ((words1.drop 24).take 24).all (fun c => isCode c || c.before args0 about1) = true := by decide +kernel
set_option maxRecDepth 65536 in
theorem w_t3 : ((words1.drop 24).drop 24).all (fun c => isCode c || c.before args0 about1) = true := by decide +kernel
theorem w_tables : (allAtoms (Jvm.Cond.code x code maxLocals ret :: tables_1)).before args0 about1 = true := by
  rw [allAtoms_all]
  show words1.all (fun c => c.before args0 about1) = true
  refine all_split ?_ w_codes
  rw [← List.take_append_drop 24 words1, List.all_append, w_t1, ← List.take_append_drop 24 (words1.drop 24), List.all_append, w_t2, w_t3]
  rfl
set_option maxRecDepth 65536 in
theorem w_case : (Jvm.Cond.and given_1 narrow_1).before args0 about1 = true := by decide +kernel
theorem w_applies : (headSpec (Jvm.Cond.code x code maxLocals ret :: tables_1) room_1).applies x e0.platform about1 = true :=
  (Spec.applies_iff w_frames).mpr ⟨w_running, w_runnable, w_alone, w_named, w_hears, w_ripe, w_room, w_tables⟩
theorem atStart : AtStart classFile x code maxLocals ret World_1 tables_1 room_1 Calls_1 rest_1 Pre_1 launch0 p0 e0 about1 theMethod args0 below0 :=
  ⟨lists_1, trivial, launch0.admits_env _ _ _, launch0.least_env, fairChoices_fair.cas, fairChoices_fair.clock, w_frames, w_args, w_heap, w_applies, trivial, trivial, w_case⟩
end start1
theorem witness_1 : WitnessClaimed_1 := ⟨start1.p0, start1.e0, start1.about1, start1.theMethod, start1.args0, start1.below0, start1.atStart⟩
end Jvm.Pilot.@@N@@
