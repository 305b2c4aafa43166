import JvmDerived
import JvmDerived.Pilot.@@N@@Statement
import JvmDerived.Pilot.@@N@@Code
set_option linter.unusedVariables false
set_option linter.unusedSimpArgs false
namespace Jvm.RoadKit
open Sem ClassFile Op Lib Jvm.Stand Jvm.Free Jvm.LawKit
section New
variable {p : Program} {l : Launch} {e : Env} {R : Room} {s : State} {m : MethodId} {args : Array Value} {below : List Frame} {meth : Method} {c : Code} {T : State} {locs : List Loc} {cells slots : Nat}
theorem retI (X : Stand p l e R s m args below meth c T locs cells slots) (hx : p.tables.exec = Jvm.exec) {pc : Nat} {Ls : Array Slot} {z : Int32} {rest : List Value} (hret : meth.sig.returnType = some .int) (hd : decode c.code pc = .ok (.ireturn, 1)) {fs : List Frame}
    (hl : ∀ (f : JFrame) (acts : List Action), f.method = m → f.locked = none → f.entered = [] → (doReturn e (T.setTop f) acts (some (.int z))).1 = T.setFrames fs) : Steps p.tables e below (T.setTop (mkF m pc Ls (.int z :: rest))) (T.setFrames fs) := by
  have hm' : T.vm.method? m = some meth := X.method'
  have hn : narrow .int (.int z) = .int z := rfl
  show Steps p.tables e below (T.setTop { method := m, pc := pc, locals := Ls, stack := _ :: rest, locked := none }) _
  jvm_step X.here [X.here.top, hx, hd, hm', hret, hn]
  first | (intro acts; rw [hl _ acts rfl rfl rfl]) | rw [hl _ _ rfl rfl rfl]
  exact Steps.refl _
theorem own_miss {k : Int32} (q : Int32) {a : Int} (hq : q.toInt = a) (h : ¬ k = q) : a ≠ k.toInt := fun e => h (Int32.toInt_inj.mp (e.symm.trans hq.symm))
end New
end Jvm.RoadKit
namespace Jvm.RoadKit
open Sem ClassFile Op Lib Jvm.Stand Jvm.Free Jvm.LawKit
section OwnArrs
variable {p : Program} {l : Launch} {e : Env} {R : Room} {s : State} {m : MethodId} {args : Array Value} {below : List Frame} {meth : Method} {c : Code} {T : State} {locs : List Loc} {cells slots : Nat} {Z : State} {h : Heap} {a : Addr} {k : ClassId} {n : Int32} {vs : List Value} {d : Value} {n0 : Nat}
theorem own_caload (X : Stand p l e R s m args below meth c T locs cells slots) (hx : p.tables.exec = Jvm.exec) (hZ : Z.Warmed39 s.vm) (eT : T.heap = h) (F : Arv Z h a k .char n vs d) {j : Int32} (hj : ¬ j < 0 ∧ j < n) {v : Value} (hv : vs.getD j.toNatClampNeg d = v) {g : JFrame} (hg : g.method = m) {rest : List Value} (hs : g.stack = .int j :: .ref a :: rest) (hd : decode c.code g.pc = .ok (.caload, 1)) (target : State) (hr : Steps p.tables e below (T.setTop { g with pc := g.pc + 1, stack := v :: rest }) target) : Steps p.tables e below (T.setTop g) target := by
  obtain ⟨cl, A, -, S, -, H, -⟩ := F
  have hin := inb_of S hj
  exact X.caload hx (by rw [eT]; exact A.1) (State.isArrayOf_alike hZ.alike A.2.1) A.2.2 hin (Has.at H hin hv) hg hs hd target hr
theorem own_iaload (X : Stand p l e R s m args below meth c T locs cells slots) (hx : p.tables.exec = Jvm.exec) (hZ : Z.Warmed39 s.vm) (eT : T.heap = h) (F : Arv Z h a k .int n vs d) {j : Int32} (hj : ¬ j < 0 ∧ j < n) {v : Value} (hv : vs.getD j.toNatClampNeg d = v) {g : JFrame} (hg : g.method = m) {rest : List Value} (hs : g.stack = .int j :: .ref a :: rest) (hd : decode c.code g.pc = .ok (.iaload, 1)) (target : State) (hr : Steps p.tables e below (T.setTop { g with pc := g.pc + 1, stack := v :: rest }) target) : Steps p.tables e below (T.setTop g) target := by
  obtain ⟨cl, A, -, S, -, H, -⟩ := F
  have hin := inb_of S hj
  exact X.iaload hx (by rw [eT]; exact A.1) (State.isArrayOf_alike hZ.alike A.2.1) A.2.2 hin (Has.at H hin hv) hg hs hd target hr
theorem own_stC (X : Stand p l e R s m args below meth c T locs cells slots) (hx : p.tables.exec = Jvm.exec) (hZ : Z.Warmed39 s.vm) (eT : T.heap = h) (F : Arv Z h a k .char n vs d) {j x : Int32} (hj : ¬ j < 0 ∧ j < n) (i : Nat) (hi : j.toNatClampNeg = i) (hl : i < vs.length) (N : Fr n0 locs) (ga : n0 ≤ a) {g : JFrame} (hg : g.method = m) {rest : List Value} (hs : g.stack = .int x :: .int j :: .ref a :: rest) (hd : decode c.code g.pc = .ok (.castore, 1)) :
    ∃ T' h' L', Stand p l e R s m args below meth c T' L' cells slots ∧ T'.heap = h' ∧ Fr n0 L' ∧ Wr h h' a j.toNatClampNeg (.int (nar .char x)) ∧ Arv Z h' a k .char n (vs.set i (.int (nar .char x))) d ∧ ∀ target, Steps p.tables e below (T'.setTop { g with pc := g.pc + 1, stack := rest }) target → Steps p.tables e below (T.setTop g) target := by
  obtain ⟨cl, A, q, S, M, H, G⟩ := F
  obtain ⟨T', h', X', e', W, st⟩ := stC X hx hZ eT A (inb_of S hj) hg hs hd
  exact ⟨T', h', _, X', e', Fr.snoc X' N ga, W, Arv.set A q S M H G (fits_nar_char _) W i hi hl, st⟩
theorem own_stI (X : Stand p l e R s m args below meth c T locs cells slots) (hx : p.tables.exec = Jvm.exec) (hZ : Z.Warmed39 s.vm) (eT : T.heap = h) (F : Arv Z h a k .int n vs d) {j x : Int32} (hj : ¬ j < 0 ∧ j < n) (i : Nat) (hi : j.toNatClampNeg = i) (hl : i < vs.length) (N : Fr n0 locs) (ga : n0 ≤ a) {g : JFrame} (hg : g.method = m) {rest : List Value} (hs : g.stack = .int x :: .int j :: .ref a :: rest) (hd : decode c.code g.pc = .ok (.iastore, 1)) :
    ∃ T' h' L', Stand p l e R s m args below meth c T' L' cells slots ∧ T'.heap = h' ∧ Fr n0 L' ∧ Wr h h' a j.toNatClampNeg (.int x) ∧ Arv Z h' a k .int n (vs.set i (.int x)) d ∧ ∀ target, Steps p.tables e below (T'.setTop { g with pc := g.pc + 1, stack := rest }) target → Steps p.tables e below (T.setTop g) target := by
  obtain ⟨cl, A, q, S, M, H, G⟩ := F
  obtain ⟨T', h', X', e', W, st⟩ := stI X hx hZ eT A (inb_of S hj) hg hs hd
  exact ⟨T', h', _, X', e', Fr.snoc X' N ga, W, Arv.set A q S M H G rfl W i hi hl, st⟩
end OwnArrs
end Jvm.RoadKit
namespace Jvm.Pilot.@@N@@
open Jvm Jvm.ClassFile Sem Op Lib Jvm.Free Jvm.Stand Jvm.LawKit Jvm.RoadKit Bundle Jvm.Pilot.@@N@@.Jvm.D
theorem d1_0 : decode prog_54_method_2_code 0 = .ok (.iload_n 0, 1) := by decide +kernel
theorem d1_1 : decode prog_54_method_2_code 1 = .ok (.bipush 97, 2) := by decide +kernel
theorem d1_3 : decode prog_54_method_2_code 3 = .ok (.if_icmp .lt 9, 3) := by decide +kernel
theorem d1_6 : decode prog_54_method_2_code 6 = .ok (.iload_n 0, 1) := by decide +kernel
theorem d1_7 : decode prog_54_method_2_code 7 = .ok (.bipush 122, 2) := by decide +kernel
theorem d1_9 : decode prog_54_method_2_code 9 = .ok (.if_icmp .le 39, 3) := by decide +kernel
theorem d1_12 : decode prog_54_method_2_code 12 = .ok (.iload_n 0, 1) := by decide +kernel
theorem d1_13 : decode prog_54_method_2_code 13 = .ok (.bipush 65, 2) := by decide +kernel
theorem d1_15 : decode prog_54_method_2_code 15 = .ok (.if_icmp .lt 9, 3) := by decide +kernel
theorem d1_18 : decode prog_54_method_2_code 18 = .ok (.iload_n 0, 1) := by decide +kernel
theorem d1_19 : decode prog_54_method_2_code 19 = .ok (.bipush 90, 2) := by decide +kernel
theorem d1_21 : decode prog_54_method_2_code 21 = .ok (.if_icmp .le 27, 3) := by decide +kernel
theorem d1_24 : decode prog_54_method_2_code 24 = .ok (.iload_n 0, 1) := by decide +kernel
theorem d1_25 : decode prog_54_method_2_code 25 = .ok (.bipush 48, 2) := by decide +kernel
theorem d1_27 : decode prog_54_method_2_code 27 = .ok (.if_icmp .lt 9, 3) := by decide +kernel
theorem d1_30 : decode prog_54_method_2_code 30 = .ok (.iload_n 0, 1) := by decide +kernel
theorem d1_31 : decode prog_54_method_2_code 31 = .ok (.bipush 57, 2) := by decide +kernel
theorem d1_33 : decode prog_54_method_2_code 33 = .ok (.if_icmp .le 15, 3) := by decide +kernel
theorem d1_36 : decode prog_54_method_2_code 36 = .ok (.iload_n 0, 1) := by decide +kernel
theorem d1_37 : decode prog_54_method_2_code 37 = .ok (.bipush 45, 2) := by decide +kernel
theorem d1_39 : decode prog_54_method_2_code 39 = .ok (.if_icmp .eq 9, 3) := by decide +kernel
theorem d1_42 : decode prog_54_method_2_code 42 = .ok (.iload_n 0, 1) := by decide +kernel
theorem d1_43 : decode prog_54_method_2_code 43 = .ok (.bipush 95, 2) := by decide +kernel
theorem d1_45 : decode prog_54_method_2_code 45 = .ok (.if_icmp .ne 7, 3) := by decide +kernel
theorem d1_48 : decode prog_54_method_2_code 48 = .ok (.iconst 1, 1) := by decide +kernel
theorem d1_49 : decode prog_54_method_2_code 49 = .ok (.goto 4, 3) := by decide +kernel
theorem d1_52 : decode prog_54_method_2_code 52 = .ok (.iconst 0, 1) := by decide +kernel
theorem d1_53 : decode prog_54_method_2_code 53 = .ok (.ireturn, 1) := by decide +kernel
def f1_48_r  : Int32 := (1 : Int32)
def f1_36_r (i0 : Int32) : Int32 := if i0 = (45 : Int32) then f1_48_r else if i0 = (95 : Int32) then f1_48_r else (0 : Int32)
def f1_24_r (i0 : Int32) : Int32 := if i0 < (48 : Int32) then f1_36_r i0 else if (57 : Int32) < i0 then f1_36_r i0 else f1_48_r
def f1_12_r (i0 : Int32) : Int32 := if i0 < (65 : Int32) then f1_24_r i0 else if (90 : Int32) < i0 then f1_24_r i0 else f1_48_r
def f1_0_r (i0 : Int32) : Int32 := if i0 < (97 : Int32) then f1_12_r i0 else if (122 : Int32) < i0 then f1_12_r i0 else f1_48_r
set_option maxRecDepth 65536 in
set_option maxHeartbeats 40000000 in
theorem f1_48 {p : Program} {l : Launch} {e : Env} {R : Room} {s : State} {m : MethodId} {args : Array Value} {below : List Frame} {meth : Method} {c : Code} {T : State} {locs : List Loc} {cells slots : Nat} {Z : State} {a0 : Array Value} {target : State} (i0 : Int32) (X : Stand p l e R s m args below meth c T locs cells slots) (hx : p.tables.exec = Jvm.exec) (hZ : Z.Warmed39 s.vm) (hw : ∀ d ∈ tables_1, d.before a0 Z = true) (hby : c.code = prog_54_method_2_code) (hown : s.vm.findClass "com/example/callbook/callbook/engine/Names" = some m.cls) (k : ∀ (pc : Nat) (Ls : Array Slot), decode c.code pc = .ok (.ireturn, 1) → Steps p.tables e below (T.setTop (mkF m pc Ls [(.int (f1_48_r))])) target) :
    Steps p.tables e below (T.setTop (mkF m 48 #[.val (.int i0)] [])) target := by
  show Steps p.tables e below (T.setTop (mkF m 48 #[.val (.int i0)] [])) _
  refine XS.iconst X.here hx rfl (hb hby d1_48) ?_
  show Steps p.tables e below (T.setTop (mkF m 49 #[.val (.int i0)] [(.int (1 : Int32))])) _
  refine XS.goto X.here hx rfl (pc0 := 49) (pc' := 53) rfl (hb hby d1_49) (by decide) (by decide) ?_
  have e_r : (f1_48_r) = (1 : Int32) := by rfl
  rw [e_r] at k
  exact k _ _ (hb hby d1_53)
set_option maxRecDepth 65536 in
set_option maxHeartbeats 40000000 in
theorem f1_36 {p : Program} {l : Launch} {e : Env} {R : Room} {s : State} {m : MethodId} {args : Array Value} {below : List Frame} {meth : Method} {c : Code} {T : State} {locs : List Loc} {cells slots : Nat} {Z : State} {a0 : Array Value} {target : State} (i0 : Int32) (X : Stand p l e R s m args below meth c T locs cells slots) (hx : p.tables.exec = Jvm.exec) (hZ : Z.Warmed39 s.vm) (hw : ∀ d ∈ tables_1, d.before a0 Z = true) (hby : c.code = prog_54_method_2_code) (hown : s.vm.findClass "com/example/callbook/callbook/engine/Names" = some m.cls) (k : ∀ (pc : Nat) (Ls : Array Slot), decode c.code pc = .ok (.ireturn, 1) → Steps p.tables e below (T.setTop (mkF m pc Ls [(.int (f1_36_r i0))])) target) :
    Steps p.tables e below (T.setTop (mkF m 36 #[.val (.int i0)] [])) target := by
  show Steps p.tables e below (T.setTop (mkF m 36 #[.val (.int i0)] [])) _
  refine XS.iloadN X.here hx rfl (hb hby d1_36) rfl ?_
  show Steps p.tables e below (T.setTop (mkF m 37 #[.val (.int i0)] [(.int i0)])) _
  refine XS.bipush X.here hx rfl (hb hby d1_37) ?_
  show Steps p.tables e below (T.setTop (mkF m 39 #[.val (.int i0)] [(.int (45 : Int32)), (.int i0)])) _
  by_cases q39 : i0 = (45 : Int32)
  · refine XS.icmpYes X.here hx rfl (pc0 := 39) (pc' := 48) rfl (hb hby d1_39) rfl (teq q39).1 (by decide) (by decide) ?_
    have e_r : (f1_36_r i0) = f1_48_r := by unfold f1_36_r; rw [if_pos q39]
    rw [e_r] at k
    exact f1_48 i0 X hx hZ hw hby hown k
  · refine XS.icmpNo X.here hx rfl (hb hby d1_39) rfl (feq q39).1 ?_
    show Steps p.tables e below (T.setTop (mkF m 42 #[.val (.int i0)] [])) _
    refine XS.iloadN X.here hx rfl (hb hby d1_42) rfl ?_
    show Steps p.tables e below (T.setTop (mkF m 43 #[.val (.int i0)] [(.int i0)])) _
    refine XS.bipush X.here hx rfl (hb hby d1_43) ?_
    show Steps p.tables e below (T.setTop (mkF m 45 #[.val (.int i0)] [(.int (95 : Int32)), (.int i0)])) _
    by_cases q45 : i0 = (95 : Int32)
    · refine XS.icmpNo X.here hx rfl (hb hby d1_45) rfl (teq q45).2 ?_
      have e_r : (f1_36_r i0) = f1_48_r := by unfold f1_36_r; rw [if_neg q39, if_pos q45]
      rw [e_r] at k
      exact f1_48 i0 X hx hZ hw hby hown k
    · refine XS.icmpYes X.here hx rfl (pc0 := 45) (pc' := 52) rfl (hb hby d1_45) rfl (feq q45).2 (by decide) (by decide) ?_
      show Steps p.tables e below (T.setTop (mkF m 52 #[.val (.int i0)] [])) _
      refine XS.iconst X.here hx rfl (hb hby d1_52) ?_
      have e_r : (f1_36_r i0) = (0 : Int32) := by unfold f1_36_r; rw [if_neg q39, if_neg q45]
      rw [e_r] at k
      exact k _ _ (hb hby d1_53)
set_option maxRecDepth 65536 in
set_option maxHeartbeats 40000000 in
theorem f1_24 {p : Program} {l : Launch} {e : Env} {R : Room} {s : State} {m : MethodId} {args : Array Value} {below : List Frame} {meth : Method} {c : Code} {T : State} {locs : List Loc} {cells slots : Nat} {Z : State} {a0 : Array Value} {target : State} (i0 : Int32) (X : Stand p l e R s m args below meth c T locs cells slots) (hx : p.tables.exec = Jvm.exec) (hZ : Z.Warmed39 s.vm) (hw : ∀ d ∈ tables_1, d.before a0 Z = true) (hby : c.code = prog_54_method_2_code) (hown : s.vm.findClass "com/example/callbook/callbook/engine/Names" = some m.cls) (k : ∀ (pc : Nat) (Ls : Array Slot), decode c.code pc = .ok (.ireturn, 1) → Steps p.tables e below (T.setTop (mkF m pc Ls [(.int (f1_24_r i0))])) target) :
    Steps p.tables e below (T.setTop (mkF m 24 #[.val (.int i0)] [])) target := by
  show Steps p.tables e below (T.setTop (mkF m 24 #[.val (.int i0)] [])) _
  refine XS.iloadN X.here hx rfl (hb hby d1_24) rfl ?_
  show Steps p.tables e below (T.setTop (mkF m 25 #[.val (.int i0)] [(.int i0)])) _
  refine XS.bipush X.here hx rfl (hb hby d1_25) ?_
  show Steps p.tables e below (T.setTop (mkF m 27 #[.val (.int i0)] [(.int (48 : Int32)), (.int i0)])) _
  by_cases q27 : i0 < (48 : Int32)
  · refine XS.icmpYes X.here hx rfl (pc0 := 27) (pc' := 36) rfl (hb hby d1_27) rfl (tlt q27).1 (by decide) (by decide) ?_
    have e_r : (f1_24_r i0) = f1_36_r i0 := by unfold f1_24_r; rw [if_pos q27]
    rw [e_r] at k
    exact f1_36 i0 X hx hZ hw hby hown k
  · refine XS.icmpNo X.here hx rfl (hb hby d1_27) rfl (flt q27).1 ?_
    show Steps p.tables e below (T.setTop (mkF m 30 #[.val (.int i0)] [])) _
    refine XS.iloadN X.here hx rfl (hb hby d1_30) rfl ?_
    show Steps p.tables e below (T.setTop (mkF m 31 #[.val (.int i0)] [(.int i0)])) _
    refine XS.bipush X.here hx rfl (hb hby d1_31) ?_
    show Steps p.tables e below (T.setTop (mkF m 33 #[.val (.int i0)] [(.int (57 : Int32)), (.int i0)])) _
    by_cases q33 : (57 : Int32) < i0
    · refine XS.icmpNo X.here hx rfl (hb hby d1_33) rfl (tlt q33).2.2.2 ?_
      have e_r : (f1_24_r i0) = f1_36_r i0 := by unfold f1_24_r; rw [if_neg q27, if_pos q33]
      rw [e_r] at k
      exact f1_36 i0 X hx hZ hw hby hown k
    · refine XS.icmpYes X.here hx rfl (pc0 := 33) (pc' := 48) rfl (hb hby d1_33) rfl (flt q33).2.2.2 (by decide) (by decide) ?_
      have e_r : (f1_24_r i0) = f1_48_r := by unfold f1_24_r; rw [if_neg q27, if_neg q33]
      rw [e_r] at k
      exact f1_48 i0 X hx hZ hw hby hown k
set_option maxRecDepth 65536 in
set_option maxHeartbeats 40000000 in
theorem f1_12 {p : Program} {l : Launch} {e : Env} {R : Room} {s : State} {m : MethodId} {args : Array Value} {below : List Frame} {meth : Method} {c : Code} {T : State} {locs : List Loc} {cells slots : Nat} {Z : State} {a0 : Array Value} {target : State} (i0 : Int32) (X : Stand p l e R s m args below meth c T locs cells slots) (hx : p.tables.exec = Jvm.exec) (hZ : Z.Warmed39 s.vm) (hw : ∀ d ∈ tables_1, d.before a0 Z = true) (hby : c.code = prog_54_method_2_code) (hown : s.vm.findClass "com/example/callbook/callbook/engine/Names" = some m.cls) (k : ∀ (pc : Nat) (Ls : Array Slot), decode c.code pc = .ok (.ireturn, 1) → Steps p.tables e below (T.setTop (mkF m pc Ls [(.int (f1_12_r i0))])) target) :
    Steps p.tables e below (T.setTop (mkF m 12 #[.val (.int i0)] [])) target := by
  show Steps p.tables e below (T.setTop (mkF m 12 #[.val (.int i0)] [])) _
  refine XS.iloadN X.here hx rfl (hb hby d1_12) rfl ?_
  show Steps p.tables e below (T.setTop (mkF m 13 #[.val (.int i0)] [(.int i0)])) _
  refine XS.bipush X.here hx rfl (hb hby d1_13) ?_
  show Steps p.tables e below (T.setTop (mkF m 15 #[.val (.int i0)] [(.int (65 : Int32)), (.int i0)])) _
  by_cases q15 : i0 < (65 : Int32)
  · refine XS.icmpYes X.here hx rfl (pc0 := 15) (pc' := 24) rfl (hb hby d1_15) rfl (tlt q15).1 (by decide) (by decide) ?_
    have e_r : (f1_12_r i0) = f1_24_r i0 := by unfold f1_12_r; rw [if_pos q15]
    rw [e_r] at k
    exact f1_24 i0 X hx hZ hw hby hown k
  · refine XS.icmpNo X.here hx rfl (hb hby d1_15) rfl (flt q15).1 ?_
    show Steps p.tables e below (T.setTop (mkF m 18 #[.val (.int i0)] [])) _
    refine XS.iloadN X.here hx rfl (hb hby d1_18) rfl ?_
    show Steps p.tables e below (T.setTop (mkF m 19 #[.val (.int i0)] [(.int i0)])) _
    refine XS.bipush X.here hx rfl (hb hby d1_19) ?_
    show Steps p.tables e below (T.setTop (mkF m 21 #[.val (.int i0)] [(.int (90 : Int32)), (.int i0)])) _
    by_cases q21 : (90 : Int32) < i0
    · refine XS.icmpNo X.here hx rfl (hb hby d1_21) rfl (tlt q21).2.2.2 ?_
      have e_r : (f1_12_r i0) = f1_24_r i0 := by unfold f1_12_r; rw [if_neg q15, if_pos q21]
      rw [e_r] at k
      exact f1_24 i0 X hx hZ hw hby hown k
    · refine XS.icmpYes X.here hx rfl (pc0 := 21) (pc' := 48) rfl (hb hby d1_21) rfl (flt q21).2.2.2 (by decide) (by decide) ?_
      have e_r : (f1_12_r i0) = f1_48_r := by unfold f1_12_r; rw [if_neg q15, if_neg q21]
      rw [e_r] at k
      exact f1_48 i0 X hx hZ hw hby hown k
set_option maxRecDepth 65536 in
set_option maxHeartbeats 40000000 in
theorem f1_0 {p : Program} {l : Launch} {e : Env} {R : Room} {s : State} {m : MethodId} {args : Array Value} {below : List Frame} {meth : Method} {c : Code} {T : State} {locs : List Loc} {cells slots : Nat} {Z : State} {a0 : Array Value} {target : State} (i0 : Int32) (X : Stand p l e R s m args below meth c T locs cells slots) (hx : p.tables.exec = Jvm.exec) (hZ : Z.Warmed39 s.vm) (hw : ∀ d ∈ tables_1, d.before a0 Z = true) (hby : c.code = prog_54_method_2_code) (hown : s.vm.findClass "com/example/callbook/callbook/engine/Names" = some m.cls) (k : ∀ (pc : Nat) (Ls : Array Slot), decode c.code pc = .ok (.ireturn, 1) → Steps p.tables e below (T.setTop (mkF m pc Ls [(.int (f1_0_r i0))])) target) :
    Steps p.tables e below (T.setTop (mkF m 0 #[.val (.int i0)] [])) target := by
  show Steps p.tables e below (T.setTop (mkF m 0 #[.val (.int i0)] [])) _
  refine XS.iloadN X.here hx rfl (hb hby d1_0) rfl ?_
  show Steps p.tables e below (T.setTop (mkF m 1 #[.val (.int i0)] [(.int i0)])) _
  refine XS.bipush X.here hx rfl (hb hby d1_1) ?_
  show Steps p.tables e below (T.setTop (mkF m 3 #[.val (.int i0)] [(.int (97 : Int32)), (.int i0)])) _
  by_cases q3 : i0 < (97 : Int32)
  · refine XS.icmpYes X.here hx rfl (pc0 := 3) (pc' := 12) rfl (hb hby d1_3) rfl (tlt q3).1 (by decide) (by decide) ?_
    have e_r : (f1_0_r i0) = f1_12_r i0 := by unfold f1_0_r; rw [if_pos q3]
    rw [e_r] at k
    exact f1_12 i0 X hx hZ hw hby hown k
  · refine XS.icmpNo X.here hx rfl (hb hby d1_3) rfl (flt q3).1 ?_
    show Steps p.tables e below (T.setTop (mkF m 6 #[.val (.int i0)] [])) _
    refine XS.iloadN X.here hx rfl (hb hby d1_6) rfl ?_
    show Steps p.tables e below (T.setTop (mkF m 7 #[.val (.int i0)] [(.int i0)])) _
    refine XS.bipush X.here hx rfl (hb hby d1_7) ?_
    show Steps p.tables e below (T.setTop (mkF m 9 #[.val (.int i0)] [(.int (122 : Int32)), (.int i0)])) _
    by_cases q9 : (122 : Int32) < i0
    · refine XS.icmpNo X.here hx rfl (hb hby d1_9) rfl (tlt q9).2.2.2 ?_
      have e_r : (f1_0_r i0) = f1_12_r i0 := by unfold f1_0_r; rw [if_neg q3, if_pos q9]
      rw [e_r] at k
      exact f1_12 i0 X hx hZ hw hby hown k
    · refine XS.icmpYes X.here hx rfl (pc0 := 9) (pc' := 48) rfl (hb hby d1_9) rfl (flt q9).2.2.2 (by decide) (by decide) ?_
      have e_r : (f1_0_r i0) = f1_48_r := by unfold f1_0_r; rw [if_neg q3, if_neg q9]
      rw [e_r] at k
      exact f1_48 i0 X hx hZ hw hby hown k
theorem z01_f1_48_r  : (f1_48_r) = 0 ∨ (f1_48_r) = 1 := by
  unfold f1_48_r
  repeat' split
  all_goals first | exact Or.inl rfl | exact Or.inr rfl
theorem z01_f1_36_r (i0 : Int32) : (f1_36_r i0) = 0 ∨ (f1_36_r i0) = 1 := by
  unfold f1_36_r
  repeat' split
  all_goals first | exact Or.inl rfl | exact Or.inr rfl | exact z01_f1_48_r 
theorem z01_f1_24_r (i0 : Int32) : (f1_24_r i0) = 0 ∨ (f1_24_r i0) = 1 := by
  unfold f1_24_r
  repeat' split
  all_goals first | exact Or.inl rfl | exact Or.inr rfl | exact z01_f1_36_r i0 | exact z01_f1_48_r 
theorem z01_f1_12_r (i0 : Int32) : (f1_12_r i0) = 0 ∨ (f1_12_r i0) = 1 := by
  unfold f1_12_r
  repeat' split
  all_goals first | exact Or.inl rfl | exact Or.inr rfl | exact z01_f1_24_r i0 | exact z01_f1_48_r 
theorem z01_f1_0_r (i0 : Int32) : (f1_0_r i0) = 0 ∨ (f1_0_r i0) = 1 := by
  unfold f1_0_r
  repeat' split
  all_goals first | exact Or.inl rfl | exact Or.inr rfl | exact z01_f1_12_r i0 | exact z01_f1_48_r 
theorem nz_f1 (p0 : Int32) : nar .boolean (f1_0_r p0) = (f1_0_r p0) := by rcases z01_f1_0_r p0 with h | h <;> rw [h] <;> rfl
theorem pn_0 : plainName "com/example/callbook/callbook/engine/Names" = true := by first | (simp [plainName, overriddenIn]; done) | decide +kernel
theorem ef_rm1 (m : MethodId) (x0 : Int32) : entryFrame m #[(.int x0)] 1 = mkF m 0 #[.val (.int x0)] [] := by first | (simp [entryFrame, mkF, argsToLocals, Value.category]; done) | rfl
def Q_rm1 (Z : State) (p0 : Int32) (h0 : Heap) (n0 : Nat) (v : Option Value) (h : Heap) (L : List Loc) : Prop := v = some (.int (f1_0_r p0)) ∧ Fr n0 L ∧ h = h0
set_option maxRecDepth 65536 in
set_option maxHeartbeats 40000000 in
theorem rm1 (l : Launch) (Z : State) (a0 : Array Value) (hw : ∀ d ∈ tables_1, d.before a0 Z = true) (ws : List Jvm.Cond) (p0 : Int32) (h0 : Heap) (n0 : Nat) (Z0 : n0 ≤ h0.size) :
    MetFree l (⟨"com/example/callbook/callbook/engine/Names", "isNameCharacter", "(C)Z"⟩ : MethodName) (head1 (Jvm.Cond.code (⟨"com/example/callbook/callbook/engine/Names", "isNameCharacter", "(C)Z"⟩ : MethodName) prog_54_method_2_code 1 (some .boolean) :: ws) ({ frames := 0, cells := 0, slots := 0, locals := 0 } : Room)) (fun a U => a = #[(.int p0)] ∧ Z.Warmed39 U.vm ∧ U.heap = h0) (fun _ _ _ _ _ => True) (fun _ U o U' => ∃ v L, o = .returned v ∧ Q_rm1 Z p0 h0 n0 v U'.heap L ∧ FrameEnd U o U' L ({ frames := 0, cells := 0, slots := 0, locals := 0 } : Room).cells ({ frames := 0, cells := 0, slots := 0, locals := 0 } : Room).slots) := by
  refine MetFree.of_bodySF (plainFor_of_name pn_0) hisR ?_
  intro p e s m args below meth c s₁ Bd hml0 hP hK
  obtain ⟨rfl, hZ, hh⟩ := hP
  have hx := Bd.exec
  have hby := Bd.bytes
  have hml : c.maxLocals = 1 := hml0
  have hown : s.vm.findClass "com/example/callbook/callbook/engine/Names" = some m.cls := findClass_of_methodNamed Bd.named
  have hnm := (name_of_methodNamed Bd.named Bd.method).1
  have X0 : Stand p l e ({ frames := 0, cells := 0, slots := 0, locals := 0 } : Room) s m #[(.int p0)] below meth c s₁ [] 0 0 := Stand.of_body Bd
  have e0 : s₁.heap = h0 := by rw [← hh, Bd.state]; rfl
  have N0 := Fr.nil n0
  have c0 : ∀ t, Steps p.tables e below (s₁.setTop (mkF m 0 #[.val (.int p0)] [])) t → Steps p.tables e below (s₁.setTop (entryFrame m #[(.int p0)] 1)) t := fun t k => castTop (ef_rm1 m p0) k
  obtain ⟨fs, hr, hrun, hended, hW, hsame⟩ := X0.leave (v := some (.int (f1_0_r p0))) (fun h => by rw [Bd.returns] at h; cases h)
  refine ⟨_, _, c0 _ (f1_0 p0 X0 hx hZ hw hby hown (fun pc Ls hd => retN X0 hx (t := .boolean) Bd.returns (by simp) hd (by rw [nz_f1 p0]; exact hr))), hrun, hended, _, _, rfl, ?_, ⟨_, rfl⟩, hW, hsame.mono (by decide) (by decide)⟩
  show Q_rm1 Z p0 h0 n0 _ s₁.heap _
  rw [e0]
  exact ⟨rfl, N0, rfl⟩
theorem d2_0 : decode method_2_code 0 = .ok (.iload_n 0, 1) := by decide +kernel
theorem d2_1 : decode method_2_code 1 = .ok (.bipush 32, 2) := by decide +kernel
theorem d2_3 : decode method_2_code 3 = .ok (.ior, 1) := by decide +kernel
theorem d2_4 : decode method_2_code 4 = .ok (.istore_n 1, 1) := by decide +kernel
theorem d2_5 : decode method_2_code 5 = .ok (.iload_n 1, 1) := by decide +kernel
theorem d2_6 : decode method_2_code 6 = .ok (.bipush 97, 2) := by decide +kernel
theorem d2_8 : decode method_2_code 8 = .ok (.if_icmp .lt 13, 3) := by decide +kernel
theorem d2_11 : decode method_2_code 11 = .ok (.iload_n 1, 1) := by decide +kernel
theorem d2_12 : decode method_2_code 12 = .ok (.bipush 122, 2) := by decide +kernel
theorem d2_14 : decode method_2_code 14 = .ok (.if_icmp .gt 7, 3) := by decide +kernel
theorem d2_17 : decode method_2_code 17 = .ok (.iconst 1, 1) := by decide +kernel
theorem d2_18 : decode method_2_code 18 = .ok (.goto 4, 3) := by decide +kernel
theorem d2_21 : decode method_2_code 21 = .ok (.iconst 0, 1) := by decide +kernel
theorem d2_22 : decode method_2_code 22 = .ok (.istore_n 2, 1) := by decide +kernel
theorem d2_23 : decode method_2_code 23 = .ok (.iload_n 0, 1) := by decide +kernel
theorem d2_24 : decode method_2_code 24 = .ok (.bipush 48, 2) := by decide +kernel
theorem d2_26 : decode method_2_code 26 = .ok (.isub, 1) := by decide +kernel
theorem d2_27 : decode method_2_code 27 = .ok (.istore_n 3, 1) := by decide +kernel
theorem d2_28 : decode method_2_code 28 = .ok (.iload_n 3, 1) := by decide +kernel
theorem d2_29 : decode method_2_code 29 = .ok (.ifCond .lt 13, 3) := by decide +kernel
theorem d2_32 : decode method_2_code 32 = .ok (.iload_n 3, 1) := by decide +kernel
theorem d2_33 : decode method_2_code 33 = .ok (.bipush 10, 2) := by decide +kernel
theorem d2_35 : decode method_2_code 35 = .ok (.if_icmp .ge 7, 3) := by decide +kernel
theorem d2_38 : decode method_2_code 38 = .ok (.iconst 1, 1) := by decide +kernel
theorem d2_39 : decode method_2_code 39 = .ok (.goto 4, 3) := by decide +kernel
theorem d2_42 : decode method_2_code 42 = .ok (.iconst 0, 1) := by decide +kernel
theorem d2_43 : decode method_2_code 43 = .ok (.istore 4, 2) := by decide +kernel
theorem d2_45 : decode method_2_code 45 = .ok (.iload_n 2, 1) := by decide +kernel
theorem d2_46 : decode method_2_code 46 = .ok (.ifCond .ne 20, 3) := by decide +kernel
theorem d2_49 : decode method_2_code 49 = .ok (.iload 4, 2) := by decide +kernel
theorem d2_51 : decode method_2_code 51 = .ok (.ifCond .ne 15, 3) := by decide +kernel
theorem d2_54 : decode method_2_code 54 = .ok (.iload_n 0, 1) := by decide +kernel
theorem d2_55 : decode method_2_code 55 = .ok (.bipush 45, 2) := by decide +kernel
theorem d2_57 : decode method_2_code 57 = .ok (.if_icmp .eq 9, 3) := by decide +kernel
theorem d2_60 : decode method_2_code 60 = .ok (.iload_n 0, 1) := by decide +kernel
theorem d2_61 : decode method_2_code 61 = .ok (.bipush 95, 2) := by decide +kernel
theorem d2_63 : decode method_2_code 63 = .ok (.if_icmp .ne 7, 3) := by decide +kernel
theorem d2_66 : decode method_2_code 66 = .ok (.iconst 1, 1) := by decide +kernel
theorem d2_67 : decode method_2_code 67 = .ok (.goto 4, 3) := by decide +kernel
theorem d2_70 : decode method_2_code 70 = .ok (.iconst 0, 1) := by decide +kernel
theorem d2_71 : decode method_2_code 71 = .ok (.ireturn, 1) := by decide +kernel
def f2_66_r  : Int32 := (1 : Int32)
def f2_43_r (i0 : Int32) (i2 : Int32) (t0 : Int32) : Int32 := if i2 = (0 : Int32) then (if t0 = (0 : Int32) then (if i0 = (45 : Int32) then f2_66_r else if i0 = (95 : Int32) then f2_66_r else (0 : Int32)) else f2_66_r) else f2_66_r
def f2_42_r (i0 : Int32) (i2 : Int32) : Int32 := f2_43_r i0 i2 (0 : Int32)
def f2_22_r (i0 : Int32) (t0 : Int32) : Int32 := if (i0 - (48 : Int32)) < (0 : Int32) then f2_42_r i0 t0 else if (i0 - (48 : Int32)) < (10 : Int32) then f2_43_r i0 t0 (1 : Int32) else f2_42_r i0 t0
def f2_21_r (i0 : Int32) : Int32 := f2_22_r i0 (0 : Int32)
def f2_0_r (i0 : Int32) : Int32 := if (i0 ||| (32 : Int32)) < (97 : Int32) then f2_21_r i0 else if (122 : Int32) < (i0 ||| (32 : Int32)) then f2_21_r i0 else f2_22_r i0 (1 : Int32)
set_option maxRecDepth 65536 in
set_option maxHeartbeats 40000000 in
theorem f2_66 {p : Program} {l : Launch} {e : Env} {R : Room} {s : State} {m : MethodId} {args : Array Value} {below : List Frame} {meth : Method} {c : Code} {T : State} {locs : List Loc} {cells slots : Nat} {Z : State} {a0 : Array Value} {target : State} (i0 : Int32) (i1 : Int32) (i2 : Int32) (i3 : Int32) (i4 : Int32) (X : Stand p l e R s m args below meth c T locs cells slots) (hx : p.tables.exec = Jvm.exec) (hZ : Z.Warmed39 s.vm) (hw : ∀ d ∈ tables_1, d.before a0 Z = true) (hby : c.code = method_2_code) (hown : s.vm.findClass "com/example/callbook/callbook/engine/NamesIsNameCharacterPinLaw" = some m.cls) (k : ∀ (pc : Nat) (Ls : Array Slot), decode c.code pc = .ok (.ireturn, 1) → Steps p.tables e below (T.setTop (mkF m pc Ls [(.int (f2_66_r))])) target) :
    Steps p.tables e below (T.setTop (mkF m 66 #[.val (.int i0), .val (.int i1), .val (.int i2), .val (.int i3), .val (.int i4)] [])) target := by
  show Steps p.tables e below (T.setTop (mkF m 66 #[.val (.int i0), .val (.int i1), .val (.int i2), .val (.int i3), .val (.int i4)] [])) _
  refine XS.iconst X.here hx rfl (hb hby d2_66) ?_
  show Steps p.tables e below (T.setTop (mkF m 67 #[.val (.int i0), .val (.int i1), .val (.int i2), .val (.int i3), .val (.int i4)] [(.int (1 : Int32))])) _
  refine XS.goto X.here hx rfl (pc0 := 67) (pc' := 71) rfl (hb hby d2_67) (by decide) (by decide) ?_
  have e_r : (f2_66_r) = (1 : Int32) := by rfl
  rw [e_r] at k
  exact k _ _ (hb hby d2_71)
set_option maxRecDepth 65536 in
set_option maxHeartbeats 40000000 in
theorem f2_43 {p : Program} {l : Launch} {e : Env} {R : Room} {s : State} {m : MethodId} {args : Array Value} {below : List Frame} {meth : Method} {c : Code} {T : State} {locs : List Loc} {cells slots : Nat} {Z : State} {a0 : Array Value} {target : State} (i0 : Int32) (i1 : Int32) (i2 : Int32) (i3 : Int32) (t0 : Int32) (X : Stand p l e R s m args below meth c T locs cells slots) (hx : p.tables.exec = Jvm.exec) (hZ : Z.Warmed39 s.vm) (hw : ∀ d ∈ tables_1, d.before a0 Z = true) (hby : c.code = method_2_code) (hown : s.vm.findClass "com/example/callbook/callbook/engine/NamesIsNameCharacterPinLaw" = some m.cls) (k : ∀ (pc : Nat) (Ls : Array Slot), decode c.code pc = .ok (.ireturn, 1) → Steps p.tables e below (T.setTop (mkF m pc Ls [(.int (f2_43_r i0 i2 t0))])) target) :
    Steps p.tables e below (T.setTop (mkF m 43 #[.val (.int i0), .val (.int i1), .val (.int i2), .val (.int i3), .unset] [(.int t0)])) target := by
  show Steps p.tables e below (T.setTop (mkF m 43 #[.val (.int i0), .val (.int i1), .val (.int i2), .val (.int i3), .unset] [(.int t0)])) _
  refine XS.istore X.here hx rfl (hb hby d2_43) rfl (l' := #[.val (.int i0), .val (.int i1), .val (.int i2), .val (.int i3), .val (.int t0)]) rfl ?_
  show Steps p.tables e below (T.setTop (mkF m 45 #[.val (.int i0), .val (.int i1), .val (.int i2), .val (.int i3), .val (.int t0)] [])) _
  refine XS.iloadN X.here hx rfl (hb hby d2_45) rfl ?_
  show Steps p.tables e below (T.setTop (mkF m 46 #[.val (.int i0), .val (.int i1), .val (.int i2), .val (.int i3), .val (.int t0)] [(.int i2)])) _
  by_cases q46 : i2 = (0 : Int32)
  · refine XS.ifNo X.here hx rfl (hb hby d2_46) rfl ((if0 _ _).trans (teq q46).2) ?_
    show Steps p.tables e below (T.setTop (mkF m 49 #[.val (.int i0), .val (.int i1), .val (.int i2), .val (.int i3), .val (.int t0)] [])) _
    refine XS.iload X.here hx rfl (hb hby d2_49) rfl ?_
    show Steps p.tables e below (T.setTop (mkF m 51 #[.val (.int i0), .val (.int i1), .val (.int i2), .val (.int i3), .val (.int t0)] [(.int t0)])) _
    by_cases q51 : t0 = (0 : Int32)
    · refine XS.ifNo X.here hx rfl (hb hby d2_51) rfl ((if0 _ _).trans (teq q51).2) ?_
      show Steps p.tables e below (T.setTop (mkF m 54 #[.val (.int i0), .val (.int i1), .val (.int i2), .val (.int i3), .val (.int t0)] [])) _
      refine XS.iloadN X.here hx rfl (hb hby d2_54) rfl ?_
      show Steps p.tables e below (T.setTop (mkF m 55 #[.val (.int i0), .val (.int i1), .val (.int i2), .val (.int i3), .val (.int t0)] [(.int i0)])) _
      refine XS.bipush X.here hx rfl (hb hby d2_55) ?_
      show Steps p.tables e below (T.setTop (mkF m 57 #[.val (.int i0), .val (.int i1), .val (.int i2), .val (.int i3), .val (.int t0)] [(.int (45 : Int32)), (.int i0)])) _
      by_cases q57 : i0 = (45 : Int32)
      · refine XS.icmpYes X.here hx rfl (pc0 := 57) (pc' := 66) rfl (hb hby d2_57) rfl (teq q57).1 (by decide) (by decide) ?_
        have e_r : (f2_43_r i0 i2 t0) = f2_66_r := by unfold f2_43_r; rw [if_pos q46, if_pos q51, if_pos q57]
        rw [e_r] at k
        exact f2_66 i0 i1 i2 i3 t0 X hx hZ hw hby hown k
      · refine XS.icmpNo X.here hx rfl (hb hby d2_57) rfl (feq q57).1 ?_
        show Steps p.tables e below (T.setTop (mkF m 60 #[.val (.int i0), .val (.int i1), .val (.int i2), .val (.int i3), .val (.int t0)] [])) _
        refine XS.iloadN X.here hx rfl (hb hby d2_60) rfl ?_
        show Steps p.tables e below (T.setTop (mkF m 61 #[.val (.int i0), .val (.int i1), .val (.int i2), .val (.int i3), .val (.int t0)] [(.int i0)])) _
        refine XS.bipush X.here hx rfl (hb hby d2_61) ?_
        show Steps p.tables e below (T.setTop (mkF m 63 #[.val (.int i0), .val (.int i1), .val (.int i2), .val (.int i3), .val (.int t0)] [(.int (95 : Int32)), (.int i0)])) _
        by_cases q63 : i0 = (95 : Int32)
        · refine XS.icmpNo X.here hx rfl (hb hby d2_63) rfl (teq q63).2 ?_
          have e_r : (f2_43_r i0 i2 t0) = f2_66_r := by unfold f2_43_r; rw [if_pos q46, if_pos q51, if_neg q57, if_pos q63]
          rw [e_r] at k
          exact f2_66 i0 i1 i2 i3 t0 X hx hZ hw hby hown k
        · refine XS.icmpYes X.here hx rfl (pc0 := 63) (pc' := 70) rfl (hb hby d2_63) rfl (feq q63).2 (by decide) (by decide) ?_
          show Steps p.tables e below (T.setTop (mkF m 70 #[.val (.int i0), .val (.int i1), .val (.int i2), .val (.int i3), .val (.int t0)] [])) _
          refine XS.iconst X.here hx rfl (hb hby d2_70) ?_
          have e_r : (f2_43_r i0 i2 t0) = (0 : Int32) := by unfold f2_43_r; rw [if_pos q46, if_pos q51, if_neg q57, if_neg q63]
          rw [e_r] at k
          exact k _ _ (hb hby d2_71)
    · refine XS.ifYes X.here hx rfl (pc0 := 51) (pc' := 66) rfl (hb hby d2_51) rfl ((if0 _ _).trans (feq q51).2) (by decide) (by decide) ?_
      have e_r : (f2_43_r i0 i2 t0) = f2_66_r := by unfold f2_43_r; rw [if_pos q46, if_neg q51]
      rw [e_r] at k
      exact f2_66 i0 i1 i2 i3 t0 X hx hZ hw hby hown k
  · refine XS.ifYes X.here hx rfl (pc0 := 46) (pc' := 66) rfl (hb hby d2_46) rfl ((if0 _ _).trans (feq q46).2) (by decide) (by decide) ?_
    have e_r : (f2_43_r i0 i2 t0) = f2_66_r := by unfold f2_43_r; rw [if_neg q46]
    rw [e_r] at k
    exact f2_66 i0 i1 i2 i3 t0 X hx hZ hw hby hown k
set_option maxRecDepth 65536 in
set_option maxHeartbeats 40000000 in
theorem f2_42 {p : Program} {l : Launch} {e : Env} {R : Room} {s : State} {m : MethodId} {args : Array Value} {below : List Frame} {meth : Method} {c : Code} {T : State} {locs : List Loc} {cells slots : Nat} {Z : State} {a0 : Array Value} {target : State} (i0 : Int32) (i1 : Int32) (i2 : Int32) (i3 : Int32) (X : Stand p l e R s m args below meth c T locs cells slots) (hx : p.tables.exec = Jvm.exec) (hZ : Z.Warmed39 s.vm) (hw : ∀ d ∈ tables_1, d.before a0 Z = true) (hby : c.code = method_2_code) (hown : s.vm.findClass "com/example/callbook/callbook/engine/NamesIsNameCharacterPinLaw" = some m.cls) (k : ∀ (pc : Nat) (Ls : Array Slot), decode c.code pc = .ok (.ireturn, 1) → Steps p.tables e below (T.setTop (mkF m pc Ls [(.int (f2_42_r i0 i2))])) target) :
    Steps p.tables e below (T.setTop (mkF m 42 #[.val (.int i0), .val (.int i1), .val (.int i2), .val (.int i3), .unset] [])) target := by
  show Steps p.tables e below (T.setTop (mkF m 42 #[.val (.int i0), .val (.int i1), .val (.int i2), .val (.int i3), .unset] [])) _
  refine XS.iconst X.here hx rfl (hb hby d2_42) ?_
  have e_r : (f2_42_r i0 i2) = f2_43_r i0 i2 (0 : Int32) := by rfl
  rw [e_r] at k
  exact f2_43 i0 i1 i2 i3 (0 : Int32) X hx hZ hw hby hown k
set_option maxRecDepth 65536 in
set_option maxHeartbeats 40000000 in
theorem f2_22 {p : Program} {l : Launch} {e : Env} {R : Room} {s : State} {m : MethodId} {args : Array Value} {below : List Frame} {meth : Method} {c : Code} {T : State} {locs : List Loc} {cells slots : Nat} {Z : State} {a0 : Array Value} {target : State} (i0 : Int32) (i1 : Int32) (t0 : Int32) (X : Stand p l e R s m args below meth c T locs cells slots) (hx : p.tables.exec = Jvm.exec) (hZ : Z.Warmed39 s.vm) (hw : ∀ d ∈ tables_1, d.before a0 Z = true) (hby : c.code = method_2_code) (hown : s.vm.findClass "com/example/callbook/callbook/engine/NamesIsNameCharacterPinLaw" = some m.cls) (k : ∀ (pc : Nat) (Ls : Array Slot), decode c.code pc = .ok (.ireturn, 1) → Steps p.tables e below (T.setTop (mkF m pc Ls [(.int (f2_22_r i0 t0))])) target) :
    Steps p.tables e below (T.setTop (mkF m 22 #[.val (.int i0), .val (.int i1), .unset, .unset, .unset] [(.int t0)])) target := by
  show Steps p.tables e below (T.setTop (mkF m 22 #[.val (.int i0), .val (.int i1), .unset, .unset, .unset] [(.int t0)])) _
  refine XS.istoreN X.here hx rfl (hb hby d2_22) rfl (l' := #[.val (.int i0), .val (.int i1), .val (.int t0), .unset, .unset]) rfl ?_
  show Steps p.tables e below (T.setTop (mkF m 23 #[.val (.int i0), .val (.int i1), .val (.int t0), .unset, .unset] [])) _
  refine XS.iloadN X.here hx rfl (hb hby d2_23) rfl ?_
  show Steps p.tables e below (T.setTop (mkF m 24 #[.val (.int i0), .val (.int i1), .val (.int t0), .unset, .unset] [(.int i0)])) _
  refine XS.bipush X.here hx rfl (hb hby d2_24) ?_
  show Steps p.tables e below (T.setTop (mkF m 26 #[.val (.int i0), .val (.int i1), .val (.int t0), .unset, .unset] [(.int (48 : Int32)), (.int i0)])) _
  refine XS.isub X.here hx rfl (hb hby d2_26) rfl ?_
  show Steps p.tables e below (T.setTop (mkF m 27 #[.val (.int i0), .val (.int i1), .val (.int t0), .unset, .unset] [(.int (i0 - (48 : Int32)))])) _
  refine XS.istoreN X.here hx rfl (hb hby d2_27) rfl (l' := #[.val (.int i0), .val (.int i1), .val (.int t0), .val (.int (i0 - (48 : Int32))), .unset]) rfl ?_
  show Steps p.tables e below (T.setTop (mkF m 28 #[.val (.int i0), .val (.int i1), .val (.int t0), .val (.int (i0 - (48 : Int32))), .unset] [])) _
  refine XS.iloadN X.here hx rfl (hb hby d2_28) rfl ?_
  show Steps p.tables e below (T.setTop (mkF m 29 #[.val (.int i0), .val (.int i1), .val (.int t0), .val (.int (i0 - (48 : Int32))), .unset] [(.int (i0 - (48 : Int32)))])) _
  by_cases q29 : (i0 - (48 : Int32)) < (0 : Int32)
  · refine XS.ifYes X.here hx rfl (pc0 := 29) (pc' := 42) rfl (hb hby d2_29) rfl ((if0 _ _).trans (tlt q29).1) (by decide) (by decide) ?_
    have e_r : (f2_22_r i0 t0) = f2_42_r i0 t0 := by unfold f2_22_r; rw [if_pos q29]
    rw [e_r] at k
    exact f2_42 i0 i1 t0 (i0 - (48 : Int32)) X hx hZ hw hby hown k
  · refine XS.ifNo X.here hx rfl (hb hby d2_29) rfl ((if0 _ _).trans (flt q29).1) ?_
    show Steps p.tables e below (T.setTop (mkF m 32 #[.val (.int i0), .val (.int i1), .val (.int t0), .val (.int (i0 - (48 : Int32))), .unset] [])) _
    refine XS.iloadN X.here hx rfl (hb hby d2_32) rfl ?_
    show Steps p.tables e below (T.setTop (mkF m 33 #[.val (.int i0), .val (.int i1), .val (.int t0), .val (.int (i0 - (48 : Int32))), .unset] [(.int (i0 - (48 : Int32)))])) _
    refine XS.bipush X.here hx rfl (hb hby d2_33) ?_
    show Steps p.tables e below (T.setTop (mkF m 35 #[.val (.int i0), .val (.int i1), .val (.int t0), .val (.int (i0 - (48 : Int32))), .unset] [(.int (10 : Int32)), (.int (i0 - (48 : Int32)))])) _
    by_cases q35 : (i0 - (48 : Int32)) < (10 : Int32)
    · refine XS.icmpNo X.here hx rfl (hb hby d2_35) rfl (tlt q35).2.1 ?_
      show Steps p.tables e below (T.setTop (mkF m 38 #[.val (.int i0), .val (.int i1), .val (.int t0), .val (.int (i0 - (48 : Int32))), .unset] [])) _
      refine XS.iconst X.here hx rfl (hb hby d2_38) ?_
      show Steps p.tables e below (T.setTop (mkF m 39 #[.val (.int i0), .val (.int i1), .val (.int t0), .val (.int (i0 - (48 : Int32))), .unset] [(.int (1 : Int32))])) _
      refine XS.goto X.here hx rfl (pc0 := 39) (pc' := 43) rfl (hb hby d2_39) (by decide) (by decide) ?_
      have e_r : (f2_22_r i0 t0) = f2_43_r i0 t0 (1 : Int32) := by unfold f2_22_r; rw [if_neg q29, if_pos q35]
      rw [e_r] at k
      exact f2_43 i0 i1 t0 (i0 - (48 : Int32)) (1 : Int32) X hx hZ hw hby hown k
    · refine XS.icmpYes X.here hx rfl (pc0 := 35) (pc' := 42) rfl (hb hby d2_35) rfl (flt q35).2.1 (by decide) (by decide) ?_
      have e_r : (f2_22_r i0 t0) = f2_42_r i0 t0 := by unfold f2_22_r; rw [if_neg q29, if_neg q35]
      rw [e_r] at k
      exact f2_42 i0 i1 t0 (i0 - (48 : Int32)) X hx hZ hw hby hown k
set_option maxRecDepth 65536 in
set_option maxHeartbeats 40000000 in
theorem f2_21 {p : Program} {l : Launch} {e : Env} {R : Room} {s : State} {m : MethodId} {args : Array Value} {below : List Frame} {meth : Method} {c : Code} {T : State} {locs : List Loc} {cells slots : Nat} {Z : State} {a0 : Array Value} {target : State} (i0 : Int32) (i1 : Int32) (X : Stand p l e R s m args below meth c T locs cells slots) (hx : p.tables.exec = Jvm.exec) (hZ : Z.Warmed39 s.vm) (hw : ∀ d ∈ tables_1, d.before a0 Z = true) (hby : c.code = method_2_code) (hown : s.vm.findClass "com/example/callbook/callbook/engine/NamesIsNameCharacterPinLaw" = some m.cls) (k : ∀ (pc : Nat) (Ls : Array Slot), decode c.code pc = .ok (.ireturn, 1) → Steps p.tables e below (T.setTop (mkF m pc Ls [(.int (f2_21_r i0))])) target) :
    Steps p.tables e below (T.setTop (mkF m 21 #[.val (.int i0), .val (.int i1), .unset, .unset, .unset] [])) target := by
  show Steps p.tables e below (T.setTop (mkF m 21 #[.val (.int i0), .val (.int i1), .unset, .unset, .unset] [])) _
  refine XS.iconst X.here hx rfl (hb hby d2_21) ?_
  have e_r : (f2_21_r i0) = f2_22_r i0 (0 : Int32) := by rfl
  rw [e_r] at k
  exact f2_22 i0 i1 (0 : Int32) X hx hZ hw hby hown k
set_option maxRecDepth 65536 in
set_option maxHeartbeats 40000000 in
theorem f2_0 {p : Program} {l : Launch} {e : Env} {R : Room} {s : State} {m : MethodId} {args : Array Value} {below : List Frame} {meth : Method} {c : Code} {T : State} {locs : List Loc} {cells slots : Nat} {Z : State} {a0 : Array Value} {target : State} (i0 : Int32) (X : Stand p l e R s m args below meth c T locs cells slots) (hx : p.tables.exec = Jvm.exec) (hZ : Z.Warmed39 s.vm) (hw : ∀ d ∈ tables_1, d.before a0 Z = true) (hby : c.code = method_2_code) (hown : s.vm.findClass "com/example/callbook/callbook/engine/NamesIsNameCharacterPinLaw" = some m.cls) (k : ∀ (pc : Nat) (Ls : Array Slot), decode c.code pc = .ok (.ireturn, 1) → Steps p.tables e below (T.setTop (mkF m pc Ls [(.int (f2_0_r i0))])) target) :
    Steps p.tables e below (T.setTop (mkF m 0 #[.val (.int i0), .unset, .unset, .unset, .unset] [])) target := by
  show Steps p.tables e below (T.setTop (mkF m 0 #[.val (.int i0), .unset, .unset, .unset, .unset] [])) _
  refine XS.iloadN X.here hx rfl (hb hby d2_0) rfl ?_
  show Steps p.tables e below (T.setTop (mkF m 1 #[.val (.int i0), .unset, .unset, .unset, .unset] [(.int i0)])) _
  refine XS.bipush X.here hx rfl (hb hby d2_1) ?_
  show Steps p.tables e below (T.setTop (mkF m 3 #[.val (.int i0), .unset, .unset, .unset, .unset] [(.int (32 : Int32)), (.int i0)])) _
  refine XS.ior X.here hx rfl (hb hby d2_3) rfl ?_
  show Steps p.tables e below (T.setTop (mkF m 4 #[.val (.int i0), .unset, .unset, .unset, .unset] [(.int (i0 ||| (32 : Int32)))])) _
  refine XS.istoreN X.here hx rfl (hb hby d2_4) rfl (l' := #[.val (.int i0), .val (.int (i0 ||| (32 : Int32))), .unset, .unset, .unset]) rfl ?_
  show Steps p.tables e below (T.setTop (mkF m 5 #[.val (.int i0), .val (.int (i0 ||| (32 : Int32))), .unset, .unset, .unset] [])) _
  refine XS.iloadN X.here hx rfl (hb hby d2_5) rfl ?_
  show Steps p.tables e below (T.setTop (mkF m 6 #[.val (.int i0), .val (.int (i0 ||| (32 : Int32))), .unset, .unset, .unset] [(.int (i0 ||| (32 : Int32)))])) _
  refine XS.bipush X.here hx rfl (hb hby d2_6) ?_
  show Steps p.tables e below (T.setTop (mkF m 8 #[.val (.int i0), .val (.int (i0 ||| (32 : Int32))), .unset, .unset, .unset] [(.int (97 : Int32)), (.int (i0 ||| (32 : Int32)))])) _
  by_cases q8 : (i0 ||| (32 : Int32)) < (97 : Int32)
  · refine XS.icmpYes X.here hx rfl (pc0 := 8) (pc' := 21) rfl (hb hby d2_8) rfl (tlt q8).1 (by decide) (by decide) ?_
    have e_r : (f2_0_r i0) = f2_21_r i0 := by unfold f2_0_r; rw [if_pos q8]
    rw [e_r] at k
    exact f2_21 i0 (i0 ||| (32 : Int32)) X hx hZ hw hby hown k
  · refine XS.icmpNo X.here hx rfl (hb hby d2_8) rfl (flt q8).1 ?_
    show Steps p.tables e below (T.setTop (mkF m 11 #[.val (.int i0), .val (.int (i0 ||| (32 : Int32))), .unset, .unset, .unset] [])) _
    refine XS.iloadN X.here hx rfl (hb hby d2_11) rfl ?_
    show Steps p.tables e below (T.setTop (mkF m 12 #[.val (.int i0), .val (.int (i0 ||| (32 : Int32))), .unset, .unset, .unset] [(.int (i0 ||| (32 : Int32)))])) _
    refine XS.bipush X.here hx rfl (hb hby d2_12) ?_
    show Steps p.tables e below (T.setTop (mkF m 14 #[.val (.int i0), .val (.int (i0 ||| (32 : Int32))), .unset, .unset, .unset] [(.int (122 : Int32)), (.int (i0 ||| (32 : Int32)))])) _
    by_cases q14 : (122 : Int32) < (i0 ||| (32 : Int32))
    · refine XS.icmpYes X.here hx rfl (pc0 := 14) (pc' := 21) rfl (hb hby d2_14) rfl (tlt q14).2.2.1 (by decide) (by decide) ?_
      have e_r : (f2_0_r i0) = f2_21_r i0 := by unfold f2_0_r; rw [if_neg q8, if_pos q14]
      rw [e_r] at k
      exact f2_21 i0 (i0 ||| (32 : Int32)) X hx hZ hw hby hown k
    · refine XS.icmpNo X.here hx rfl (hb hby d2_14) rfl (flt q14).2.2.1 ?_
      show Steps p.tables e below (T.setTop (mkF m 17 #[.val (.int i0), .val (.int (i0 ||| (32 : Int32))), .unset, .unset, .unset] [])) _
      refine XS.iconst X.here hx rfl (hb hby d2_17) ?_
      show Steps p.tables e below (T.setTop (mkF m 18 #[.val (.int i0), .val (.int (i0 ||| (32 : Int32))), .unset, .unset, .unset] [(.int (1 : Int32))])) _
      refine XS.goto X.here hx rfl (pc0 := 18) (pc' := 22) rfl (hb hby d2_18) (by decide) (by decide) ?_
      have e_r : (f2_0_r i0) = f2_22_r i0 (1 : Int32) := by unfold f2_0_r; rw [if_neg q8, if_neg q14]
      rw [e_r] at k
      exact f2_22 i0 (i0 ||| (32 : Int32)) (1 : Int32) X hx hZ hw hby hown k
theorem z01_f2_66_r  : (f2_66_r) = 0 ∨ (f2_66_r) = 1 := by
  unfold f2_66_r
  repeat' split
  all_goals first | exact Or.inl rfl | exact Or.inr rfl
theorem z01_f2_43_r (i0 : Int32) (i2 : Int32) (t0 : Int32) : (f2_43_r i0 i2 t0) = 0 ∨ (f2_43_r i0 i2 t0) = 1 := by
  unfold f2_43_r
  repeat' split
  all_goals first | exact Or.inl rfl | exact Or.inr rfl | exact z01_f2_66_r 
theorem z01_f2_42_r (i0 : Int32) (i2 : Int32) : (f2_42_r i0 i2) = 0 ∨ (f2_42_r i0 i2) = 1 := by
  unfold f2_42_r
  repeat' split
  all_goals first | exact Or.inl rfl | exact Or.inr rfl | exact z01_f2_43_r i0 i2 (0 : Int32)
theorem z01_f2_22_r (i0 : Int32) (t0 : Int32) : (f2_22_r i0 t0) = 0 ∨ (f2_22_r i0 t0) = 1 := by
  unfold f2_22_r
  repeat' split
  all_goals first | exact Or.inl rfl | exact Or.inr rfl | exact z01_f2_42_r i0 t0 | exact z01_f2_43_r i0 t0 (1 : Int32)
theorem z01_f2_21_r (i0 : Int32) : (f2_21_r i0) = 0 ∨ (f2_21_r i0) = 1 := by
  unfold f2_21_r
  repeat' split
  all_goals first | exact Or.inl rfl | exact Or.inr rfl | exact z01_f2_22_r i0 (0 : Int32)
theorem z01_f2_0_r (i0 : Int32) : (f2_0_r i0) = 0 ∨ (f2_0_r i0) = 1 := by
  unfold f2_0_r
  repeat' split
  all_goals first | exact Or.inl rfl | exact Or.inr rfl | exact z01_f2_21_r i0 | exact z01_f2_22_r i0 (1 : Int32)
theorem nz_f2 (p0 : Int32) : nar .boolean (f2_0_r p0) = (f2_0_r p0) := by rcases z01_f2_0_r p0 with h | h <;> rw [h] <;> rfl
theorem pn_1 : plainName "com/example/callbook/callbook/engine/NamesIsNameCharacterPinLaw" = true := by first | (simp [plainName, overriddenIn]; done) | decide +kernel
theorem ef_rm2 (m : MethodId) (x0 : Int32) : entryFrame m #[(.int x0)] 5 = mkF m 0 #[.val (.int x0), .unset, .unset, .unset, .unset] [] := by first | (simp [entryFrame, mkF, argsToLocals, Value.category]; done) | rfl
def Q_rm2 (Z : State) (p0 : Int32) (h0 : Heap) (n0 : Nat) (v : Option Value) (h : Heap) (L : List Loc) : Prop := v = some (.int (f2_0_r p0)) ∧ Fr n0 L ∧ h = h0
set_option maxRecDepth 65536 in
set_option maxHeartbeats 40000000 in
theorem rm2 (l : Launch) (Z : State) (a0 : Array Value) (hw : ∀ d ∈ tables_1, d.before a0 Z = true) (ws : List Jvm.Cond) (p0 : Int32) (h0 : Heap) (n0 : Nat) (Z0 : n0 ≤ h0.size) :
    MetFree l (⟨"com/example/callbook/callbook/engine/NamesIsNameCharacterPinLaw", "ref", "(C)Z"⟩ : MethodName) (head1 (Jvm.Cond.code (⟨"com/example/callbook/callbook/engine/NamesIsNameCharacterPinLaw", "ref", "(C)Z"⟩ : MethodName) method_2_code 5 (some .boolean) :: ws) ({ frames := 0, cells := 0, slots := 0, locals := 0 } : Room)) (fun a U => a = #[(.int p0)] ∧ Z.Warmed39 U.vm ∧ U.heap = h0) (fun _ _ _ _ _ => True) (fun _ U o U' => ∃ v L, o = .returned v ∧ Q_rm2 Z p0 h0 n0 v U'.heap L ∧ FrameEnd U o U' L ({ frames := 0, cells := 0, slots := 0, locals := 0 } : Room).cells ({ frames := 0, cells := 0, slots := 0, locals := 0 } : Room).slots) := by
  refine MetFree.of_bodySF (plainFor_of_name pn_1) hisR ?_
  intro p e s m args below meth c s₁ Bd hml0 hP hK
  obtain ⟨rfl, hZ, hh⟩ := hP
  have hx := Bd.exec
  have hby := Bd.bytes
  have hml : c.maxLocals = 5 := hml0
  have hown : s.vm.findClass "com/example/callbook/callbook/engine/NamesIsNameCharacterPinLaw" = some m.cls := findClass_of_methodNamed Bd.named
  have hnm := (name_of_methodNamed Bd.named Bd.method).1
  have X0 : Stand p l e ({ frames := 0, cells := 0, slots := 0, locals := 0 } : Room) s m #[(.int p0)] below meth c s₁ [] 0 0 := Stand.of_body Bd
  have e0 : s₁.heap = h0 := by rw [← hh, Bd.state]; rfl
  have N0 := Fr.nil n0
  have c0 : ∀ t, Steps p.tables e below (s₁.setTop (mkF m 0 #[.val (.int p0), .unset, .unset, .unset, .unset] [])) t → Steps p.tables e below (s₁.setTop (entryFrame m #[(.int p0)] 5)) t := fun t k => castTop (ef_rm2 m p0) k
  obtain ⟨fs, hr, hrun, hended, hW, hsame⟩ := X0.leave (v := some (.int (f2_0_r p0))) (fun h => by rw [Bd.returns] at h; cases h)
  refine ⟨_, _, c0 _ (f2_0 p0 X0 hx hZ hw hby hown (fun pc Ls hd => retN X0 hx (t := .boolean) Bd.returns (by simp) hd (by rw [nz_f2 p0]; exact hr))), hrun, hended, _, _, rfl, ?_, ⟨_, rfl⟩, hW, hsame.mono (by decide) (by decide)⟩
  show Q_rm2 Z p0 h0 n0 _ s₁.heap _
  rw [e0]
  exact ⟨rfl, N0, rfl⟩
def own_i (vs : List Value) (j : Int32) : Int32 := match vs.getD j.toNatClampNeg (.int (0 : Int32)) with | .int x => x | _ => 0
theorem own_in8 (y : Int32) : ¬ ((y &&& (2147483647 : Int32)) % (8 : Int32)) < 0 ∧ ((y &&& (2147483647 : Int32)) % (8 : Int32)) < 8 := by
  have e : 0 ≤ (y &&& (2147483647 : Int32)).toInt ∧ _ := c_and y 2147483647 (by decide)
  have q := (c_irem (y &&& (2147483647 : Int32)) 8 8 rfl).1 e.1
  have e0 : (0 : Int32).toInt = 0 := rfl
  have e8 : (8 : Int32).toInt = 8 := rfl
  rw [Int32.lt_iff_toInt_lt, Int32.lt_iff_toInt_lt]
  omega
theorem own_eight {j : Int32} (h : ¬ j < 0 ∧ j < 8) : j = 0 ∨ j = 1 ∨ j = 2 ∨ j = 3 ∨ j = 4 ∨ j = 5 ∨ j = 6 ∨ j = 7 := by
  obtain ⟨h1, h2⟩ := h
  rw [Int32.lt_iff_toInt_lt] at h1 h2
  have e0 : (0 : Int32).toInt = 0 := rfl
  have e8 : (8 : Int32).toInt = 8 := rfl
  have e : j.toInt = 0 ∨ j.toInt = 1 ∨ j.toInt = 2 ∨ j.toInt = 3 ∨ j.toInt = 4 ∨ j.toInt = 5 ∨ j.toInt = 6 ∨ j.toInt = 7 := by omega
  rcases e with e | e | e | e | e | e | e | e
  · exact Or.inl (Int32.toInt_inj.mp e)
  · exact Or.inr (Or.inl (Int32.toInt_inj.mp e))
  · exact Or.inr (Or.inr (Or.inl (Int32.toInt_inj.mp e)))
  · exact Or.inr (Or.inr (Or.inr (Or.inl (Int32.toInt_inj.mp e))))
  · exact Or.inr (Or.inr (Or.inr (Or.inr (Or.inl (Int32.toInt_inj.mp e)))))
  · exact Or.inr (Or.inr (Or.inr (Or.inr (Or.inr (Or.inl (Int32.toInt_inj.mp e))))))
  · exact Or.inr (Or.inr (Or.inr (Or.inr (Or.inr (Or.inr (Or.inl (Int32.toInt_inj.mp e)))))))
  · exact Or.inr (Or.inr (Or.inr (Or.inr (Or.inr (Or.inr (Or.inr (Int32.toInt_inj.mp e)))))))
theorem own_i_at {j : Int32} {a b c d e f g h : Int32} (q : ¬ j < 0 ∧ j < 8) : ([(.int a), (.int b), (.int c), (.int d), (.int e), (.int f), (.int g), (.int h)] : List Value).getD j.toNatClampNeg (.int (0 : Int32)) = .int (own_i [(.int a), (.int b), (.int c), (.int d), (.int e), (.int f), (.int g), (.int h)] j) := by
  rcases own_eight q with rfl | rfl | rfl | rfl | rfl | rfl | rfl | rfl <;> rfl
theorem own_small : ∀ k : Fin 128, f1_0_r (Int32.ofNat k.1) = f2_0_r (Int32.ofNat k.1) := by decide +kernel
theorem own_lt {c t : Int32} (x : Int) (e : t.toInt = x) (h : c.toInt < x) : c < t := by rw [Int32.lt_iff_toInt_lt, e]; exact h
theorem own_nlt {c t : Int32} (x : Int) (e : t.toInt = x) (h : x ≤ c.toInt) : ¬ c < t := by rw [Int32.lt_iff_toInt_lt, e]; omega
theorem own_gt {c t : Int32} (x : Int) (e : t.toInt = x) (h : x < c.toInt) : t < c := by rw [Int32.lt_iff_toInt_lt, e]; exact h
theorem own_ne {c t : Int32} (x : Int) (e : t.toInt = x) (h : c.toInt ≠ x) : ¬ c = t := fun q => h (by rw [q, e])
theorem own_big (c : Int32) (h : 128 ≤ c.toInt) (h2 : c.toInt < 65536) : f1_0_r c = f2_0_r c := by
  have e1 : f1_0_r c = 0 := by
    unfold f1_0_r; rw [if_neg (own_nlt 97 rfl (by omega)), if_pos (own_gt 122 rfl (by omega))]
    unfold f1_12_r; rw [if_neg (own_nlt 65 rfl (by omega)), if_pos (own_gt 90 rfl (by omega))]
    unfold f1_24_r; rw [if_neg (own_nlt 48 rfl (by omega)), if_pos (own_gt 57 rfl (by omega))]
    unfold f1_36_r; rw [if_neg (own_ne 45 rfl (by omega)), if_neg (own_ne 95 rfl (by omega))]
  have q := c_or0 c 32 (by omega) (by decide)
  have s : (c - (48 : Int32)).toInt = c.toInt - 48 := by
    rw [Int32.toInt_sub]
    exact Int.bmod_eq_of_le (by have : (48 : Int32).toInt = 48 := rfl; omega) (by have : (48 : Int32).toInt = 48 := rfl; omega)
  have e2 : f2_0_r c = 0 := by
    unfold f2_0_r; rw [if_neg (own_nlt 97 rfl (by omega)), if_pos (own_gt 122 rfl (by omega))]
    unfold f2_21_r f2_22_r; rw [if_neg (own_nlt 0 rfl (by omega)), if_neg (own_nlt 10 rfl (by omega))]
    unfold f2_42_r f2_43_r; rw [if_pos rfl, if_pos rfl, if_neg (own_ne 45 rfl (by omega)), if_neg (own_ne 95 rfl (by omega))]
  rw [e1, e2]
theorem own_law (v : Int32) : f1_0_r (v.toUInt32.toUInt16.toUInt32.toInt32) = f2_0_r (v.toUInt32.toUInt16.toUInt32.toInt32) := by
  obtain ⟨-, h0, h1⟩ := c_i2c v
  generalize (v.toUInt32.toUInt16.toUInt32.toInt32) = c at *
  rcases Int.lt_or_le c.toInt 128 with h | h
  · have e : c = Int32.ofNat c.toInt.toNat := Int32.toInt_inj.mp (by rw [Int32.toInt_ofNat_of_lt (by omega)]; omega)
    rw [e]
    exact own_small ⟨c.toInt.toNat, by omega⟩
  · exact own_big c h h1
theorem pd_0 : parseMethodDescriptor "(C)Z" = some ⟨[.char], some .boolean⟩ := by decide +kernel
theorem ef_rm0 (m : MethodId) (x0 : Int32) (x1 : Int32) (x2 : Int32) : entryFrame m #[(.int x0), (.int x1), (.int x2)] maxLocals = mkF m 0 #[.val (.int x0), .val (.int x1), .val (.int x2), .unset, .unset, .unset, .unset, .unset, .unset, .unset] [] := by first | (simp [entryFrame, mkF, argsToLocals, Value.category, maxLocals]; done) | rfl
def Q_rm0 (Z : State) (p0 : Int32) (p1 : Int32) (p2 : Int32) (h0 : Heap) (n0 : Nat) (v : Option Value) (h : Heap) (L : List Loc) : Prop := v = some (.int (1 : Int32)) ∧ Fr n0 L
set_option maxRecDepth 65536 in
set_option maxHeartbeats 40000000 in
theorem rm0 (l : Launch) (Z : State) (a0 : Array Value) (hw : ∀ d ∈ tables_1, d.before a0 Z = true) (ws : List Jvm.Cond) (p0 : Int32) (p1 : Int32) (p2 : Int32) (h0 : Heap) (n0 : Nat) (Z0 : n0 ≤ h0.size) :
    MetFree l x (head1 (Jvm.Cond.code x code maxLocals ret :: ws) room_1) (fun a U => a = #[(.int p0), (.int p1), (.int p2)] ∧ Z.Warmed39 U.vm ∧ U.heap = h0) (fun _ _ _ _ _ => True) (fun _ U o U' => ∃ v L, o = .returned v ∧ Q_rm0 Z p0 p1 p2 h0 n0 v U'.heap L ∧ FrameEnd U o U' L room_1.cells room_1.slots) := by
  refine MetFree.of_bodySF (plainFor_of_name pn_1) hisR ?_
  intro p e s m args below meth c s₁ Bd hml0 hP hK
  obtain ⟨rfl, hZ, hh⟩ := hP
  have hx := Bd.exec
  have hby := Bd.bytes
  have hml : c.maxLocals = 10 := hml0
  have hown : s.vm.findClass "com/example/callbook/callbook/engine/NamesIsNameCharacterPinLaw" = some m.cls := findClass_of_methodNamed Bd.named
  have hnm := (name_of_methodNamed Bd.named Bd.method).1
  have X0 : Stand p l e room_1 s m #[(.int p0), (.int p1), (.int p2)] below meth c s₁ [] 0 0 := Stand.of_body Bd
  have e0 : s₁.heap = h0 := by rw [← hh, Bd.state]; rfl
  have N0 := Fr.nil n0
  have c0 : ∀ t, Steps p.tables e below (s₁.setTop (mkF m 0 #[.val (.int p0), .val (.int p1), .val (.int p2), .unset, .unset, .unset, .unset, .unset, .unset, .unset] [])) t → Steps p.tables e below (s₁.setTop (entryFrame m #[(.int p0), (.int p1), (.int p2)] maxLocals)) t := fun t k => castTop (ef_rm0 m p0 p1 p2) k
  have c1 : ∀ t, Steps p.tables e below (s₁.setTop (mkF m 5 #[.val (.int p0), .val (.int p1), .val (.int p2), .val (.int (p0.toUInt32.toUInt16.toUInt32.toInt32)), .unset, .unset, .unset, .unset, .unset, .unset] [(.int (8 : Int32))])) t → Steps p.tables e below (s₁.setTop (entryFrame m #[(.int p0), (.int p1), (.int p2)] maxLocals)) t := fun t k => c0 t (by
      show Steps p.tables e below (s₁.setTop (mkF m 0 #[.val (.int p0), .val (.int p1), .val (.int p2), .unset, .unset, .unset, .unset, .unset, .unset, .unset] [])) _
      refine XS.iloadN X0.here hx rfl (hb hby at_0) rfl ?_
      show Steps p.tables e below (s₁.setTop (mkF m 1 #[.val (.int p0), .val (.int p1), .val (.int p2), .unset, .unset, .unset, .unset, .unset, .unset, .unset] [(.int p0)])) _
      refine XS.i2c X0.here hx rfl (hb hby at_1) rfl ?_
      show Steps p.tables e below (s₁.setTop (mkF m 2 #[.val (.int p0), .val (.int p1), .val (.int p2), .unset, .unset, .unset, .unset, .unset, .unset, .unset] [(.int (p0.toUInt32.toUInt16.toUInt32.toInt32))])) _
      refine XS.istoreN X0.here hx rfl (hb hby at_2) rfl (l' := #[.val (.int p0), .val (.int p1), .val (.int p2), .val (.int (p0.toUInt32.toUInt16.toUInt32.toInt32)), .unset, .unset, .unset, .unset, .unset, .unset]) rfl ?_
      show Steps p.tables e below (s₁.setTop (mkF m 3 #[.val (.int p0), .val (.int p1), .val (.int p2), .val (.int (p0.toUInt32.toUInt16.toUInt32.toInt32)), .unset, .unset, .unset, .unset, .unset, .unset] [])) _
      refine XS.bipush X0.here hx rfl (hb hby at_3) ?_
      exact k)
  obtain ⟨T2, h2, k2, X2, e2, E2, A2, st2⟩ := newP X0 hx hZ (hw _ (List.mem_of_getElem? (i := 0) rfl)) e0 (g := (mkF m 5 #[.val (.int p0), .val (.int p1), .val (.int p2), .val (.int (p0.toUInt32.toUInt16.toUInt32.toInt32)), .unset, .unset, .unset, .unset, .unset, .unset] [(.int (8 : Int32))])) rfl (hb hby at_5) rfl (by decide) (cap := 8) (by decide) (by decide) (by decide) (by decide)
  obtain ⟨b2, g2⟩ : ∃ z, z = h0.size := ⟨_, rfl⟩
  rw [← g2] at A2 st2
  have gb2 : n0 ≤ b2 := Nat.le_trans Z0 (Nat.le_of_eq g2.symm)
  have V2 : Arv Z h2 b2 k2 .char (8 : Int32) [(.int (0 : Int32)), (.int (0 : Int32)), (.int (0 : Int32)), (.int (0 : Int32)), (.int (0 : Int32)), (.int (0 : Int32)), (.int (0 : Int32)), (.int (0 : Int32))] (.int (0 : Int32)) := (Arv.new A2 (by decide)).pad (pad_rep [] (.int (0 : Int32)) 8)
  have Z2 : n0 ≤ h2.size := Nat.le_trans Z0 E2.1
  have c3 : ∀ t, Steps p.tables e below (T2.setTop (mkF m 7 #[.val (.int p0), .val (.int p1), .val (.int p2), .val (.int (p0.toUInt32.toUInt16.toUInt32.toInt32)), .unset, .unset, .unset, .unset, .unset, .unset] [(.ref b2)])) t → Steps p.tables e below (s₁.setTop (entryFrame m #[(.int p0), (.int p1), (.int p2)] maxLocals)) t := fun t k => c1 t (st2 t k)
  have c4 : ∀ t, Steps p.tables e below (T2.setTop (mkF m 11 #[.val (.int p0), .val (.int p1), .val (.int p2), .val (.int (p0.toUInt32.toUInt16.toUInt32.toInt32)), .unset, .unset, .unset, .unset, .unset, .unset] [(.int (97 : Int32)), (.int (0 : Int32)), (.ref b2), (.ref b2)])) t → Steps p.tables e below (s₁.setTop (entryFrame m #[(.int p0), (.int p1), (.int p2)] maxLocals)) t := fun t k => c3 t (by
      show Steps p.tables e below (T2.setTop (mkF m 7 #[.val (.int p0), .val (.int p1), .val (.int p2), .val (.int (p0.toUInt32.toUInt16.toUInt32.toInt32)), .unset, .unset, .unset, .unset, .unset, .unset] [(.ref b2)])) _
      refine XS.dup X2.here hx rfl (hb hby at_7) rfl rfl ?_
      show Steps p.tables e below (T2.setTop (mkF m 8 #[.val (.int p0), .val (.int p1), .val (.int p2), .val (.int (p0.toUInt32.toUInt16.toUInt32.toInt32)), .unset, .unset, .unset, .unset, .unset, .unset] [(.ref b2), (.ref b2)])) _
      refine XS.iconst X2.here hx rfl (hb hby at_8) ?_
      show Steps p.tables e below (T2.setTop (mkF m 9 #[.val (.int p0), .val (.int p1), .val (.int p2), .val (.int (p0.toUInt32.toUInt16.toUInt32.toInt32)), .unset, .unset, .unset, .unset, .unset, .unset] [(.int (0 : Int32)), (.ref b2), (.ref b2)])) _
      refine XS.bipush X2.here hx rfl (hb hby at_9) ?_
      exact k)
  obtain ⟨T5, h5, L5, X5, e5, N5, W5, V5a, st5⟩ := own_stC X2 hx hZ e2 V2 ⟨by decide, by decide⟩ 0 rfl (Nat.le_of_ble_eq_true rfl) N0 gb2 (g := (mkF m 11 #[.val (.int p0), .val (.int p1), .val (.int p2), .val (.int (p0.toUInt32.toUInt16.toUInt32.toInt32)), .unset, .unset, .unset, .unset, .unset, .unset] [(.int (97 : Int32)), (.int (0 : Int32)), (.ref b2), (.ref b2)])) rfl rfl (hb hby at_11)
  rw [show nar .char (97 : Int32) = (97 : Int32) from by decide] at V5a
  have V5 : Arv Z h5 b2 k2 .char (8 : Int32) [(.int (97 : Int32)), (.int (0 : Int32)), (.int (0 : Int32)), (.int (0 : Int32)), (.int (0 : Int32)), (.int (0 : Int32)), (.int (0 : Int32)), (.int (0 : Int32))] (.int (0 : Int32)) := V5a
  have Z5 : n0 ≤ h5.size := Nat.le_trans Z2 (Keep.of_wr W5).1
  have c6 : ∀ t, Steps p.tables e below (T5.setTop (mkF m 12 #[.val (.int p0), .val (.int p1), .val (.int p2), .val (.int (p0.toUInt32.toUInt16.toUInt32.toInt32)), .unset, .unset, .unset, .unset, .unset, .unset] [(.ref b2)])) t → Steps p.tables e below (s₁.setTop (entryFrame m #[(.int p0), (.int p1), (.int p2)] maxLocals)) t := fun t k => c4 t (st5 t k)
  have c7 : ∀ t, Steps p.tables e below (T5.setTop (mkF m 16 #[.val (.int p0), .val (.int p1), .val (.int p2), .val (.int (p0.toUInt32.toUInt16.toUInt32.toInt32)), .unset, .unset, .unset, .unset, .unset, .unset] [(.int (122 : Int32)), (.int (1 : Int32)), (.ref b2), (.ref b2)])) t → Steps p.tables e below (s₁.setTop (entryFrame m #[(.int p0), (.int p1), (.int p2)] maxLocals)) t := fun t k => c6 t (by
      show Steps p.tables e below (T5.setTop (mkF m 12 #[.val (.int p0), .val (.int p1), .val (.int p2), .val (.int (p0.toUInt32.toUInt16.toUInt32.toInt32)), .unset, .unset, .unset, .unset, .unset, .unset] [(.ref b2)])) _
      refine XS.dup X5.here hx rfl (hb hby at_12) rfl rfl ?_
      show Steps p.tables e below (T5.setTop (mkF m 13 #[.val (.int p0), .val (.int p1), .val (.int p2), .val (.int (p0.toUInt32.toUInt16.toUInt32.toInt32)), .unset, .unset, .unset, .unset, .unset, .unset] [(.ref b2), (.ref b2)])) _
      refine XS.iconst X5.here hx rfl (hb hby at_13) ?_
      show Steps p.tables e below (T5.setTop (mkF m 14 #[.val (.int p0), .val (.int p1), .val (.int p2), .val (.int (p0.toUInt32.toUInt16.toUInt32.toInt32)), .unset, .unset, .unset, .unset, .unset, .unset] [(.int (1 : Int32)), (.ref b2), (.ref b2)])) _
      refine XS.bipush X5.here hx rfl (hb hby at_14) ?_
      exact k)
  obtain ⟨T8, h8, L8, X8, e8, N8, W8, V8a, st8⟩ := own_stC X5 hx hZ e5 V5 ⟨by decide, by decide⟩ 1 rfl (Nat.le_of_ble_eq_true rfl) N5 gb2 (g := (mkF m 16 #[.val (.int p0), .val (.int p1), .val (.int p2), .val (.int (p0.toUInt32.toUInt16.toUInt32.toInt32)), .unset, .unset, .unset, .unset, .unset, .unset] [(.int (122 : Int32)), (.int (1 : Int32)), (.ref b2), (.ref b2)])) rfl rfl (hb hby at_16)
  rw [show nar .char (122 : Int32) = (122 : Int32) from by decide] at V8a
  have V8 : Arv Z h8 b2 k2 .char (8 : Int32) [(.int (97 : Int32)), (.int (122 : Int32)), (.int (0 : Int32)), (.int (0 : Int32)), (.int (0 : Int32)), (.int (0 : Int32)), (.int (0 : Int32)), (.int (0 : Int32))] (.int (0 : Int32)) := V8a
  have Z8 : n0 ≤ h8.size := Nat.le_trans Z5 (Keep.of_wr W8).1
  have c9 : ∀ t, Steps p.tables e below (T8.setTop (mkF m 17 #[.val (.int p0), .val (.int p1), .val (.int p2), .val (.int (p0.toUInt32.toUInt16.toUInt32.toInt32)), .unset, .unset, .unset, .unset, .unset, .unset] [(.ref b2)])) t → Steps p.tables e below (s₁.setTop (entryFrame m #[(.int p0), (.int p1), (.int p2)] maxLocals)) t := fun t k => c7 t (st8 t k)
  have c10 : ∀ t, Steps p.tables e below (T8.setTop (mkF m 21 #[.val (.int p0), .val (.int p1), .val (.int p2), .val (.int (p0.toUInt32.toUInt16.toUInt32.toInt32)), .unset, .unset, .unset, .unset, .unset, .unset] [(.int (65 : Int32)), (.int (2 : Int32)), (.ref b2), (.ref b2)])) t → Steps p.tables e below (s₁.setTop (entryFrame m #[(.int p0), (.int p1), (.int p2)] maxLocals)) t := fun t k => c9 t (by
      show Steps p.tables e below (T8.setTop (mkF m 17 #[.val (.int p0), .val (.int p1), .val (.int p2), .val (.int (p0.toUInt32.toUInt16.toUInt32.toInt32)), .unset, .unset, .unset, .unset, .unset, .unset] [(.ref b2)])) _
      refine XS.dup X8.here hx rfl (hb hby at_17) rfl rfl ?_
      show Steps p.tables e below (T8.setTop (mkF m 18 #[.val (.int p0), .val (.int p1), .val (.int p2), .val (.int (p0.toUInt32.toUInt16.toUInt32.toInt32)), .unset, .unset, .unset, .unset, .unset, .unset] [(.ref b2), (.ref b2)])) _
      refine XS.iconst X8.here hx rfl (hb hby at_18) ?_
      show Steps p.tables e below (T8.setTop (mkF m 19 #[.val (.int p0), .val (.int p1), .val (.int p2), .val (.int (p0.toUInt32.toUInt16.toUInt32.toInt32)), .unset, .unset, .unset, .unset, .unset, .unset] [(.int (2 : Int32)), (.ref b2), (.ref b2)])) _
      refine XS.bipush X8.here hx rfl (hb hby at_19) ?_
      exact k)
  obtain ⟨T11, h11, L11, X11, e11, N11, W11, V11a, st11⟩ := own_stC X8 hx hZ e8 V8 ⟨by decide, by decide⟩ 2 rfl (Nat.le_of_ble_eq_true rfl) N8 gb2 (g := (mkF m 21 #[.val (.int p0), .val (.int p1), .val (.int p2), .val (.int (p0.toUInt32.toUInt16.toUInt32.toInt32)), .unset, .unset, .unset, .unset, .unset, .unset] [(.int (65 : Int32)), (.int (2 : Int32)), (.ref b2), (.ref b2)])) rfl rfl (hb hby at_21)
  rw [show nar .char (65 : Int32) = (65 : Int32) from by decide] at V11a
  have V11 : Arv Z h11 b2 k2 .char (8 : Int32) [(.int (97 : Int32)), (.int (122 : Int32)), (.int (65 : Int32)), (.int (0 : Int32)), (.int (0 : Int32)), (.int (0 : Int32)), (.int (0 : Int32)), (.int (0 : Int32))] (.int (0 : Int32)) := V11a
  have Z11 : n0 ≤ h11.size := Nat.le_trans Z8 (Keep.of_wr W11).1
  have c12 : ∀ t, Steps p.tables e below (T11.setTop (mkF m 22 #[.val (.int p0), .val (.int p1), .val (.int p2), .val (.int (p0.toUInt32.toUInt16.toUInt32.toInt32)), .unset, .unset, .unset, .unset, .unset, .unset] [(.ref b2)])) t → Steps p.tables e below (s₁.setTop (entryFrame m #[(.int p0), (.int p1), (.int p2)] maxLocals)) t := fun t k => c10 t (st11 t k)
  have c13 : ∀ t, Steps p.tables e below (T11.setTop (mkF m 26 #[.val (.int p0), .val (.int p1), .val (.int p2), .val (.int (p0.toUInt32.toUInt16.toUInt32.toInt32)), .unset, .unset, .unset, .unset, .unset, .unset] [(.int (90 : Int32)), (.int (3 : Int32)), (.ref b2), (.ref b2)])) t → Steps p.tables e below (s₁.setTop (entryFrame m #[(.int p0), (.int p1), (.int p2)] maxLocals)) t := fun t k => c12 t (by
      show Steps p.tables e below (T11.setTop (mkF m 22 #[.val (.int p0), .val (.int p1), .val (.int p2), .val (.int (p0.toUInt32.toUInt16.toUInt32.toInt32)), .unset, .unset, .unset, .unset, .unset, .unset] [(.ref b2)])) _
      refine XS.dup X11.here hx rfl (hb hby at_22) rfl rfl ?_
      show Steps p.tables e below (T11.setTop (mkF m 23 #[.val (.int p0), .val (.int p1), .val (.int p2), .val (.int (p0.toUInt32.toUInt16.toUInt32.toInt32)), .unset, .unset, .unset, .unset, .unset, .unset] [(.ref b2), (.ref b2)])) _
      refine XS.iconst X11.here hx rfl (hb hby at_23) ?_
      show Steps p.tables e below (T11.setTop (mkF m 24 #[.val (.int p0), .val (.int p1), .val (.int p2), .val (.int (p0.toUInt32.toUInt16.toUInt32.toInt32)), .unset, .unset, .unset, .unset, .unset, .unset] [(.int (3 : Int32)), (.ref b2), (.ref b2)])) _
      refine XS.bipush X11.here hx rfl (hb hby at_24) ?_
      exact k)
  obtain ⟨T14, h14, L14, X14, e14, N14, W14, V14a, st14⟩ := own_stC X11 hx hZ e11 V11 ⟨by decide, by decide⟩ 3 rfl (Nat.le_of_ble_eq_true rfl) N11 gb2 (g := (mkF m 26 #[.val (.int p0), .val (.int p1), .val (.int p2), .val (.int (p0.toUInt32.toUInt16.toUInt32.toInt32)), .unset, .unset, .unset, .unset, .unset, .unset] [(.int (90 : Int32)), (.int (3 : Int32)), (.ref b2), (.ref b2)])) rfl rfl (hb hby at_26)
  rw [show nar .char (90 : Int32) = (90 : Int32) from by decide] at V14a
  have V14 : Arv Z h14 b2 k2 .char (8 : Int32) [(.int (97 : Int32)), (.int (122 : Int32)), (.int (65 : Int32)), (.int (90 : Int32)), (.int (0 : Int32)), (.int (0 : Int32)), (.int (0 : Int32)), (.int (0 : Int32))] (.int (0 : Int32)) := V14a
  have Z14 : n0 ≤ h14.size := Nat.le_trans Z11 (Keep.of_wr W14).1
  have c15 : ∀ t, Steps p.tables e below (T14.setTop (mkF m 27 #[.val (.int p0), .val (.int p1), .val (.int p2), .val (.int (p0.toUInt32.toUInt16.toUInt32.toInt32)), .unset, .unset, .unset, .unset, .unset, .unset] [(.ref b2)])) t → Steps p.tables e below (s₁.setTop (entryFrame m #[(.int p0), (.int p1), (.int p2)] maxLocals)) t := fun t k => c13 t (st14 t k)
  have c16 : ∀ t, Steps p.tables e below (T14.setTop (mkF m 31 #[.val (.int p0), .val (.int p1), .val (.int p2), .val (.int (p0.toUInt32.toUInt16.toUInt32.toInt32)), .unset, .unset, .unset, .unset, .unset, .unset] [(.int (48 : Int32)), (.int (4 : Int32)), (.ref b2), (.ref b2)])) t → Steps p.tables e below (s₁.setTop (entryFrame m #[(.int p0), (.int p1), (.int p2)] maxLocals)) t := fun t k => c15 t (by
      show Steps p.tables e below (T14.setTop (mkF m 27 #[.val (.int p0), .val (.int p1), .val (.int p2), .val (.int (p0.toUInt32.toUInt16.toUInt32.toInt32)), .unset, .unset, .unset, .unset, .unset, .unset] [(.ref b2)])) _
      refine XS.dup X14.here hx rfl (hb hby at_27) rfl rfl ?_
      show Steps p.tables e below (T14.setTop (mkF m 28 #[.val (.int p0), .val (.int p1), .val (.int p2), .val (.int (p0.toUInt32.toUInt16.toUInt32.toInt32)), .unset, .unset, .unset, .unset, .unset, .unset] [(.ref b2), (.ref b2)])) _
      refine XS.iconst X14.here hx rfl (hb hby at_28) ?_
      show Steps p.tables e below (T14.setTop (mkF m 29 #[.val (.int p0), .val (.int p1), .val (.int p2), .val (.int (p0.toUInt32.toUInt16.toUInt32.toInt32)), .unset, .unset, .unset, .unset, .unset, .unset] [(.int (4 : Int32)), (.ref b2), (.ref b2)])) _
      refine XS.bipush X14.here hx rfl (hb hby at_29) ?_
      exact k)
  obtain ⟨T17, h17, L17, X17, e17, N17, W17, V17a, st17⟩ := own_stC X14 hx hZ e14 V14 ⟨by decide, by decide⟩ 4 rfl (Nat.le_of_ble_eq_true rfl) N14 gb2 (g := (mkF m 31 #[.val (.int p0), .val (.int p1), .val (.int p2), .val (.int (p0.toUInt32.toUInt16.toUInt32.toInt32)), .unset, .unset, .unset, .unset, .unset, .unset] [(.int (48 : Int32)), (.int (4 : Int32)), (.ref b2), (.ref b2)])) rfl rfl (hb hby at_31)
  rw [show nar .char (48 : Int32) = (48 : Int32) from by decide] at V17a
  have V17 : Arv Z h17 b2 k2 .char (8 : Int32) [(.int (97 : Int32)), (.int (122 : Int32)), (.int (65 : Int32)), (.int (90 : Int32)), (.int (48 : Int32)), (.int (0 : Int32)), (.int (0 : Int32)), (.int (0 : Int32))] (.int (0 : Int32)) := V17a
  have Z17 : n0 ≤ h17.size := Nat.le_trans Z14 (Keep.of_wr W17).1
  have c18 : ∀ t, Steps p.tables e below (T17.setTop (mkF m 32 #[.val (.int p0), .val (.int p1), .val (.int p2), .val (.int (p0.toUInt32.toUInt16.toUInt32.toInt32)), .unset, .unset, .unset, .unset, .unset, .unset] [(.ref b2)])) t → Steps p.tables e below (s₁.setTop (entryFrame m #[(.int p0), (.int p1), (.int p2)] maxLocals)) t := fun t k => c16 t (st17 t k)
  have c19 : ∀ t, Steps p.tables e below (T17.setTop (mkF m 36 #[.val (.int p0), .val (.int p1), .val (.int p2), .val (.int (p0.toUInt32.toUInt16.toUInt32.toInt32)), .unset, .unset, .unset, .unset, .unset, .unset] [(.int (57 : Int32)), (.int (5 : Int32)), (.ref b2), (.ref b2)])) t → Steps p.tables e below (s₁.setTop (entryFrame m #[(.int p0), (.int p1), (.int p2)] maxLocals)) t := fun t k => c18 t (by
      show Steps p.tables e below (T17.setTop (mkF m 32 #[.val (.int p0), .val (.int p1), .val (.int p2), .val (.int (p0.toUInt32.toUInt16.toUInt32.toInt32)), .unset, .unset, .unset, .unset, .unset, .unset] [(.ref b2)])) _
      refine XS.dup X17.here hx rfl (hb hby at_32) rfl rfl ?_
      show Steps p.tables e below (T17.setTop (mkF m 33 #[.val (.int p0), .val (.int p1), .val (.int p2), .val (.int (p0.toUInt32.toUInt16.toUInt32.toInt32)), .unset, .unset, .unset, .unset, .unset, .unset] [(.ref b2), (.ref b2)])) _
      refine XS.iconst X17.here hx rfl (hb hby at_33) ?_
      show Steps p.tables e below (T17.setTop (mkF m 34 #[.val (.int p0), .val (.int p1), .val (.int p2), .val (.int (p0.toUInt32.toUInt16.toUInt32.toInt32)), .unset, .unset, .unset, .unset, .unset, .unset] [(.int (5 : Int32)), (.ref b2), (.ref b2)])) _
      refine XS.bipush X17.here hx rfl (hb hby at_34) ?_
      exact k)
  obtain ⟨T20, h20, L20, X20, e20, N20, W20, V20a, st20⟩ := own_stC X17 hx hZ e17 V17 ⟨by decide, by decide⟩ 5 rfl (Nat.le_of_ble_eq_true rfl) N17 gb2 (g := (mkF m 36 #[.val (.int p0), .val (.int p1), .val (.int p2), .val (.int (p0.toUInt32.toUInt16.toUInt32.toInt32)), .unset, .unset, .unset, .unset, .unset, .unset] [(.int (57 : Int32)), (.int (5 : Int32)), (.ref b2), (.ref b2)])) rfl rfl (hb hby at_36)
  rw [show nar .char (57 : Int32) = (57 : Int32) from by decide] at V20a
  have V20 : Arv Z h20 b2 k2 .char (8 : Int32) [(.int (97 : Int32)), (.int (122 : Int32)), (.int (65 : Int32)), (.int (90 : Int32)), (.int (48 : Int32)), (.int (57 : Int32)), (.int (0 : Int32)), (.int (0 : Int32))] (.int (0 : Int32)) := V20a
  have Z20 : n0 ≤ h20.size := Nat.le_trans Z17 (Keep.of_wr W20).1
  have c21 : ∀ t, Steps p.tables e below (T20.setTop (mkF m 37 #[.val (.int p0), .val (.int p1), .val (.int p2), .val (.int (p0.toUInt32.toUInt16.toUInt32.toInt32)), .unset, .unset, .unset, .unset, .unset, .unset] [(.ref b2)])) t → Steps p.tables e below (s₁.setTop (entryFrame m #[(.int p0), (.int p1), (.int p2)] maxLocals)) t := fun t k => c19 t (st20 t k)
  have c22 : ∀ t, Steps p.tables e below (T20.setTop (mkF m 42 #[.val (.int p0), .val (.int p1), .val (.int p2), .val (.int (p0.toUInt32.toUInt16.toUInt32.toInt32)), .unset, .unset, .unset, .unset, .unset, .unset] [(.int (45 : Int32)), (.int (6 : Int32)), (.ref b2), (.ref b2)])) t → Steps p.tables e below (s₁.setTop (entryFrame m #[(.int p0), (.int p1), (.int p2)] maxLocals)) t := fun t k => c21 t (by
      show Steps p.tables e below (T20.setTop (mkF m 37 #[.val (.int p0), .val (.int p1), .val (.int p2), .val (.int (p0.toUInt32.toUInt16.toUInt32.toInt32)), .unset, .unset, .unset, .unset, .unset, .unset] [(.ref b2)])) _
      refine XS.dup X20.here hx rfl (hb hby at_37) rfl rfl ?_
      show Steps p.tables e below (T20.setTop (mkF m 38 #[.val (.int p0), .val (.int p1), .val (.int p2), .val (.int (p0.toUInt32.toUInt16.toUInt32.toInt32)), .unset, .unset, .unset, .unset, .unset, .unset] [(.ref b2), (.ref b2)])) _
      refine XS.bipush X20.here hx rfl (hb hby at_38) ?_
      show Steps p.tables e below (T20.setTop (mkF m 40 #[.val (.int p0), .val (.int p1), .val (.int p2), .val (.int (p0.toUInt32.toUInt16.toUInt32.toInt32)), .unset, .unset, .unset, .unset, .unset, .unset] [(.int (6 : Int32)), (.ref b2), (.ref b2)])) _
      refine XS.bipush X20.here hx rfl (hb hby at_40) ?_
      exact k)
  obtain ⟨T23, h23, L23, X23, e23, N23, W23, V23a, st23⟩ := own_stC X20 hx hZ e20 V20 ⟨by decide, by decide⟩ 6 rfl (Nat.le_of_ble_eq_true rfl) N20 gb2 (g := (mkF m 42 #[.val (.int p0), .val (.int p1), .val (.int p2), .val (.int (p0.toUInt32.toUInt16.toUInt32.toInt32)), .unset, .unset, .unset, .unset, .unset, .unset] [(.int (45 : Int32)), (.int (6 : Int32)), (.ref b2), (.ref b2)])) rfl rfl (hb hby at_42)
  rw [show nar .char (45 : Int32) = (45 : Int32) from by decide] at V23a
  have V23 : Arv Z h23 b2 k2 .char (8 : Int32) [(.int (97 : Int32)), (.int (122 : Int32)), (.int (65 : Int32)), (.int (90 : Int32)), (.int (48 : Int32)), (.int (57 : Int32)), (.int (45 : Int32)), (.int (0 : Int32))] (.int (0 : Int32)) := V23a
  have Z23 : n0 ≤ h23.size := Nat.le_trans Z20 (Keep.of_wr W23).1
  have c24 : ∀ t, Steps p.tables e below (T23.setTop (mkF m 43 #[.val (.int p0), .val (.int p1), .val (.int p2), .val (.int (p0.toUInt32.toUInt16.toUInt32.toInt32)), .unset, .unset, .unset, .unset, .unset, .unset] [(.ref b2)])) t → Steps p.tables e below (s₁.setTop (entryFrame m #[(.int p0), (.int p1), (.int p2)] maxLocals)) t := fun t k => c22 t (st23 t k)
  have c25 : ∀ t, Steps p.tables e below (T23.setTop (mkF m 48 #[.val (.int p0), .val (.int p1), .val (.int p2), .val (.int (p0.toUInt32.toUInt16.toUInt32.toInt32)), .unset, .unset, .unset, .unset, .unset, .unset] [(.int (95 : Int32)), (.int (7 : Int32)), (.ref b2), (.ref b2)])) t → Steps p.tables e below (s₁.setTop (entryFrame m #[(.int p0), (.int p1), (.int p2)] maxLocals)) t := fun t k => c24 t (by
      show Steps p.tables e below (T23.setTop (mkF m 43 #[.val (.int p0), .val (.int p1), .val (.int p2), .val (.int (p0.toUInt32.toUInt16.toUInt32.toInt32)), .unset, .unset, .unset, .unset, .unset, .unset] [(.ref b2)])) _
      refine XS.dup X23.here hx rfl (hb hby at_43) rfl rfl ?_
      show Steps p.tables e below (T23.setTop (mkF m 44 #[.val (.int p0), .val (.int p1), .val (.int p2), .val (.int (p0.toUInt32.toUInt16.toUInt32.toInt32)), .unset, .unset, .unset, .unset, .unset, .unset] [(.ref b2), (.ref b2)])) _
      refine XS.bipush X23.here hx rfl (hb hby at_44) ?_
      show Steps p.tables e below (T23.setTop (mkF m 46 #[.val (.int p0), .val (.int p1), .val (.int p2), .val (.int (p0.toUInt32.toUInt16.toUInt32.toInt32)), .unset, .unset, .unset, .unset, .unset, .unset] [(.int (7 : Int32)), (.ref b2), (.ref b2)])) _
      refine XS.bipush X23.here hx rfl (hb hby at_46) ?_
      exact k)
  obtain ⟨T26, h26, L26, X26, e26, N26, W26, V26a, st26⟩ := own_stC X23 hx hZ e23 V23 ⟨by decide, by decide⟩ 7 rfl (Nat.le_of_ble_eq_true rfl) N23 gb2 (g := (mkF m 48 #[.val (.int p0), .val (.int p1), .val (.int p2), .val (.int (p0.toUInt32.toUInt16.toUInt32.toInt32)), .unset, .unset, .unset, .unset, .unset, .unset] [(.int (95 : Int32)), (.int (7 : Int32)), (.ref b2), (.ref b2)])) rfl rfl (hb hby at_48)
  rw [show nar .char (95 : Int32) = (95 : Int32) from by decide] at V26a
  have V26 : Arv Z h26 b2 k2 .char (8 : Int32) [(.int (97 : Int32)), (.int (122 : Int32)), (.int (65 : Int32)), (.int (90 : Int32)), (.int (48 : Int32)), (.int (57 : Int32)), (.int (45 : Int32)), (.int (95 : Int32))] (.int (0 : Int32)) := V26a
  have Z26 : n0 ≤ h26.size := Nat.le_trans Z23 (Keep.of_wr W26).1
  have c27 : ∀ t, Steps p.tables e below (T26.setTop (mkF m 49 #[.val (.int p0), .val (.int p1), .val (.int p2), .val (.int (p0.toUInt32.toUInt16.toUInt32.toInt32)), .unset, .unset, .unset, .unset, .unset, .unset] [(.ref b2)])) t → Steps p.tables e below (s₁.setTop (entryFrame m #[(.int p0), (.int p1), (.int p2)] maxLocals)) t := fun t k => c25 t (st26 t k)
  have c28 : ∀ t, Steps p.tables e below (T26.setTop (mkF m 74 #[.val (.int p0), .val (.int p1), .val (.int p2), .val (.int (p0.toUInt32.toUInt16.toUInt32.toInt32)), .val (.ref b2), .val (.int ((p1 &&& (2147483647 : Int32)) % (8 : Int32))), .val (.int (((p2 &&& (2147483647 : Int32)) % (3 : Int32)) - (1 : Int32))), .unset, .unset, .unset] [(.int ((p1 &&& (2147483647 : Int32)) % (8 : Int32))), (.ref b2)])) t → Steps p.tables e below (s₁.setTop (entryFrame m #[(.int p0), (.int p1), (.int p2)] maxLocals)) t := fun t k => c27 t (by
      show Steps p.tables e below (T26.setTop (mkF m 49 #[.val (.int p0), .val (.int p1), .val (.int p2), .val (.int (p0.toUInt32.toUInt16.toUInt32.toInt32)), .unset, .unset, .unset, .unset, .unset, .unset] [(.ref b2)])) _
      refine XS.astore X26.here hx rfl (hb hby at_49) rfl rfl (l' := #[.val (.int p0), .val (.int p1), .val (.int p2), .val (.int (p0.toUInt32.toUInt16.toUInt32.toInt32)), .val (.ref b2), .unset, .unset, .unset, .unset, .unset]) rfl ?_
      show Steps p.tables e below (T26.setTop (mkF m 51 #[.val (.int p0), .val (.int p1), .val (.int p2), .val (.int (p0.toUInt32.toUInt16.toUInt32.toInt32)), .val (.ref b2), .unset, .unset, .unset, .unset, .unset] [])) _
      refine XS.iloadN X26.here hx rfl (hb hby at_51) rfl ?_
      show Steps p.tables e below (T26.setTop (mkF m 52 #[.val (.int p0), .val (.int p1), .val (.int p2), .val (.int (p0.toUInt32.toUInt16.toUInt32.toInt32)), .val (.ref b2), .unset, .unset, .unset, .unset, .unset] [(.int p1)])) _
      refine X26.ldcInt hx hown (mvT hZ (hw _ (List.mem_of_getElem? (i := 1) rfl))) (g := (mkF m 52 #[.val (.int p0), .val (.int p1), .val (.int p2), .val (.int (p0.toUInt32.toUInt16.toUInt32.toInt32)), .val (.ref b2), .unset, .unset, .unset, .unset, .unset] [(.int p1)])) rfl (hb hby at_52) _ ?_
      show Steps p.tables e below (T26.setTop (mkF m 54 #[.val (.int p0), .val (.int p1), .val (.int p2), .val (.int (p0.toUInt32.toUInt16.toUInt32.toInt32)), .val (.ref b2), .unset, .unset, .unset, .unset, .unset] [(.int (2147483647 : Int32)), (.int p1)])) _
      refine XS.iand X26.here hx rfl (hb hby at_54) rfl ?_
      show Steps p.tables e below (T26.setTop (mkF m 55 #[.val (.int p0), .val (.int p1), .val (.int p2), .val (.int (p0.toUInt32.toUInt16.toUInt32.toInt32)), .val (.ref b2), .unset, .unset, .unset, .unset, .unset] [(.int (p1 &&& (2147483647 : Int32)))])) _
      refine XS.bipush X26.here hx rfl (hb hby at_55) ?_
      show Steps p.tables e below (T26.setTop (mkF m 57 #[.val (.int p0), .val (.int p1), .val (.int p2), .val (.int (p0.toUInt32.toUInt16.toUInt32.toInt32)), .val (.ref b2), .unset, .unset, .unset, .unset, .unset] [(.int (8 : Int32)), (.int (p1 &&& (2147483647 : Int32)))])) _
      refine Jvm.RoadKit.iremM X26 hx rfl (hb hby at_57) rfl (by decide) ?_
      show Steps p.tables e below (T26.setTop (mkF m 58 #[.val (.int p0), .val (.int p1), .val (.int p2), .val (.int (p0.toUInt32.toUInt16.toUInt32.toInt32)), .val (.ref b2), .unset, .unset, .unset, .unset, .unset] [(.int ((p1 &&& (2147483647 : Int32)) % (8 : Int32)))])) _
      refine XS.istore X26.here hx rfl (hb hby at_58) rfl (l' := #[.val (.int p0), .val (.int p1), .val (.int p2), .val (.int (p0.toUInt32.toUInt16.toUInt32.toInt32)), .val (.ref b2), .val (.int ((p1 &&& (2147483647 : Int32)) % (8 : Int32))), .unset, .unset, .unset, .unset]) rfl ?_
      show Steps p.tables e below (T26.setTop (mkF m 60 #[.val (.int p0), .val (.int p1), .val (.int p2), .val (.int (p0.toUInt32.toUInt16.toUInt32.toInt32)), .val (.ref b2), .val (.int ((p1 &&& (2147483647 : Int32)) % (8 : Int32))), .unset, .unset, .unset, .unset] [])) _
      refine XS.iloadN X26.here hx rfl (hb hby at_60) rfl ?_
      show Steps p.tables e below (T26.setTop (mkF m 61 #[.val (.int p0), .val (.int p1), .val (.int p2), .val (.int (p0.toUInt32.toUInt16.toUInt32.toInt32)), .val (.ref b2), .val (.int ((p1 &&& (2147483647 : Int32)) % (8 : Int32))), .unset, .unset, .unset, .unset] [(.int p2)])) _
      refine X26.ldcInt hx hown (mvT hZ (hw _ (List.mem_of_getElem? (i := 1) rfl))) (g := (mkF m 61 #[.val (.int p0), .val (.int p1), .val (.int p2), .val (.int (p0.toUInt32.toUInt16.toUInt32.toInt32)), .val (.ref b2), .val (.int ((p1 &&& (2147483647 : Int32)) % (8 : Int32))), .unset, .unset, .unset, .unset] [(.int p2)])) rfl (hb hby at_61) _ ?_
      show Steps p.tables e below (T26.setTop (mkF m 63 #[.val (.int p0), .val (.int p1), .val (.int p2), .val (.int (p0.toUInt32.toUInt16.toUInt32.toInt32)), .val (.ref b2), .val (.int ((p1 &&& (2147483647 : Int32)) % (8 : Int32))), .unset, .unset, .unset, .unset] [(.int (2147483647 : Int32)), (.int p2)])) _
      refine XS.iand X26.here hx rfl (hb hby at_63) rfl ?_
      show Steps p.tables e below (T26.setTop (mkF m 64 #[.val (.int p0), .val (.int p1), .val (.int p2), .val (.int (p0.toUInt32.toUInt16.toUInt32.toInt32)), .val (.ref b2), .val (.int ((p1 &&& (2147483647 : Int32)) % (8 : Int32))), .unset, .unset, .unset, .unset] [(.int (p2 &&& (2147483647 : Int32)))])) _
      refine XS.iconst X26.here hx rfl (hb hby at_64) ?_
      show Steps p.tables e below (T26.setTop (mkF m 65 #[.val (.int p0), .val (.int p1), .val (.int p2), .val (.int (p0.toUInt32.toUInt16.toUInt32.toInt32)), .val (.ref b2), .val (.int ((p1 &&& (2147483647 : Int32)) % (8 : Int32))), .unset, .unset, .unset, .unset] [(.int (3 : Int32)), (.int (p2 &&& (2147483647 : Int32)))])) _
      refine Jvm.RoadKit.iremM X26 hx rfl (hb hby at_65) rfl (by decide) ?_
      show Steps p.tables e below (T26.setTop (mkF m 66 #[.val (.int p0), .val (.int p1), .val (.int p2), .val (.int (p0.toUInt32.toUInt16.toUInt32.toInt32)), .val (.ref b2), .val (.int ((p1 &&& (2147483647 : Int32)) % (8 : Int32))), .unset, .unset, .unset, .unset] [(.int ((p2 &&& (2147483647 : Int32)) % (3 : Int32)))])) _
      refine XS.iconst X26.here hx rfl (hb hby at_66) ?_
      show Steps p.tables e below (T26.setTop (mkF m 67 #[.val (.int p0), .val (.int p1), .val (.int p2), .val (.int (p0.toUInt32.toUInt16.toUInt32.toInt32)), .val (.ref b2), .val (.int ((p1 &&& (2147483647 : Int32)) % (8 : Int32))), .unset, .unset, .unset, .unset] [(.int (1 : Int32)), (.int ((p2 &&& (2147483647 : Int32)) % (3 : Int32)))])) _
      refine XS.isub X26.here hx rfl (hb hby at_67) rfl ?_
      show Steps p.tables e below (T26.setTop (mkF m 68 #[.val (.int p0), .val (.int p1), .val (.int p2), .val (.int (p0.toUInt32.toUInt16.toUInt32.toInt32)), .val (.ref b2), .val (.int ((p1 &&& (2147483647 : Int32)) % (8 : Int32))), .unset, .unset, .unset, .unset] [(.int (((p2 &&& (2147483647 : Int32)) % (3 : Int32)) - (1 : Int32)))])) _
      refine XS.istore X26.here hx rfl (hb hby at_68) rfl (l' := #[.val (.int p0), .val (.int p1), .val (.int p2), .val (.int (p0.toUInt32.toUInt16.toUInt32.toInt32)), .val (.ref b2), .val (.int ((p1 &&& (2147483647 : Int32)) % (8 : Int32))), .val (.int (((p2 &&& (2147483647 : Int32)) % (3 : Int32)) - (1 : Int32))), .unset, .unset, .unset]) rfl ?_
      show Steps p.tables e below (T26.setTop (mkF m 70 #[.val (.int p0), .val (.int p1), .val (.int p2), .val (.int (p0.toUInt32.toUInt16.toUInt32.toInt32)), .val (.ref b2), .val (.int ((p1 &&& (2147483647 : Int32)) % (8 : Int32))), .val (.int (((p2 &&& (2147483647 : Int32)) % (3 : Int32)) - (1 : Int32))), .unset, .unset, .unset] [])) _
      refine XS.aload X26.here hx rfl (hb hby at_70) rfl rfl ?_
      show Steps p.tables e below (T26.setTop (mkF m 72 #[.val (.int p0), .val (.int p1), .val (.int p2), .val (.int (p0.toUInt32.toUInt16.toUInt32.toInt32)), .val (.ref b2), .val (.int ((p1 &&& (2147483647 : Int32)) % (8 : Int32))), .val (.int (((p2 &&& (2147483647 : Int32)) % (3 : Int32)) - (1 : Int32))), .unset, .unset, .unset] [(.ref b2)])) _
      refine XS.iload X26.here hx rfl (hb hby at_72) rfl ?_
      exact k)
  have c29 : ∀ t, Steps p.tables e below (T26.setTop (mkF m 75 #[.val (.int p0), .val (.int p1), .val (.int p2), .val (.int (p0.toUInt32.toUInt16.toUInt32.toInt32)), .val (.ref b2), .val (.int ((p1 &&& (2147483647 : Int32)) % (8 : Int32))), .val (.int (((p2 &&& (2147483647 : Int32)) % (3 : Int32)) - (1 : Int32))), .unset, .unset, .unset] [(.int (own_i ([(.int (97 : Int32)), (.int (122 : Int32)), (.int (65 : Int32)), (.int (90 : Int32)), (.int (48 : Int32)), (.int (57 : Int32)), (.int (45 : Int32)), (.int (95 : Int32))] : List Value) ((p1 &&& (2147483647 : Int32)) % (8 : Int32))))])) t → Steps p.tables e below (s₁.setTop (entryFrame m #[(.int p0), (.int p1), (.int p2)] maxLocals)) t := fun t k => c28 t (own_caload X26 hx hZ e26 V26 (j := ((p1 &&& (2147483647 : Int32)) % (8 : Int32))) (own_in8 p1) (v := (.int (own_i ([(.int (97 : Int32)), (.int (122 : Int32)), (.int (65 : Int32)), (.int (90 : Int32)), (.int (48 : Int32)), (.int (57 : Int32)), (.int (45 : Int32)), (.int (95 : Int32))] : List Value) ((p1 &&& (2147483647 : Int32)) % (8 : Int32))))) (own_i_at (own_in8 p1)) (g := (mkF m 74 #[.val (.int p0), .val (.int p1), .val (.int p2), .val (.int (p0.toUInt32.toUInt16.toUInt32.toInt32)), .val (.ref b2), .val (.int ((p1 &&& (2147483647 : Int32)) % (8 : Int32))), .val (.int (((p2 &&& (2147483647 : Int32)) % (3 : Int32)) - (1 : Int32))), .unset, .unset, .unset] [(.int ((p1 &&& (2147483647 : Int32)) % (8 : Int32))), (.ref b2)])) rfl rfl (hb hby at_74) _ k)
  have c30 : ∀ t, Steps p.tables e below (T26.setTop (mkF m 82 #[.val (.int p0), .val (.int p1), .val (.int p2), .val (.int (p0.toUInt32.toUInt16.toUInt32.toInt32)), .val (.ref b2), .val (.int ((p1 &&& (2147483647 : Int32)) % (8 : Int32))), .val (.int (((p2 &&& (2147483647 : Int32)) % (3 : Int32)) - (1 : Int32))), .val (.int (((own_i ([(.int (97 : Int32)), (.int (122 : Int32)), (.int (65 : Int32)), (.int (90 : Int32)), (.int (48 : Int32)), (.int (57 : Int32)), (.int (45 : Int32)), (.int (95 : Int32))] : List Value) ((p1 &&& (2147483647 : Int32)) % (8 : Int32))) + (((p2 &&& (2147483647 : Int32)) % (3 : Int32)) - (1 : Int32))).toUInt32.toUInt16.toUInt32.toInt32)), .unset, .unset] [(.int (p0.toUInt32.toUInt16.toUInt32.toInt32))])) t → Steps p.tables e below (s₁.setTop (entryFrame m #[(.int p0), (.int p1), (.int p2)] maxLocals)) t := fun t k => c29 t (by
      show Steps p.tables e below (T26.setTop (mkF m 75 #[.val (.int p0), .val (.int p1), .val (.int p2), .val (.int (p0.toUInt32.toUInt16.toUInt32.toInt32)), .val (.ref b2), .val (.int ((p1 &&& (2147483647 : Int32)) % (8 : Int32))), .val (.int (((p2 &&& (2147483647 : Int32)) % (3 : Int32)) - (1 : Int32))), .unset, .unset, .unset] [(.int (own_i ([(.int (97 : Int32)), (.int (122 : Int32)), (.int (65 : Int32)), (.int (90 : Int32)), (.int (48 : Int32)), (.int (57 : Int32)), (.int (45 : Int32)), (.int (95 : Int32))] : List Value) ((p1 &&& (2147483647 : Int32)) % (8 : Int32))))])) _
      refine XS.iload X26.here hx rfl (hb hby at_75) rfl ?_
      show Steps p.tables e below (T26.setTop (mkF m 77 #[.val (.int p0), .val (.int p1), .val (.int p2), .val (.int (p0.toUInt32.toUInt16.toUInt32.toInt32)), .val (.ref b2), .val (.int ((p1 &&& (2147483647 : Int32)) % (8 : Int32))), .val (.int (((p2 &&& (2147483647 : Int32)) % (3 : Int32)) - (1 : Int32))), .unset, .unset, .unset] [(.int (((p2 &&& (2147483647 : Int32)) % (3 : Int32)) - (1 : Int32))), (.int (own_i ([(.int (97 : Int32)), (.int (122 : Int32)), (.int (65 : Int32)), (.int (90 : Int32)), (.int (48 : Int32)), (.int (57 : Int32)), (.int (45 : Int32)), (.int (95 : Int32))] : List Value) ((p1 &&& (2147483647 : Int32)) % (8 : Int32))))])) _
      refine XS.iadd X26.here hx rfl (hb hby at_77) rfl ?_
      show Steps p.tables e below (T26.setTop (mkF m 78 #[.val (.int p0), .val (.int p1), .val (.int p2), .val (.int (p0.toUInt32.toUInt16.toUInt32.toInt32)), .val (.ref b2), .val (.int ((p1 &&& (2147483647 : Int32)) % (8 : Int32))), .val (.int (((p2 &&& (2147483647 : Int32)) % (3 : Int32)) - (1 : Int32))), .unset, .unset, .unset] [(.int ((own_i ([(.int (97 : Int32)), (.int (122 : Int32)), (.int (65 : Int32)), (.int (90 : Int32)), (.int (48 : Int32)), (.int (57 : Int32)), (.int (45 : Int32)), (.int (95 : Int32))] : List Value) ((p1 &&& (2147483647 : Int32)) % (8 : Int32))) + (((p2 &&& (2147483647 : Int32)) % (3 : Int32)) - (1 : Int32))))])) _
      refine XS.i2c X26.here hx rfl (hb hby at_78) rfl ?_
      show Steps p.tables e below (T26.setTop (mkF m 79 #[.val (.int p0), .val (.int p1), .val (.int p2), .val (.int (p0.toUInt32.toUInt16.toUInt32.toInt32)), .val (.ref b2), .val (.int ((p1 &&& (2147483647 : Int32)) % (8 : Int32))), .val (.int (((p2 &&& (2147483647 : Int32)) % (3 : Int32)) - (1 : Int32))), .unset, .unset, .unset] [(.int (((own_i ([(.int (97 : Int32)), (.int (122 : Int32)), (.int (65 : Int32)), (.int (90 : Int32)), (.int (48 : Int32)), (.int (57 : Int32)), (.int (45 : Int32)), (.int (95 : Int32))] : List Value) ((p1 &&& (2147483647 : Int32)) % (8 : Int32))) + (((p2 &&& (2147483647 : Int32)) % (3 : Int32)) - (1 : Int32))).toUInt32.toUInt16.toUInt32.toInt32))])) _
      refine XS.istore X26.here hx rfl (hb hby at_79) rfl (l' := #[.val (.int p0), .val (.int p1), .val (.int p2), .val (.int (p0.toUInt32.toUInt16.toUInt32.toInt32)), .val (.ref b2), .val (.int ((p1 &&& (2147483647 : Int32)) % (8 : Int32))), .val (.int (((p2 &&& (2147483647 : Int32)) % (3 : Int32)) - (1 : Int32))), .val (.int (((own_i ([(.int (97 : Int32)), (.int (122 : Int32)), (.int (65 : Int32)), (.int (90 : Int32)), (.int (48 : Int32)), (.int (57 : Int32)), (.int (45 : Int32)), (.int (95 : Int32))] : List Value) ((p1 &&& (2147483647 : Int32)) % (8 : Int32))) + (((p2 &&& (2147483647 : Int32)) % (3 : Int32)) - (1 : Int32))).toUInt32.toUInt16.toUInt32.toInt32)), .unset, .unset]) rfl ?_
      show Steps p.tables e below (T26.setTop (mkF m 81 #[.val (.int p0), .val (.int p1), .val (.int p2), .val (.int (p0.toUInt32.toUInt16.toUInt32.toInt32)), .val (.ref b2), .val (.int ((p1 &&& (2147483647 : Int32)) % (8 : Int32))), .val (.int (((p2 &&& (2147483647 : Int32)) % (3 : Int32)) - (1 : Int32))), .val (.int (((own_i ([(.int (97 : Int32)), (.int (122 : Int32)), (.int (65 : Int32)), (.int (90 : Int32)), (.int (48 : Int32)), (.int (57 : Int32)), (.int (45 : Int32)), (.int (95 : Int32))] : List Value) ((p1 &&& (2147483647 : Int32)) % (8 : Int32))) + (((p2 &&& (2147483647 : Int32)) % (3 : Int32)) - (1 : Int32))).toUInt32.toUInt16.toUInt32.toInt32)), .unset, .unset] [])) _
      refine XS.iloadN X26.here hx rfl (hb hby at_81) rfl ?_
      exact k)
  obtain ⟨_, _, ⟨T31, L31, k31, n31⟩, -, X31, ⟨Lc31, hQ31, l31, y31, z31⟩, st31⟩ := Jvm.LawKit.callS X26 hx (y := (⟨"com/example/callbook/callbook/engine/Names", "isNameCharacter", "(C)Z"⟩ : MethodName)) hown (mvT hZ (hw _ (List.mem_of_getElem? (i := 2) rfl))) (mvT hZ (hw _ (List.mem_of_getElem? (i := 3) rfl))) (mvT hZ (hw _ (List.mem_of_getElem? (i := 4) rfl))) (mvT hZ (hw _ (List.mem_of_getElem? (i := 5) rfl))) (by decide) (backOf (W := 0) (rm1 l Z a0 hw [] (p0.toUInt32.toUInt16.toUInt32.toInt32) h26 n0 Z26) hZ (hw _ (List.mem_of_getElem? (i := 5) rfl)) (hw _ (List.mem_of_getElem? (i := 4) rfl)) (by decide) (by decide)) (g := (mkF m 82 #[.val (.int p0), .val (.int p1), .val (.int p2), .val (.int (p0.toUInt32.toUInt16.toUInt32.toInt32)), .val (.ref b2), .val (.int ((p1 &&& (2147483647 : Int32)) % (8 : Int32))), .val (.int (((p2 &&& (2147483647 : Int32)) % (3 : Int32)) - (1 : Int32))), .val (.int (((own_i ([(.int (97 : Int32)), (.int (122 : Int32)), (.int (65 : Int32)), (.int (90 : Int32)), (.int (48 : Int32)), (.int (57 : Int32)), (.int (45 : Int32)), (.int (95 : Int32))] : List Value) ((p1 &&& (2147483647 : Int32)) % (8 : Int32))) + (((p2 &&& (2147483647 : Int32)) % (3 : Int32)) - (1 : Int32))).toUInt32.toUInt16.toUInt32.toInt32)), .unset, .unset] [(.int (p0.toUInt32.toUInt16.toUInt32.toInt32))])) rfl (by rw [hml]; rfl) (argsL := [(.int (p0.toUInt32.toUInt16.toUInt32.toInt32))]) (rest := []) (lenOf pd_0 rfl) rfl (by show 2 * 0 + _ ≤ _; exact Nat.le_of_eq rfl) (hb hby at_82) (fun _ _ => ⟨rfl, e26, (by decide : 1 + 0 ≤ _), (by decide : 8 + 0 ≤ _)⟩)
  dsimp only [Pt.U, Pt.locs, Pt.cells, Pt.slots] at X31 l31 y31 z31 st31 hQ31
  subst l31 y31 z31
  obtain ⟨rfl, N31q, e31⟩ := hQ31
  have N31 := Fr.app N26 N31q
  have c32 : ∀ t, Steps p.tables e below (T31.setTop (mkF m 85 #[.val (.int p0), .val (.int p1), .val (.int p2), .val (.int (p0.toUInt32.toUInt16.toUInt32.toInt32)), .val (.ref b2), .val (.int ((p1 &&& (2147483647 : Int32)) % (8 : Int32))), .val (.int (((p2 &&& (2147483647 : Int32)) % (3 : Int32)) - (1 : Int32))), .val (.int (((own_i ([(.int (97 : Int32)), (.int (122 : Int32)), (.int (65 : Int32)), (.int (90 : Int32)), (.int (48 : Int32)), (.int (57 : Int32)), (.int (45 : Int32)), (.int (95 : Int32))] : List Value) ((p1 &&& (2147483647 : Int32)) % (8 : Int32))) + (((p2 &&& (2147483647 : Int32)) % (3 : Int32)) - (1 : Int32))).toUInt32.toUInt16.toUInt32.toInt32)), .unset, .unset] [(.int (f1_0_r (p0.toUInt32.toUInt16.toUInt32.toInt32)))])) t → Steps p.tables e below (s₁.setTop (entryFrame m #[(.int p0), (.int p1), (.int p2)] maxLocals)) t := fun t k => c30 t (st31 t k)
  have c33 : ∀ t, Steps p.tables e below (T31.setTop (mkF m 86 #[.val (.int p0), .val (.int p1), .val (.int p2), .val (.int (p0.toUInt32.toUInt16.toUInt32.toInt32)), .val (.ref b2), .val (.int ((p1 &&& (2147483647 : Int32)) % (8 : Int32))), .val (.int (((p2 &&& (2147483647 : Int32)) % (3 : Int32)) - (1 : Int32))), .val (.int (((own_i ([(.int (97 : Int32)), (.int (122 : Int32)), (.int (65 : Int32)), (.int (90 : Int32)), (.int (48 : Int32)), (.int (57 : Int32)), (.int (45 : Int32)), (.int (95 : Int32))] : List Value) ((p1 &&& (2147483647 : Int32)) % (8 : Int32))) + (((p2 &&& (2147483647 : Int32)) % (3 : Int32)) - (1 : Int32))).toUInt32.toUInt16.toUInt32.toInt32)), .unset, .unset] [(.int (p0.toUInt32.toUInt16.toUInt32.toInt32)), (.int (f1_0_r (p0.toUInt32.toUInt16.toUInt32.toInt32)))])) t → Steps p.tables e below (s₁.setTop (entryFrame m #[(.int p0), (.int p1), (.int p2)] maxLocals)) t := fun t k => c32 t (by
      show Steps p.tables e below (T31.setTop (mkF m 85 #[.val (.int p0), .val (.int p1), .val (.int p2), .val (.int (p0.toUInt32.toUInt16.toUInt32.toInt32)), .val (.ref b2), .val (.int ((p1 &&& (2147483647 : Int32)) % (8 : Int32))), .val (.int (((p2 &&& (2147483647 : Int32)) % (3 : Int32)) - (1 : Int32))), .val (.int (((own_i ([(.int (97 : Int32)), (.int (122 : Int32)), (.int (65 : Int32)), (.int (90 : Int32)), (.int (48 : Int32)), (.int (57 : Int32)), (.int (45 : Int32)), (.int (95 : Int32))] : List Value) ((p1 &&& (2147483647 : Int32)) % (8 : Int32))) + (((p2 &&& (2147483647 : Int32)) % (3 : Int32)) - (1 : Int32))).toUInt32.toUInt16.toUInt32.toInt32)), .unset, .unset] [(.int (f1_0_r (p0.toUInt32.toUInt16.toUInt32.toInt32)))])) _
      refine XS.iloadN X31.here hx rfl (hb hby at_85) rfl ?_
      exact k)
  obtain ⟨_, _, ⟨T34, L34, k34, n34⟩, -, X34, ⟨Lc34, hQ34, l34, y34, z34⟩, st34⟩ := Jvm.LawKit.callS X31 hx (y := (⟨"com/example/callbook/callbook/engine/NamesIsNameCharacterPinLaw", "ref", "(C)Z"⟩ : MethodName)) hown (mvT hZ (hw _ (List.mem_of_getElem? (i := 6) rfl))) (mvT hZ (hw _ (List.mem_of_getElem? (i := 7) rfl))) (mvT hZ (hw _ (List.mem_of_getElem? (i := 8) rfl))) (mvT hZ (hw _ (List.mem_of_getElem? (i := 9) rfl))) (by decide) (backOf (W := 1) (rm2 l Z a0 hw [] (p0.toUInt32.toUInt16.toUInt32.toInt32) h26 n0 Z26) hZ (hw _ (List.mem_of_getElem? (i := 9) rfl)) (hw _ (List.mem_of_getElem? (i := 8) rfl)) (by decide) (by decide)) (g := (mkF m 86 #[.val (.int p0), .val (.int p1), .val (.int p2), .val (.int (p0.toUInt32.toUInt16.toUInt32.toInt32)), .val (.ref b2), .val (.int ((p1 &&& (2147483647 : Int32)) % (8 : Int32))), .val (.int (((p2 &&& (2147483647 : Int32)) % (3 : Int32)) - (1 : Int32))), .val (.int (((own_i ([(.int (97 : Int32)), (.int (122 : Int32)), (.int (65 : Int32)), (.int (90 : Int32)), (.int (48 : Int32)), (.int (57 : Int32)), (.int (45 : Int32)), (.int (95 : Int32))] : List Value) ((p1 &&& (2147483647 : Int32)) % (8 : Int32))) + (((p2 &&& (2147483647 : Int32)) % (3 : Int32)) - (1 : Int32))).toUInt32.toUInt16.toUInt32.toInt32)), .unset, .unset] [(.int (p0.toUInt32.toUInt16.toUInt32.toInt32)), (.int (f1_0_r (p0.toUInt32.toUInt16.toUInt32.toInt32)))])) rfl (by rw [hml]; rfl) (argsL := [(.int (p0.toUInt32.toUInt16.toUInt32.toInt32))]) (rest := [(.int (f1_0_r (p0.toUInt32.toUInt16.toUInt32.toInt32)))]) (lenOf pd_0 rfl) rfl (by show 2 * 0 + _ ≤ _; exact Nat.le_of_eq rfl) (hb hby at_86) (fun _ _ => ⟨rfl, e31, (by decide : 1 + 0 ≤ _), (by decide : 8 + 0 ≤ _)⟩)
  dsimp only [Pt.U, Pt.locs, Pt.cells, Pt.slots] at X34 l34 y34 z34 st34 hQ34
  subst l34 y34 z34
  obtain ⟨rfl, N34q, e34⟩ := hQ34
  have N34 := Fr.app N31 N34q
  have c35 : ∀ t, Steps p.tables e below (T34.setTop (mkF m 89 #[.val (.int p0), .val (.int p1), .val (.int p2), .val (.int (p0.toUInt32.toUInt16.toUInt32.toInt32)), .val (.ref b2), .val (.int ((p1 &&& (2147483647 : Int32)) % (8 : Int32))), .val (.int (((p2 &&& (2147483647 : Int32)) % (3 : Int32)) - (1 : Int32))), .val (.int (((own_i ([(.int (97 : Int32)), (.int (122 : Int32)), (.int (65 : Int32)), (.int (90 : Int32)), (.int (48 : Int32)), (.int (57 : Int32)), (.int (45 : Int32)), (.int (95 : Int32))] : List Value) ((p1 &&& (2147483647 : Int32)) % (8 : Int32))) + (((p2 &&& (2147483647 : Int32)) % (3 : Int32)) - (1 : Int32))).toUInt32.toUInt16.toUInt32.toInt32)), .unset, .unset] [(.int (f2_0_r (p0.toUInt32.toUInt16.toUInt32.toInt32))), (.int (f1_0_r (p0.toUInt32.toUInt16.toUInt32.toInt32)))])) t → Steps p.tables e below (s₁.setTop (entryFrame m #[(.int p0), (.int p1), (.int p2)] maxLocals)) t := fun t k => c33 t (st34 t k)
  have c36 : ∀ t, Steps p.tables e below (T34.setTop (mkF m 101 #[.val (.int p0), .val (.int p1), .val (.int p2), .val (.int (p0.toUInt32.toUInt16.toUInt32.toInt32)), .val (.ref b2), .val (.int ((p1 &&& (2147483647 : Int32)) % (8 : Int32))), .val (.int (((p2 &&& (2147483647 : Int32)) % (3 : Int32)) - (1 : Int32))), .val (.int (((own_i ([(.int (97 : Int32)), (.int (122 : Int32)), (.int (65 : Int32)), (.int (90 : Int32)), (.int (48 : Int32)), (.int (57 : Int32)), (.int (45 : Int32)), (.int (95 : Int32))] : List Value) ((p1 &&& (2147483647 : Int32)) % (8 : Int32))) + (((p2 &&& (2147483647 : Int32)) % (3 : Int32)) - (1 : Int32))).toUInt32.toUInt16.toUInt32.toInt32)), .val (.int (1 : Int32)), .unset] [(.int (((own_i ([(.int (97 : Int32)), (.int (122 : Int32)), (.int (65 : Int32)), (.int (90 : Int32)), (.int (48 : Int32)), (.int (57 : Int32)), (.int (45 : Int32)), (.int (95 : Int32))] : List Value) ((p1 &&& (2147483647 : Int32)) % (8 : Int32))) + (((p2 &&& (2147483647 : Int32)) % (3 : Int32)) - (1 : Int32))).toUInt32.toUInt16.toUInt32.toInt32))])) t → Steps p.tables e below (s₁.setTop (entryFrame m #[(.int p0), (.int p1), (.int p2)] maxLocals)) t := fun t k => c35 t (by
      show Steps p.tables e below (T34.setTop (mkF m 89 #[.val (.int p0), .val (.int p1), .val (.int p2), .val (.int (p0.toUInt32.toUInt16.toUInt32.toInt32)), .val (.ref b2), .val (.int ((p1 &&& (2147483647 : Int32)) % (8 : Int32))), .val (.int (((p2 &&& (2147483647 : Int32)) % (3 : Int32)) - (1 : Int32))), .val (.int (((own_i ([(.int (97 : Int32)), (.int (122 : Int32)), (.int (65 : Int32)), (.int (90 : Int32)), (.int (48 : Int32)), (.int (57 : Int32)), (.int (45 : Int32)), (.int (95 : Int32))] : List Value) ((p1 &&& (2147483647 : Int32)) % (8 : Int32))) + (((p2 &&& (2147483647 : Int32)) % (3 : Int32)) - (1 : Int32))).toUInt32.toUInt16.toUInt32.toInt32)), .unset, .unset] [(.int (f2_0_r (p0.toUInt32.toUInt16.toUInt32.toInt32))), (.int (f1_0_r (p0.toUInt32.toUInt16.toUInt32.toInt32)))])) _
      refine XS.icmpNo X34.here hx rfl (hb hby at_89) rfl (teq (own_law _)).2 ?_
      show Steps p.tables e below (T34.setTop (mkF m 92 #[.val (.int p0), .val (.int p1), .val (.int p2), .val (.int (p0.toUInt32.toUInt16.toUInt32.toInt32)), .val (.ref b2), .val (.int ((p1 &&& (2147483647 : Int32)) % (8 : Int32))), .val (.int (((p2 &&& (2147483647 : Int32)) % (3 : Int32)) - (1 : Int32))), .val (.int (((own_i ([(.int (97 : Int32)), (.int (122 : Int32)), (.int (65 : Int32)), (.int (90 : Int32)), (.int (48 : Int32)), (.int (57 : Int32)), (.int (45 : Int32)), (.int (95 : Int32))] : List Value) ((p1 &&& (2147483647 : Int32)) % (8 : Int32))) + (((p2 &&& (2147483647 : Int32)) % (3 : Int32)) - (1 : Int32))).toUInt32.toUInt16.toUInt32.toInt32)), .unset, .unset] [])) _
      refine XS.iconst X34.here hx rfl (hb hby at_92) ?_
      show Steps p.tables e below (T34.setTop (mkF m 93 #[.val (.int p0), .val (.int p1), .val (.int p2), .val (.int (p0.toUInt32.toUInt16.toUInt32.toInt32)), .val (.ref b2), .val (.int ((p1 &&& (2147483647 : Int32)) % (8 : Int32))), .val (.int (((p2 &&& (2147483647 : Int32)) % (3 : Int32)) - (1 : Int32))), .val (.int (((own_i ([(.int (97 : Int32)), (.int (122 : Int32)), (.int (65 : Int32)), (.int (90 : Int32)), (.int (48 : Int32)), (.int (57 : Int32)), (.int (45 : Int32)), (.int (95 : Int32))] : List Value) ((p1 &&& (2147483647 : Int32)) % (8 : Int32))) + (((p2 &&& (2147483647 : Int32)) % (3 : Int32)) - (1 : Int32))).toUInt32.toUInt16.toUInt32.toInt32)), .unset, .unset] [(.int (1 : Int32))])) _
      refine XS.goto X34.here hx rfl (pc0 := 93) (pc' := 97) rfl (hb hby at_93) (by decide) (by decide) ?_
      show Steps p.tables e below (T34.setTop (mkF m 97 #[.val (.int p0), .val (.int p1), .val (.int p2), .val (.int (p0.toUInt32.toUInt16.toUInt32.toInt32)), .val (.ref b2), .val (.int ((p1 &&& (2147483647 : Int32)) % (8 : Int32))), .val (.int (((p2 &&& (2147483647 : Int32)) % (3 : Int32)) - (1 : Int32))), .val (.int (((own_i ([(.int (97 : Int32)), (.int (122 : Int32)), (.int (65 : Int32)), (.int (90 : Int32)), (.int (48 : Int32)), (.int (57 : Int32)), (.int (45 : Int32)), (.int (95 : Int32))] : List Value) ((p1 &&& (2147483647 : Int32)) % (8 : Int32))) + (((p2 &&& (2147483647 : Int32)) % (3 : Int32)) - (1 : Int32))).toUInt32.toUInt16.toUInt32.toInt32)), .unset, .unset] [(.int (1 : Int32))])) _
      refine XS.istore X34.here hx rfl (hb hby at_97) rfl (l' := #[.val (.int p0), .val (.int p1), .val (.int p2), .val (.int (p0.toUInt32.toUInt16.toUInt32.toInt32)), .val (.ref b2), .val (.int ((p1 &&& (2147483647 : Int32)) % (8 : Int32))), .val (.int (((p2 &&& (2147483647 : Int32)) % (3 : Int32)) - (1 : Int32))), .val (.int (((own_i ([(.int (97 : Int32)), (.int (122 : Int32)), (.int (65 : Int32)), (.int (90 : Int32)), (.int (48 : Int32)), (.int (57 : Int32)), (.int (45 : Int32)), (.int (95 : Int32))] : List Value) ((p1 &&& (2147483647 : Int32)) % (8 : Int32))) + (((p2 &&& (2147483647 : Int32)) % (3 : Int32)) - (1 : Int32))).toUInt32.toUInt16.toUInt32.toInt32)), .val (.int (1 : Int32)), .unset]) rfl ?_
      show Steps p.tables e below (T34.setTop (mkF m 99 #[.val (.int p0), .val (.int p1), .val (.int p2), .val (.int (p0.toUInt32.toUInt16.toUInt32.toInt32)), .val (.ref b2), .val (.int ((p1 &&& (2147483647 : Int32)) % (8 : Int32))), .val (.int (((p2 &&& (2147483647 : Int32)) % (3 : Int32)) - (1 : Int32))), .val (.int (((own_i ([(.int (97 : Int32)), (.int (122 : Int32)), (.int (65 : Int32)), (.int (90 : Int32)), (.int (48 : Int32)), (.int (57 : Int32)), (.int (45 : Int32)), (.int (95 : Int32))] : List Value) ((p1 &&& (2147483647 : Int32)) % (8 : Int32))) + (((p2 &&& (2147483647 : Int32)) % (3 : Int32)) - (1 : Int32))).toUInt32.toUInt16.toUInt32.toInt32)), .val (.int (1 : Int32)), .unset] [])) _
      refine XS.iload X34.here hx rfl (hb hby at_99) rfl ?_
      exact k)
  obtain ⟨_, _, ⟨T37, L37, k37, n37⟩, -, X37, ⟨Lc37, hQ37, l37, y37, z37⟩, st37⟩ := Jvm.LawKit.callS X34 hx (y := (⟨"com/example/callbook/callbook/engine/Names", "isNameCharacter", "(C)Z"⟩ : MethodName)) hown (mvT hZ (hw _ (List.mem_of_getElem? (i := 2) rfl))) (mvT hZ (hw _ (List.mem_of_getElem? (i := 3) rfl))) (mvT hZ (hw _ (List.mem_of_getElem? (i := 4) rfl))) (mvT hZ (hw _ (List.mem_of_getElem? (i := 5) rfl))) (by decide) (backOf (W := 0) (rm1 l Z a0 hw [] (((own_i ([(.int (97 : Int32)), (.int (122 : Int32)), (.int (65 : Int32)), (.int (90 : Int32)), (.int (48 : Int32)), (.int (57 : Int32)), (.int (45 : Int32)), (.int (95 : Int32))] : List Value) ((p1 &&& (2147483647 : Int32)) % (8 : Int32))) + (((p2 &&& (2147483647 : Int32)) % (3 : Int32)) - (1 : Int32))).toUInt32.toUInt16.toUInt32.toInt32) h26 n0 Z26) hZ (hw _ (List.mem_of_getElem? (i := 5) rfl)) (hw _ (List.mem_of_getElem? (i := 4) rfl)) (by decide) (by decide)) (g := (mkF m 101 #[.val (.int p0), .val (.int p1), .val (.int p2), .val (.int (p0.toUInt32.toUInt16.toUInt32.toInt32)), .val (.ref b2), .val (.int ((p1 &&& (2147483647 : Int32)) % (8 : Int32))), .val (.int (((p2 &&& (2147483647 : Int32)) % (3 : Int32)) - (1 : Int32))), .val (.int (((own_i ([(.int (97 : Int32)), (.int (122 : Int32)), (.int (65 : Int32)), (.int (90 : Int32)), (.int (48 : Int32)), (.int (57 : Int32)), (.int (45 : Int32)), (.int (95 : Int32))] : List Value) ((p1 &&& (2147483647 : Int32)) % (8 : Int32))) + (((p2 &&& (2147483647 : Int32)) % (3 : Int32)) - (1 : Int32))).toUInt32.toUInt16.toUInt32.toInt32)), .val (.int (1 : Int32)), .unset] [(.int (((own_i ([(.int (97 : Int32)), (.int (122 : Int32)), (.int (65 : Int32)), (.int (90 : Int32)), (.int (48 : Int32)), (.int (57 : Int32)), (.int (45 : Int32)), (.int (95 : Int32))] : List Value) ((p1 &&& (2147483647 : Int32)) % (8 : Int32))) + (((p2 &&& (2147483647 : Int32)) % (3 : Int32)) - (1 : Int32))).toUInt32.toUInt16.toUInt32.toInt32))])) rfl (by rw [hml]; rfl) (argsL := [(.int (((own_i ([(.int (97 : Int32)), (.int (122 : Int32)), (.int (65 : Int32)), (.int (90 : Int32)), (.int (48 : Int32)), (.int (57 : Int32)), (.int (45 : Int32)), (.int (95 : Int32))] : List Value) ((p1 &&& (2147483647 : Int32)) % (8 : Int32))) + (((p2 &&& (2147483647 : Int32)) % (3 : Int32)) - (1 : Int32))).toUInt32.toUInt16.toUInt32.toInt32))]) (rest := []) (lenOf pd_0 rfl) rfl (by show 2 * 0 + _ ≤ _; exact Nat.le_of_eq rfl) (hb hby at_101) (fun _ _ => ⟨rfl, e34, (by decide : 1 + 0 ≤ _), (by decide : 8 + 0 ≤ _)⟩)
  dsimp only [Pt.U, Pt.locs, Pt.cells, Pt.slots] at X37 l37 y37 z37 st37 hQ37
  subst l37 y37 z37
  obtain ⟨rfl, N37q, e37⟩ := hQ37
  have N37 := Fr.app N34 N37q
  have c38 : ∀ t, Steps p.tables e below (T37.setTop (mkF m 104 #[.val (.int p0), .val (.int p1), .val (.int p2), .val (.int (p0.toUInt32.toUInt16.toUInt32.toInt32)), .val (.ref b2), .val (.int ((p1 &&& (2147483647 : Int32)) % (8 : Int32))), .val (.int (((p2 &&& (2147483647 : Int32)) % (3 : Int32)) - (1 : Int32))), .val (.int (((own_i ([(.int (97 : Int32)), (.int (122 : Int32)), (.int (65 : Int32)), (.int (90 : Int32)), (.int (48 : Int32)), (.int (57 : Int32)), (.int (45 : Int32)), (.int (95 : Int32))] : List Value) ((p1 &&& (2147483647 : Int32)) % (8 : Int32))) + (((p2 &&& (2147483647 : Int32)) % (3 : Int32)) - (1 : Int32))).toUInt32.toUInt16.toUInt32.toInt32)), .val (.int (1 : Int32)), .unset] [(.int (f1_0_r (((own_i ([(.int (97 : Int32)), (.int (122 : Int32)), (.int (65 : Int32)), (.int (90 : Int32)), (.int (48 : Int32)), (.int (57 : Int32)), (.int (45 : Int32)), (.int (95 : Int32))] : List Value) ((p1 &&& (2147483647 : Int32)) % (8 : Int32))) + (((p2 &&& (2147483647 : Int32)) % (3 : Int32)) - (1 : Int32))).toUInt32.toUInt16.toUInt32.toInt32)))])) t → Steps p.tables e below (s₁.setTop (entryFrame m #[(.int p0), (.int p1), (.int p2)] maxLocals)) t := fun t k => c36 t (st37 t k)
  have c39 : ∀ t, Steps p.tables e below (T37.setTop (mkF m 106 #[.val (.int p0), .val (.int p1), .val (.int p2), .val (.int (p0.toUInt32.toUInt16.toUInt32.toInt32)), .val (.ref b2), .val (.int ((p1 &&& (2147483647 : Int32)) % (8 : Int32))), .val (.int (((p2 &&& (2147483647 : Int32)) % (3 : Int32)) - (1 : Int32))), .val (.int (((own_i ([(.int (97 : Int32)), (.int (122 : Int32)), (.int (65 : Int32)), (.int (90 : Int32)), (.int (48 : Int32)), (.int (57 : Int32)), (.int (45 : Int32)), (.int (95 : Int32))] : List Value) ((p1 &&& (2147483647 : Int32)) % (8 : Int32))) + (((p2 &&& (2147483647 : Int32)) % (3 : Int32)) - (1 : Int32))).toUInt32.toUInt16.toUInt32.toInt32)), .val (.int (1 : Int32)), .unset] [(.int (((own_i ([(.int (97 : Int32)), (.int (122 : Int32)), (.int (65 : Int32)), (.int (90 : Int32)), (.int (48 : Int32)), (.int (57 : Int32)), (.int (45 : Int32)), (.int (95 : Int32))] : List Value) ((p1 &&& (2147483647 : Int32)) % (8 : Int32))) + (((p2 &&& (2147483647 : Int32)) % (3 : Int32)) - (1 : Int32))).toUInt32.toUInt16.toUInt32.toInt32)), (.int (f1_0_r (((own_i ([(.int (97 : Int32)), (.int (122 : Int32)), (.int (65 : Int32)), (.int (90 : Int32)), (.int (48 : Int32)), (.int (57 : Int32)), (.int (45 : Int32)), (.int (95 : Int32))] : List Value) ((p1 &&& (2147483647 : Int32)) % (8 : Int32))) + (((p2 &&& (2147483647 : Int32)) % (3 : Int32)) - (1 : Int32))).toUInt32.toUInt16.toUInt32.toInt32)))])) t → Steps p.tables e below (s₁.setTop (entryFrame m #[(.int p0), (.int p1), (.int p2)] maxLocals)) t := fun t k => c38 t (by
      show Steps p.tables e below (T37.setTop (mkF m 104 #[.val (.int p0), .val (.int p1), .val (.int p2), .val (.int (p0.toUInt32.toUInt16.toUInt32.toInt32)), .val (.ref b2), .val (.int ((p1 &&& (2147483647 : Int32)) % (8 : Int32))), .val (.int (((p2 &&& (2147483647 : Int32)) % (3 : Int32)) - (1 : Int32))), .val (.int (((own_i ([(.int (97 : Int32)), (.int (122 : Int32)), (.int (65 : Int32)), (.int (90 : Int32)), (.int (48 : Int32)), (.int (57 : Int32)), (.int (45 : Int32)), (.int (95 : Int32))] : List Value) ((p1 &&& (2147483647 : Int32)) % (8 : Int32))) + (((p2 &&& (2147483647 : Int32)) % (3 : Int32)) - (1 : Int32))).toUInt32.toUInt16.toUInt32.toInt32)), .val (.int (1 : Int32)), .unset] [(.int (f1_0_r (((own_i ([(.int (97 : Int32)), (.int (122 : Int32)), (.int (65 : Int32)), (.int (90 : Int32)), (.int (48 : Int32)), (.int (57 : Int32)), (.int (45 : Int32)), (.int (95 : Int32))] : List Value) ((p1 &&& (2147483647 : Int32)) % (8 : Int32))) + (((p2 &&& (2147483647 : Int32)) % (3 : Int32)) - (1 : Int32))).toUInt32.toUInt16.toUInt32.toInt32)))])) _
      refine XS.iload X37.here hx rfl (hb hby at_104) rfl ?_
      exact k)
  obtain ⟨_, _, ⟨T40, L40, k40, n40⟩, -, X40, ⟨Lc40, hQ40, l40, y40, z40⟩, st40⟩ := Jvm.LawKit.callS X37 hx (y := (⟨"com/example/callbook/callbook/engine/NamesIsNameCharacterPinLaw", "ref", "(C)Z"⟩ : MethodName)) hown (mvT hZ (hw _ (List.mem_of_getElem? (i := 6) rfl))) (mvT hZ (hw _ (List.mem_of_getElem? (i := 7) rfl))) (mvT hZ (hw _ (List.mem_of_getElem? (i := 8) rfl))) (mvT hZ (hw _ (List.mem_of_getElem? (i := 9) rfl))) (by decide) (backOf (W := 1) (rm2 l Z a0 hw [] (((own_i ([(.int (97 : Int32)), (.int (122 : Int32)), (.int (65 : Int32)), (.int (90 : Int32)), (.int (48 : Int32)), (.int (57 : Int32)), (.int (45 : Int32)), (.int (95 : Int32))] : List Value) ((p1 &&& (2147483647 : Int32)) % (8 : Int32))) + (((p2 &&& (2147483647 : Int32)) % (3 : Int32)) - (1 : Int32))).toUInt32.toUInt16.toUInt32.toInt32) h26 n0 Z26) hZ (hw _ (List.mem_of_getElem? (i := 9) rfl)) (hw _ (List.mem_of_getElem? (i := 8) rfl)) (by decide) (by decide)) (g := (mkF m 106 #[.val (.int p0), .val (.int p1), .val (.int p2), .val (.int (p0.toUInt32.toUInt16.toUInt32.toInt32)), .val (.ref b2), .val (.int ((p1 &&& (2147483647 : Int32)) % (8 : Int32))), .val (.int (((p2 &&& (2147483647 : Int32)) % (3 : Int32)) - (1 : Int32))), .val (.int (((own_i ([(.int (97 : Int32)), (.int (122 : Int32)), (.int (65 : Int32)), (.int (90 : Int32)), (.int (48 : Int32)), (.int (57 : Int32)), (.int (45 : Int32)), (.int (95 : Int32))] : List Value) ((p1 &&& (2147483647 : Int32)) % (8 : Int32))) + (((p2 &&& (2147483647 : Int32)) % (3 : Int32)) - (1 : Int32))).toUInt32.toUInt16.toUInt32.toInt32)), .val (.int (1 : Int32)), .unset] [(.int (((own_i ([(.int (97 : Int32)), (.int (122 : Int32)), (.int (65 : Int32)), (.int (90 : Int32)), (.int (48 : Int32)), (.int (57 : Int32)), (.int (45 : Int32)), (.int (95 : Int32))] : List Value) ((p1 &&& (2147483647 : Int32)) % (8 : Int32))) + (((p2 &&& (2147483647 : Int32)) % (3 : Int32)) - (1 : Int32))).toUInt32.toUInt16.toUInt32.toInt32)), (.int (f1_0_r (((own_i ([(.int (97 : Int32)), (.int (122 : Int32)), (.int (65 : Int32)), (.int (90 : Int32)), (.int (48 : Int32)), (.int (57 : Int32)), (.int (45 : Int32)), (.int (95 : Int32))] : List Value) ((p1 &&& (2147483647 : Int32)) % (8 : Int32))) + (((p2 &&& (2147483647 : Int32)) % (3 : Int32)) - (1 : Int32))).toUInt32.toUInt16.toUInt32.toInt32)))])) rfl (by rw [hml]; rfl) (argsL := [(.int (((own_i ([(.int (97 : Int32)), (.int (122 : Int32)), (.int (65 : Int32)), (.int (90 : Int32)), (.int (48 : Int32)), (.int (57 : Int32)), (.int (45 : Int32)), (.int (95 : Int32))] : List Value) ((p1 &&& (2147483647 : Int32)) % (8 : Int32))) + (((p2 &&& (2147483647 : Int32)) % (3 : Int32)) - (1 : Int32))).toUInt32.toUInt16.toUInt32.toInt32))]) (rest := [(.int (f1_0_r (((own_i ([(.int (97 : Int32)), (.int (122 : Int32)), (.int (65 : Int32)), (.int (90 : Int32)), (.int (48 : Int32)), (.int (57 : Int32)), (.int (45 : Int32)), (.int (95 : Int32))] : List Value) ((p1 &&& (2147483647 : Int32)) % (8 : Int32))) + (((p2 &&& (2147483647 : Int32)) % (3 : Int32)) - (1 : Int32))).toUInt32.toUInt16.toUInt32.toInt32)))]) (lenOf pd_0 rfl) rfl (by show 2 * 0 + _ ≤ _; exact Nat.le_of_eq rfl) (hb hby at_106) (fun _ _ => ⟨rfl, e37, (by decide : 1 + 0 ≤ _), (by decide : 8 + 0 ≤ _)⟩)
  dsimp only [Pt.U, Pt.locs, Pt.cells, Pt.slots] at X40 l40 y40 z40 st40 hQ40
  subst l40 y40 z40
  obtain ⟨rfl, N40q, e40⟩ := hQ40
  have N40 := Fr.app N37 N40q
  have c41 : ∀ t, Steps p.tables e below (T40.setTop (mkF m 109 #[.val (.int p0), .val (.int p1), .val (.int p2), .val (.int (p0.toUInt32.toUInt16.toUInt32.toInt32)), .val (.ref b2), .val (.int ((p1 &&& (2147483647 : Int32)) % (8 : Int32))), .val (.int (((p2 &&& (2147483647 : Int32)) % (3 : Int32)) - (1 : Int32))), .val (.int (((own_i ([(.int (97 : Int32)), (.int (122 : Int32)), (.int (65 : Int32)), (.int (90 : Int32)), (.int (48 : Int32)), (.int (57 : Int32)), (.int (45 : Int32)), (.int (95 : Int32))] : List Value) ((p1 &&& (2147483647 : Int32)) % (8 : Int32))) + (((p2 &&& (2147483647 : Int32)) % (3 : Int32)) - (1 : Int32))).toUInt32.toUInt16.toUInt32.toInt32)), .val (.int (1 : Int32)), .unset] [(.int (f2_0_r (((own_i ([(.int (97 : Int32)), (.int (122 : Int32)), (.int (65 : Int32)), (.int (90 : Int32)), (.int (48 : Int32)), (.int (57 : Int32)), (.int (45 : Int32)), (.int (95 : Int32))] : List Value) ((p1 &&& (2147483647 : Int32)) % (8 : Int32))) + (((p2 &&& (2147483647 : Int32)) % (3 : Int32)) - (1 : Int32))).toUInt32.toUInt16.toUInt32.toInt32))), (.int (f1_0_r (((own_i ([(.int (97 : Int32)), (.int (122 : Int32)), (.int (65 : Int32)), (.int (90 : Int32)), (.int (48 : Int32)), (.int (57 : Int32)), (.int (45 : Int32)), (.int (95 : Int32))] : List Value) ((p1 &&& (2147483647 : Int32)) % (8 : Int32))) + (((p2 &&& (2147483647 : Int32)) % (3 : Int32)) - (1 : Int32))).toUInt32.toUInt16.toUInt32.toInt32)))])) t → Steps p.tables e below (s₁.setTop (entryFrame m #[(.int p0), (.int p1), (.int p2)] maxLocals)) t := fun t k => c39 t (st40 t k)
  have c42 : ∀ t, Steps p.tables e below (T40.setTop (mkF m 134 #[.val (.int p0), .val (.int p1), .val (.int p2), .val (.int (p0.toUInt32.toUInt16.toUInt32.toInt32)), .val (.ref b2), .val (.int ((p1 &&& (2147483647 : Int32)) % (8 : Int32))), .val (.int (((p2 &&& (2147483647 : Int32)) % (3 : Int32)) - (1 : Int32))), .val (.int (((own_i ([(.int (97 : Int32)), (.int (122 : Int32)), (.int (65 : Int32)), (.int (90 : Int32)), (.int (48 : Int32)), (.int (57 : Int32)), (.int (45 : Int32)), (.int (95 : Int32))] : List Value) ((p1 &&& (2147483647 : Int32)) % (8 : Int32))) + (((p2 &&& (2147483647 : Int32)) % (3 : Int32)) - (1 : Int32))).toUInt32.toUInt16.toUInt32.toInt32)), .val (.int (1 : Int32)), .val (.int (1 : Int32))] [(.int (1 : Int32))])) t → Steps p.tables e below (s₁.setTop (entryFrame m #[(.int p0), (.int p1), (.int p2)] maxLocals)) t := fun t k => c41 t (by
      show Steps p.tables e below (T40.setTop (mkF m 109 #[.val (.int p0), .val (.int p1), .val (.int p2), .val (.int (p0.toUInt32.toUInt16.toUInt32.toInt32)), .val (.ref b2), .val (.int ((p1 &&& (2147483647 : Int32)) % (8 : Int32))), .val (.int (((p2 &&& (2147483647 : Int32)) % (3 : Int32)) - (1 : Int32))), .val (.int (((own_i ([(.int (97 : Int32)), (.int (122 : Int32)), (.int (65 : Int32)), (.int (90 : Int32)), (.int (48 : Int32)), (.int (57 : Int32)), (.int (45 : Int32)), (.int (95 : Int32))] : List Value) ((p1 &&& (2147483647 : Int32)) % (8 : Int32))) + (((p2 &&& (2147483647 : Int32)) % (3 : Int32)) - (1 : Int32))).toUInt32.toUInt16.toUInt32.toInt32)), .val (.int (1 : Int32)), .unset] [(.int (f2_0_r (((own_i ([(.int (97 : Int32)), (.int (122 : Int32)), (.int (65 : Int32)), (.int (90 : Int32)), (.int (48 : Int32)), (.int (57 : Int32)), (.int (45 : Int32)), (.int (95 : Int32))] : List Value) ((p1 &&& (2147483647 : Int32)) % (8 : Int32))) + (((p2 &&& (2147483647 : Int32)) % (3 : Int32)) - (1 : Int32))).toUInt32.toUInt16.toUInt32.toInt32))), (.int (f1_0_r (((own_i ([(.int (97 : Int32)), (.int (122 : Int32)), (.int (65 : Int32)), (.int (90 : Int32)), (.int (48 : Int32)), (.int (57 : Int32)), (.int (45 : Int32)), (.int (95 : Int32))] : List Value) ((p1 &&& (2147483647 : Int32)) % (8 : Int32))) + (((p2 &&& (2147483647 : Int32)) % (3 : Int32)) - (1 : Int32))).toUInt32.toUInt16.toUInt32.toInt32)))])) _
      refine XS.icmpNo X40.here hx rfl (hb hby at_109) rfl (teq (own_law _)).2 ?_
      show Steps p.tables e below (T40.setTop (mkF m 112 #[.val (.int p0), .val (.int p1), .val (.int p2), .val (.int (p0.toUInt32.toUInt16.toUInt32.toInt32)), .val (.ref b2), .val (.int ((p1 &&& (2147483647 : Int32)) % (8 : Int32))), .val (.int (((p2 &&& (2147483647 : Int32)) % (3 : Int32)) - (1 : Int32))), .val (.int (((own_i ([(.int (97 : Int32)), (.int (122 : Int32)), (.int (65 : Int32)), (.int (90 : Int32)), (.int (48 : Int32)), (.int (57 : Int32)), (.int (45 : Int32)), (.int (95 : Int32))] : List Value) ((p1 &&& (2147483647 : Int32)) % (8 : Int32))) + (((p2 &&& (2147483647 : Int32)) % (3 : Int32)) - (1 : Int32))).toUInt32.toUInt16.toUInt32.toInt32)), .val (.int (1 : Int32)), .unset] [])) _
      refine XS.iconst X40.here hx rfl (hb hby at_112) ?_
      show Steps p.tables e below (T40.setTop (mkF m 113 #[.val (.int p0), .val (.int p1), .val (.int p2), .val (.int (p0.toUInt32.toUInt16.toUInt32.toInt32)), .val (.ref b2), .val (.int ((p1 &&& (2147483647 : Int32)) % (8 : Int32))), .val (.int (((p2 &&& (2147483647 : Int32)) % (3 : Int32)) - (1 : Int32))), .val (.int (((own_i ([(.int (97 : Int32)), (.int (122 : Int32)), (.int (65 : Int32)), (.int (90 : Int32)), (.int (48 : Int32)), (.int (57 : Int32)), (.int (45 : Int32)), (.int (95 : Int32))] : List Value) ((p1 &&& (2147483647 : Int32)) % (8 : Int32))) + (((p2 &&& (2147483647 : Int32)) % (3 : Int32)) - (1 : Int32))).toUInt32.toUInt16.toUInt32.toInt32)), .val (.int (1 : Int32)), .unset] [(.int (1 : Int32))])) _
      refine XS.goto X40.here hx rfl (pc0 := 113) (pc' := 117) rfl (hb hby at_113) (by decide) (by decide) ?_
      show Steps p.tables e below (T40.setTop (mkF m 117 #[.val (.int p0), .val (.int p1), .val (.int p2), .val (.int (p0.toUInt32.toUInt16.toUInt32.toInt32)), .val (.ref b2), .val (.int ((p1 &&& (2147483647 : Int32)) % (8 : Int32))), .val (.int (((p2 &&& (2147483647 : Int32)) % (3 : Int32)) - (1 : Int32))), .val (.int (((own_i ([(.int (97 : Int32)), (.int (122 : Int32)), (.int (65 : Int32)), (.int (90 : Int32)), (.int (48 : Int32)), (.int (57 : Int32)), (.int (45 : Int32)), (.int (95 : Int32))] : List Value) ((p1 &&& (2147483647 : Int32)) % (8 : Int32))) + (((p2 &&& (2147483647 : Int32)) % (3 : Int32)) - (1 : Int32))).toUInt32.toUInt16.toUInt32.toInt32)), .val (.int (1 : Int32)), .unset] [(.int (1 : Int32))])) _
      refine XS.istore X40.here hx rfl (hb hby at_117) rfl (l' := #[.val (.int p0), .val (.int p1), .val (.int p2), .val (.int (p0.toUInt32.toUInt16.toUInt32.toInt32)), .val (.ref b2), .val (.int ((p1 &&& (2147483647 : Int32)) % (8 : Int32))), .val (.int (((p2 &&& (2147483647 : Int32)) % (3 : Int32)) - (1 : Int32))), .val (.int (((own_i ([(.int (97 : Int32)), (.int (122 : Int32)), (.int (65 : Int32)), (.int (90 : Int32)), (.int (48 : Int32)), (.int (57 : Int32)), (.int (45 : Int32)), (.int (95 : Int32))] : List Value) ((p1 &&& (2147483647 : Int32)) % (8 : Int32))) + (((p2 &&& (2147483647 : Int32)) % (3 : Int32)) - (1 : Int32))).toUInt32.toUInt16.toUInt32.toInt32)), .val (.int (1 : Int32)), .val (.int (1 : Int32))]) rfl ?_
      show Steps p.tables e below (T40.setTop (mkF m 119 #[.val (.int p0), .val (.int p1), .val (.int p2), .val (.int (p0.toUInt32.toUInt16.toUInt32.toInt32)), .val (.ref b2), .val (.int ((p1 &&& (2147483647 : Int32)) % (8 : Int32))), .val (.int (((p2 &&& (2147483647 : Int32)) % (3 : Int32)) - (1 : Int32))), .val (.int (((own_i ([(.int (97 : Int32)), (.int (122 : Int32)), (.int (65 : Int32)), (.int (90 : Int32)), (.int (48 : Int32)), (.int (57 : Int32)), (.int (45 : Int32)), (.int (95 : Int32))] : List Value) ((p1 &&& (2147483647 : Int32)) % (8 : Int32))) + (((p2 &&& (2147483647 : Int32)) % (3 : Int32)) - (1 : Int32))).toUInt32.toUInt16.toUInt32.toInt32)), .val (.int (1 : Int32)), .val (.int (1 : Int32))] [])) _
      refine XS.iload X40.here hx rfl (hb hby at_119) rfl ?_
      show Steps p.tables e below (T40.setTop (mkF m 121 #[.val (.int p0), .val (.int p1), .val (.int p2), .val (.int (p0.toUInt32.toUInt16.toUInt32.toInt32)), .val (.ref b2), .val (.int ((p1 &&& (2147483647 : Int32)) % (8 : Int32))), .val (.int (((p2 &&& (2147483647 : Int32)) % (3 : Int32)) - (1 : Int32))), .val (.int (((own_i ([(.int (97 : Int32)), (.int (122 : Int32)), (.int (65 : Int32)), (.int (90 : Int32)), (.int (48 : Int32)), (.int (57 : Int32)), (.int (45 : Int32)), (.int (95 : Int32))] : List Value) ((p1 &&& (2147483647 : Int32)) % (8 : Int32))) + (((p2 &&& (2147483647 : Int32)) % (3 : Int32)) - (1 : Int32))).toUInt32.toUInt16.toUInt32.toInt32)), .val (.int (1 : Int32)), .val (.int (1 : Int32))] [(.int (1 : Int32))])) _
      refine XS.ifNo X40.here hx rfl (hb hby at_121) rfl ((if0 _ _).trans (feq (by decide)).1) ?_
      show Steps p.tables e below (T40.setTop (mkF m 124 #[.val (.int p0), .val (.int p1), .val (.int p2), .val (.int (p0.toUInt32.toUInt16.toUInt32.toInt32)), .val (.ref b2), .val (.int ((p1 &&& (2147483647 : Int32)) % (8 : Int32))), .val (.int (((p2 &&& (2147483647 : Int32)) % (3 : Int32)) - (1 : Int32))), .val (.int (((own_i ([(.int (97 : Int32)), (.int (122 : Int32)), (.int (65 : Int32)), (.int (90 : Int32)), (.int (48 : Int32)), (.int (57 : Int32)), (.int (45 : Int32)), (.int (95 : Int32))] : List Value) ((p1 &&& (2147483647 : Int32)) % (8 : Int32))) + (((p2 &&& (2147483647 : Int32)) % (3 : Int32)) - (1 : Int32))).toUInt32.toUInt16.toUInt32.toInt32)), .val (.int (1 : Int32)), .val (.int (1 : Int32))] [])) _
      refine XS.iload X40.here hx rfl (hb hby at_124) rfl ?_
      show Steps p.tables e below (T40.setTop (mkF m 126 #[.val (.int p0), .val (.int p1), .val (.int p2), .val (.int (p0.toUInt32.toUInt16.toUInt32.toInt32)), .val (.ref b2), .val (.int ((p1 &&& (2147483647 : Int32)) % (8 : Int32))), .val (.int (((p2 &&& (2147483647 : Int32)) % (3 : Int32)) - (1 : Int32))), .val (.int (((own_i ([(.int (97 : Int32)), (.int (122 : Int32)), (.int (65 : Int32)), (.int (90 : Int32)), (.int (48 : Int32)), (.int (57 : Int32)), (.int (45 : Int32)), (.int (95 : Int32))] : List Value) ((p1 &&& (2147483647 : Int32)) % (8 : Int32))) + (((p2 &&& (2147483647 : Int32)) % (3 : Int32)) - (1 : Int32))).toUInt32.toUInt16.toUInt32.toInt32)), .val (.int (1 : Int32)), .val (.int (1 : Int32))] [(.int (1 : Int32))])) _
      refine XS.ifNo X40.here hx rfl (hb hby at_126) rfl ((if0 _ _).trans (feq (by decide)).1) ?_
      show Steps p.tables e below (T40.setTop (mkF m 129 #[.val (.int p0), .val (.int p1), .val (.int p2), .val (.int (p0.toUInt32.toUInt16.toUInt32.toInt32)), .val (.ref b2), .val (.int ((p1 &&& (2147483647 : Int32)) % (8 : Int32))), .val (.int (((p2 &&& (2147483647 : Int32)) % (3 : Int32)) - (1 : Int32))), .val (.int (((own_i ([(.int (97 : Int32)), (.int (122 : Int32)), (.int (65 : Int32)), (.int (90 : Int32)), (.int (48 : Int32)), (.int (57 : Int32)), (.int (45 : Int32)), (.int (95 : Int32))] : List Value) ((p1 &&& (2147483647 : Int32)) % (8 : Int32))) + (((p2 &&& (2147483647 : Int32)) % (3 : Int32)) - (1 : Int32))).toUInt32.toUInt16.toUInt32.toInt32)), .val (.int (1 : Int32)), .val (.int (1 : Int32))] [])) _
      refine XS.iconst X40.here hx rfl (hb hby at_129) ?_
      show Steps p.tables e below (T40.setTop (mkF m 130 #[.val (.int p0), .val (.int p1), .val (.int p2), .val (.int (p0.toUInt32.toUInt16.toUInt32.toInt32)), .val (.ref b2), .val (.int ((p1 &&& (2147483647 : Int32)) % (8 : Int32))), .val (.int (((p2 &&& (2147483647 : Int32)) % (3 : Int32)) - (1 : Int32))), .val (.int (((own_i ([(.int (97 : Int32)), (.int (122 : Int32)), (.int (65 : Int32)), (.int (90 : Int32)), (.int (48 : Int32)), (.int (57 : Int32)), (.int (45 : Int32)), (.int (95 : Int32))] : List Value) ((p1 &&& (2147483647 : Int32)) % (8 : Int32))) + (((p2 &&& (2147483647 : Int32)) % (3 : Int32)) - (1 : Int32))).toUInt32.toUInt16.toUInt32.toInt32)), .val (.int (1 : Int32)), .val (.int (1 : Int32))] [(.int (1 : Int32))])) _
      refine XS.goto X40.here hx rfl (pc0 := 130) (pc' := 134) rfl (hb hby at_130) (by decide) (by decide) ?_
      exact k)
  obtain ⟨fs, hr, hrun, hended, hW, hsame⟩ := X40.leave (v := some (.int (1 : Int32))) (fun h => by rw [Bd.returns] at h; cases h)
  refine ⟨_, _, c42 _ (retN X40 hx (t := .boolean) Bd.returns (by simp) (hb hby at_134) hr), hrun, hended, _, _, rfl, ?_, ⟨_, rfl⟩, hW, hsame.mono (by decide) (by decide)⟩
  show Q_rm0 Z p0 p1 p2 h0 n0 _ T40.heap _
  rw [e40]
  exact ⟨rfl, N40⟩
set_option maxRecDepth 65536 in
set_option maxHeartbeats 40000000 in
theorem comes_1 {Post : Tables → Env → Array Value → State → Outcome → State → Prop} (hpost : ∀ tb e args s v u, (limb_1_1.after args s (.returned v) u = true ∧ limb_1_2.after args s (.returned v) u = true ∧ True) → FrameEnd s (.returned v) u (Jvm.fieldLocs frame_1_writes args s ++ Jvm.arrayLocs frame_1_arrays args s ++ Jvm.staticLocs frame_1_statics s) 16 128 → Post tb e args s (.returned v) u) :
    ArmFor flags0 classFile x code maxLocals ret World_1 tables_1 room_1 Calls_1 rest_1 Pre_1 Post := by
  intro l hfl _ _ p e ha hc hk s m args below hf hA hF happ hP
  obtain ⟨hcalls, hrest, hpre⟩ := hP
  obtain ⟨-, -, -, hnamed, -, -, -, hat⟩ := (Spec.applies_iff hf).mp happ
  obtain ⟨hg, hn⟩ := and_e (Cond.before_iff.mp (show (Jvm.Cond.and given_1 narrow_1).before args s = true from hpre))
  obtain ⟨g1, g2⟩ := and_e hg
  obtain ⟨g3, g4⟩ := and_e g2
  obtain ⟨g5, g6⟩ := and_e g4
  obtain ⟨w0, w1, w2, rfl⟩ : ∃ w0 w1 w2 : Value, args = #[w0, w1, w2] := by
    have hs : args.size = 3 := by simpa [Cond.value, given_1] using g1
    obtain ⟨L⟩ := args
    match L, hs with
    | [w0, w1, w2], _ => exact ⟨w0, w1, w2, rfl⟩
  have hw := fun d (hd : d ∈ tables_1) => atoms_spec (ws := Jvm.Cond.code x code maxLocals ret :: tables_1) hat d (List.mem_cons_of_mem _ hd)
  have hfit : Fit s := fun {y c} hc i hi => by
    obtain ⟨ha, rfl⟩ := Array.getElem?_eq_some_iff.mp hc
    have q := List.all_eq_true.mp ((Array.all_eq_true_iff_forall_mem.mp hF) _ (Array.getElem_mem ha)) i (List.mem_range.mpr hi)
    simpa [Array.getElem?_eq_getElem hi] using q
  obtain ⟨i0, ei0⟩ := is_v g3
  obtain rfl : w0 = (.int i0) := Option.some.inj ei0
  obtain ⟨i1, ei1⟩ := is_v g5
  obtain rfl : w1 = (.int i1) := Option.some.inj ei1
  obtain ⟨i2, ei2⟩ := is_v g6
  obtain rfl : w2 = (.int i2) := Option.some.inj ei2
  obtain ⟨n, o, h1, h2, h3, _, L, rfl, ⟨rfl, N⟩, hq⟩ := rm0 l s _ hw tables_1 i0 i1 i2 s.heap s.heap.size (Nat.le_refl _) p e ha hc hk s m _ below hf ((Spec.applies_iff_loose hf).mp happ).1 ⟨rfl, State.Warmed39.refl s, rfl⟩ trivial
  refine ⟨n, _, h1, h2, h3, hpost _ _ _ _ _ _ ⟨Cond.after_iff.mpr rfl, Cond.after_iff.mpr (eq_i res_at (Term.int_eval (1)) rfl), trivial⟩ ⟨hq.1, hq.2.1, (hq.2.2.sift fun y hy => Or.inr (N y hy)).mono (by decide) (by decide)⟩⟩
theorem main_1_1 : Claimed_1_1 := comes_1 fun _ _ _ _ _ _ h hF => ⟨h.1, hF⟩
theorem main_1_2 : Claimed_1_2 := comes_1 fun _ _ _ _ _ _ h hF => ⟨h.2.1, hF⟩
end Jvm.Pilot.@@N@@
namespace Jvm.Pilot.@@N@@
open Jvm Jvm.ClassFile Sem Op Lib Jvm.Free Jvm.Stand Jvm.Pilot.@@N@@.Jvm.D
/-! MADE BY PROGRAM (witnessworld.py) out of the Statement's table words and the real class files: 11 classes; the members and pool entries that the words name. The judged class is class 1, her method 2. -/
namespace start1
open Jvm.ClassFile
def u (s : String) : CpInfo := .utf8 (stringToUtf16 s)
/-- a pool by its gaps: so many unusable entries, then the entry; so many at the end -/
def gap : Nat → List CpInfo → List CpInfo
  | 0, r => r
  | n + 1, r => .unusable :: gap n r
def poolList (es : List (Nat × CpInfo)) (last : Nat) : List CpInfo := es.foldr (fun e r => gap e.1 (e.2 :: r)) (gap last [])
def pool (es : List (Nat × CpInfo)) (last : Nat) : Array CpInfo := ⟨poolList es last⟩
def fileOf (pool : Array CpInfo) (this : Nat) (attrs : Array Attribute := #[]) (ms : Array MethodInfo := #[]) (fl : Nat := 33) (sup : Nat := 0) (ifs : Array Nat := #[]) (fds : Array FieldInfo := #[]) : ClassFile where
  minorVersion := 0
  majorVersion := 65
  constantPool := pool
  accessFlags := fl
  thisClass := this
  superClass := sup
  interfaces := ifs
  fields := fds
  methods := ms
  attributes := attrs
def plain (name : String) (sup : Option ClassId) : Class where
  name := name
  kind := .ordinary
  loader := none
  accessFlags := 33
  super := sup
  interfaces := #[]
  cf := none
  fields := #[]
  methods := #[]
  instanceTypes := #[]
  staticTypes := #[]
  resolved := #[]
  callSites := []
  init := .initialized
  statics := none
  mirror := none

def pool0 : Array CpInfo := pool [(5, u "<init>"), (0, u "()V"), (1, .class_ 10), (1, u "java/lang/Object")] 113

def k0m0 : Method := { name := "<init>", desc := "()V", sig := { parameters := [], returnType := none }, accessFlags := 1, code := none }
/-- java/lang/Object -/
def k0 : Class := { plain "java/lang/Object" none with
  accessFlags := 33
  interfaces := #[]
  cf := some (fileOf pool0 8 #[] #[{ accessFlags := 1, nameIndex := 5, descriptorIndex := 6, attributes := #[] }] 33 0 #[] #[])
  fields := #[]
  methods := #[k0m0]
  instanceTypes := #[]
  staticTypes := #[]
  resolved := Array.replicate 124 none
  statics := none }

def pool1 : Array CpInfo := pool [(2, .class_ 4), (1, u "java/lang/Object"), (0, u "<init>"), (0, u "()V"), (0, .integer 2147483647), (0, .methodref 9 10), (0, .class_ 11), (0, .nameAndType 12 13), (0, u "com/example/callbook/callbook/engine/Names"), (0, u "isNameCharacter"), (0, u "(C)Z"), (0, .methodref 15 16), (0, .class_ 17), (0, .nameAndType 18 13), (0, u "com/example/callbook/callbook/engine/NamesIsNameCharacterPinLaw"), (0, u "ref"), (3, u "law"), (0, u "(III)Z")] 4

def k1m0 : Method := { name := "<init>", desc := "()V", sig := { parameters := [], returnType := none }, accessFlags := 2, code := none }
def k1c1 : Code := { maxStack := 2, maxLocals := 5, code := method_2_code, exceptionTable := #[], attributes := #[] }
def k1m1 : Method := { name := "ref", desc := "(C)Z", sig := { parameters := [.char], returnType := some .boolean }, accessFlags := 10, code := some k1c1 }
def k1c2 : Code := { maxStack := 4, maxLocals := 10, code := code, exceptionTable := #[], attributes := #[] }
def k1m2 : Method := { name := "law", desc := "(III)Z", sig := { parameters := [.int, .int, .int], returnType := some .boolean }, accessFlags := 9, code := some k1c2 }
/-- com/example/callbook/callbook/engine/NamesIsNameCharacterPinLaw -/
def k1 : Class := { plain "com/example/callbook/callbook/engine/NamesIsNameCharacterPinLaw" (some 0) with
  accessFlags := 49
  interfaces := #[]
  cf := some (fileOf pool1 15 #[] #[{ accessFlags := 2, nameIndex := 5, descriptorIndex := 6, attributes := #[] }, { accessFlags := 10, nameIndex := 18, descriptorIndex := 13, attributes := #[] }, { accessFlags := 9, nameIndex := 22, descriptorIndex := 23, attributes := #[] }] 49 2 #[] #[])
  fields := #[]
  methods := #[k1m0, k1m1, k1m2]
  instanceTypes := #[]
  staticTypes := #[]
  resolved := Array.replicate 28 none
  statics := none }

def pool2 : Array CpInfo := pool [(2, .class_ 4), (1, u "java/lang/Object"), (0, u "<init>"), (0, u "()V"), (11, .class_ 20), (1, u "com/example/callbook/callbook/engine/Names"), (0, u "isNameCharacter"), (0, u "(C)Z"), (0, u "SPELLING"), (0, u "Ljava/lang/String;")] 10

def k2m0 : Method := { name := "<init>", desc := "()V", sig := { parameters := [], returnType := none }, accessFlags := 2, code := none }
def k2c1 : Code := { maxStack := 2, maxLocals := 1, code := prog_54_method_2_code, exceptionTable := #[], attributes := #[] }
def k2m1 : Method := { name := "isNameCharacter", desc := "(C)Z", sig := { parameters := [.char], returnType := some .boolean }, accessFlags := 9, code := some k2c1 }
/-- com/example/callbook/callbook/engine/Names -/
def k2 : Class := { plain "com/example/callbook/callbook/engine/Names" (some 0) with
  accessFlags := 49
  interfaces := #[]
  cf := some (fileOf pool2 18 #[] #[{ accessFlags := 2, nameIndex := 5, descriptorIndex := 6, attributes := #[] }, { accessFlags := 9, nameIndex := 21, descriptorIndex := 22, attributes := #[] }] 49 2 #[] #[{ accessFlags := 25, nameIndex := 23, descriptorIndex := 24, attributes := #[] }])
  fields := #[{ name := "SPELLING", type := (.object "java/lang/String"), accessFlags := 25, slot := 0, constantValue := 0 }]
  methods := #[k2m0, k2m1]
  instanceTypes := #[]
  staticTypes := #[(.object "java/lang/String")]
  resolved := Array.replicate 35 none
  statics := none }

def pool3 : Array CpInfo := pool [(1, u "java/lang/Cloneable"), (0, .class_ 1), (0, u "java/lang/Object"), (0, .class_ 3)] 3

/-- java/lang/Cloneable -/
def k3 : Class := { plain "java/lang/Cloneable" (some 0) with
  accessFlags := 1537
  interfaces := #[]
  cf := some (fileOf pool3 2 #[] #[] 1537 4 #[] #[])
  fields := #[]
  methods := #[]
  instanceTypes := #[]
  staticTypes := #[]
  resolved := Array.replicate 8 none
  statics := none }

def pool4 : Array CpInfo := pool [(1, u "java/io/Serializable"), (0, .class_ 1), (0, u "java/lang/Object"), (0, .class_ 3)] 3

/-- java/io/Serializable -/
def k4 : Class := { plain "java/io/Serializable" (some 0) with
  accessFlags := 1537
  interfaces := #[]
  cf := some (fileOf pool4 2 #[] #[] 1537 4 #[] #[])
  fields := #[]
  methods := #[]
  instanceTypes := #[]
  staticTypes := #[]
  resolved := Array.replicate 8 none
  statics := none }

/-- the primitive byte -/
def k5 : Class := { plain "byte" none with kind := .primitive 'B', accessFlags := 0x411 }
/-- [B -/
def k6 : Class := { plain "[B" (some 0) with kind := .array 5 .byte, interfaces := #[3, 4], accessFlags := 1041 }

/-- the primitive char -/
def k7 : Class := { plain "char" none with kind := .primitive 'C', accessFlags := 0x411 }
/-- [C -/
def k8 : Class := { plain "[C" (some 0) with kind := .array 7 .char, interfaces := #[3, 4], accessFlags := 1041 }

/-- the primitive int -/
def k9 : Class := { plain "int" none with kind := .primitive 'I', accessFlags := 0x411 }
/-- [I -/
def k10 : Class := { plain "[I" (some 0) with kind := .array 9 .int, interfaces := #[3, 4], accessFlags := 1041 }

def heap : Heap := #[]
def classes : Array Class := #[k0, k1, k2, k3, k4, k5, k6, k7, k8, k9, k10]
def interned : List (Array UInt16 × Addr) := []
def slotsUsed : Nat := 0
def theMethod : MethodId := ⟨1, 2⟩
def args0 : Array Value := #[.int 5, .int 1, .int 1]
def aboutOver (below : List Frame) : State where
  vm := { classes := classes, interned := interned.toArray }
  heap := heap
  slotsUsed := slotsUsed
  threads := #[{ frames := .invoking theMethod args0 :: below }]
def below0 : List Frame := [.native { method := ⟨0, 0⟩, args := #[] }]
def about1 : State := aboutOver below0
def p0 : Program := .bare "" "" ""
def e0 : Env := launch0.env 0 0 0
theorem w_frames : about1.frames = Frame.invoking theMethod args0 :: below0 := rfl
set_option maxRecDepth 65536 in
theorem w_args : argsFit about1.vm theMethod args0 = true := by decide +kernel
set_option maxRecDepth 65536 in
theorem w_heap : heapFits about1 = true := by decide +kernel
set_option maxRecDepth 65536 in
theorem w_runnable : about1.curStatus? = some .runnable := by decide +kernel
set_option maxRecDepth 65536 in
theorem w_alone : about1.alone = true := by decide +kernel
set_option maxRecDepth 65536 in
theorem w_named : about1.methodNamed? x = some theMethod := by decide +kernel
set_option maxRecDepth 65536 in
theorem w_hears : about1.hears theMethod below0 = true := by decide +kernel
set_option maxRecDepth 65536 in
theorem w_ripe : about1.ripe theMethod args0 below0 = true := by decide +kernel
theorem w_running : about1.status = .running := rfl
set_option maxRecDepth 65536 in
theorem w_room : about1.hasRoom e0.platform room_1 = true :=
  launch0.hasRoom_least _ room_1 (by decide +kernel) (by decide +kernel) (by decide +kernel) (by decide +kernel) (by decide +kernel) (by decide +kernel)
theorem allAtoms_all (ts : List Jvm.Cond) (a : Array Jvm.Value) (st : Jvm.State) : (allAtoms ts).before a st = ts.all (fun c => c.before a st) := by
  induction ts with
  | nil => rfl
  | cons c t ih =>
    show (Jvm.Cond.and c (allAtoms t)).before a st = _
    rw [Jvm.Cond.before_and, ih, List.all_cons]
def words1 : List Jvm.Cond := Jvm.Cond.code x code maxLocals ret :: tables_1
/-- a 'code' word, met by the world's own term for the bytes: nothing is compared byte by byte -/
theorem code_word {y : MethodName} {bytes : ByteArray} {mx : Nat} {rt : Option FieldType} {a : Array Value} {s : State} {m : MethodId} {meth : Method} {c : Code} (h1 : s.methodNamed? y = some m) (h2 : s.vm.method? m = some meth) (h3 : meth.code = some c) (h4 : c.code = bytes)
    (h5 : (c.maxLocals == mx && c.exceptionTable.isEmpty && decide (c.maxStack ≤ mostOperands) && decide (meth.sig.returnType = rt) && !meth.locks && decide (parseMethodDescriptor y.desc = some meth.sig)) = true) : (Jvm.Cond.code y bytes mx rt).before a s = true := by
  simp only [Bool.and_eq_true, beq_iff_eq, Bool.not_eq_true', decide_eq_true_eq] at h5
  obtain ⟨⟨⟨⟨⟨g1, g2⟩, g3⟩, g4⟩, g5⟩, g6⟩ := h5
  simp [Cond.before, Cond.holds, Cond.value, h1, h2, h3, h4, g1, g2, g3, g4, g5, g6]
def isCode : Jvm.Cond → Bool
  | .code _ _ _ _ => true
  | _ => false
theorem all_split {L : List Jvm.Cond} {P : Jvm.Cond → Bool} (h1 : L.all (fun c => isCode c || P c) = true) (h2 : ∀ c ∈ L.filter isCode, P c = true) : L.all P = true := by
  refine List.all_eq_true.mpr fun c hc => ?_
  have h := List.all_eq_true.mp h1 c hc
  rcases Bool.eq_false_or_eq_true (isCode c) with hi | hi
  · exact h2 c (List.mem_filter.mpr ⟨hc, hi⟩)
  · simpa [hi] using h
set_option maxRecDepth 65536 in
theorem w_c0 : (Jvm.Cond.code x code maxLocals ret).before args0 about1 = true := code_word (m := ⟨1, 2⟩) (meth := k1m2) (c := k1c2) (by decide +kernel) rfl rfl rfl (by decide +kernel)
set_option maxRecDepth 65536 in
theorem w_c1 : (Jvm.Cond.code ({ cls := "com/example/callbook/callbook/engine/Names", name := "isNameCharacter", desc := "(C)Z" } : Jvm.MethodName) prog_54_method_2_code (1 : Nat) (Option.some Jvm.ClassFile.FieldType.boolean)).before args0 about1 = true := code_word (m := ⟨2, 1⟩) (meth := k2m1) (c := k2c1) (by decide +kernel) rfl rfl rfl (by decide +kernel)
set_option maxRecDepth 65536 in
theorem w_c2 : (Jvm.Cond.code ({ cls := "com/example/callbook/callbook/engine/NamesIsNameCharacterPinLaw", name := "ref", desc := "(C)Z" } : Jvm.MethodName) method_2_code (5 : Nat) (Option.some Jvm.ClassFile.FieldType.boolean)).before args0 about1 = true := code_word (m := ⟨1, 1⟩) (meth := k1m1) (c := k1c1) (by decide +kernel) rfl rfl rfl (by decide +kernel)
def codes1 : List Jvm.Cond := [Jvm.Cond.code x code maxLocals ret, Jvm.Cond.code ({ cls := "com/example/callbook/callbook/engine/Names", name := "isNameCharacter", desc := "(C)Z" } : Jvm.MethodName) prog_54_method_2_code (1 : Nat) (Option.some Jvm.ClassFile.FieldType.boolean), Jvm.Cond.code ({ cls := "com/example/callbook/callbook/engine/NamesIsNameCharacterPinLaw", name := "ref", desc := "(C)Z" } : Jvm.MethodName) method_2_code (5 : Nat) (Option.some Jvm.ClassFile.FieldType.boolean)]
set_option maxRecDepth 65536 in
theorem codes_eq : words1.filter isCode = codes1 := rfl
theorem w_codes : ∀ c ∈ words1.filter isCode, c.before args0 about1 = true := by
  rw [codes_eq]
  intro c hc
  simp only [codes1, List.mem_cons, List.not_mem_nil, or_false] at hc
  rcases hc with rfl | rfl | rfl
  · exact w_c0
  · exact w_c1
  · exact w_c2
set_option maxRecDepth 65536 in
theorem w_t1 : words1.all (fun c => isCode c || c.before args0 about1) = true := by decide +kernel
theorem w_tables : (allAtoms (Jvm.Cond.code x code maxLocals ret :: tables_1)).before args0 about1 = true := by
  rw [allAtoms_all]
  show words1.all (fun c => c.before args0 about1) = true
  refine all_split ?_ w_codes
  rw [w_t1]
set_option maxRecDepth 65536 in
theorem w_case : (Jvm.Cond.and given_1 narrow_1).before args0 about1 = true := by decide +kernel
theorem w_applies : (headSpec (Jvm.Cond.code x code maxLocals ret :: tables_1) room_1).applies x e0.platform about1 = true :=
  (Spec.applies_iff w_frames).mpr ⟨w_running, w_runnable, w_alone, w_named, w_hears, w_ripe, w_room, w_tables⟩
theorem atStart : AtStart classFile x code maxLocals ret World_1 tables_1 room_1 Calls_1 rest_1 Pre_1 launch0 p0 e0 about1 theMethod args0 below0 :=
  ⟨lists_1, trivial, launch0.admits_env _ _ _, launch0.least_env, fairChoices_fair.cas, fairChoices_fair.clock, w_frames, w_args, w_heap, w_applies, trivial, trivial, w_case⟩
end start1
theorem witness_1 : WitnessClaimed_1 := ⟨start1.p0, start1.e0, start1.about1, start1.theMethod, start1.args0, start1.below0, start1.atStart⟩
end Jvm.Pilot.@@N@@
