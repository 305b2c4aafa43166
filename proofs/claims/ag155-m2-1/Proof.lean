import JvmDerived
import JvmDerived.Pilot.@@N@@Statement
import JvmDerived.Pilot.@@N@@Code
set_option linter.unusedVariables false
set_option linter.unusedSimpArgs false
namespace Jvm.RoadKit
open Sem ClassFile Op Lib Jvm.Stand Jvm.Free Jvm.LawKit
section New
variable {p : Program} {l : Launch} {e : Env} {R : Room} {s : State} {m : MethodId} {args : Array Value} {below : List Frame} {meth : Method} {c : Code} {T : State} {locs : List Loc} {cells slots : Nat}
theorem retI (X : Stand p l e R s m args below meth c T locs cells slots) (hx : p.tables.exec = Jvm.exec) {pc : Nat} {Ls : Array Slot} {z : Int32} {rest : List Value} (hret : meth.sig.returnType = some .int) (hd : decode c.code pc = .ok (.ireturn, 1)) {fs : List Frame}
    (hl : ∀ (f : JFrame) (acts : List Action), f.method = m → f.locked = none → f.entered = [] → (doReturn e (T.setTop f) acts (some (.int z))).1 = T.setFrames fs) : Steps p.tables e below (T.setTop (mkF m pc Ls (.int z :: rest))) (T.setFrames fs) := by
  have hm' : T.vm.method? m = some meth := X.method'
  have hn : narrow .int (.int z) = .int z := rfl
  show Steps p.tables e below (T.setTop { method := m, pc := pc, locals := Ls, stack := _ :: rest, locked := none }) _
  jvm_step X.here [X.here.top, hx, hd, hm', hret, hn]
  first | (intro acts; rw [hl _ acts rfl rfl rfl]) | rw [hl _ _ rfl rfl rfl]
  exact Steps.refl _
theorem own_miss {k : Int32} (q : Int32) {a : Int} (hq : q.toInt = a) (h : ¬ k = q) : a ≠ k.toInt := fun e => h (Int32.toInt_inj.mp (e.symm.trans hq.symm))
end New
end Jvm.RoadKit
namespace Jvm.RoadKit
open Sem ClassFile Op Lib Jvm.Stand Jvm.Free Jvm.LawKit
section OwnArrs
variable {p : Program} {l : Launch} {e : Env} {R : Room} {s : State} {m : MethodId} {args : Array Value} {below : List Frame} {meth : Method} {c : Code} {T : State} {locs : List Loc} {cells slots : Nat} {Z : State} {h : Heap} {a : Addr} {k : ClassId} {n : Int32} {vs : List Value} {d : Value} {n0 : Nat}
theorem own_caload (X : Stand p l e R s m args below meth c T locs cells slots) (hx : p.tables.exec = Jvm.exec) (hZ : Z.Warmed39 s.vm) (eT : T.heap = h) (F : Arv Z h a k .char n vs d) {j : Int32} (hj : ¬ j < 0 ∧ j < n) {v : Value} (hv : vs.getD j.toNatClampNeg d = v) {g : JFrame} (hg : g.method = m) {rest : List Value} (hs : g.stack = .int j :: .ref a :: rest) (hd : decode c.code g.pc = .ok (.caload, 1)) (target : State) (hr : Steps p.tables e below (T.setTop { g with pc := g.pc + 1, stack := v :: rest }) target) : Steps p.tables e below (T.setTop g) target := by
  obtain ⟨cl, A, -, S, -, H, -⟩ := F
  have hin := inb_of S hj
  exact X.caload hx (by rw [eT]; exact A.1) (State.isArrayOf_alike hZ.alike A.2.1) A.2.2 hin (Has.at H hin hv) hg hs hd target hr
theorem own_iaload (X : Stand p l e R s m args below meth c T locs cells slots) (hx : p.tables.exec = Jvm.exec) (hZ : Z.Warmed39 s.vm) (eT : T.heap = h) (F : Arv Z h a k .int n vs d) {j : Int32} (hj : ¬ j < 0 ∧ j < n) {v : Value} (hv : vs.getD j.toNatClampNeg d = v) {g : JFrame} (hg : g.method = m) {rest : List Value} (hs : g.stack = .int j :: .ref a :: rest) (hd : decode c.code g.pc = .ok (.iaload, 1)) (target : State) (hr : Steps p.tables e below (T.setTop { g with pc := g.pc + 1, stack := v :: rest }) target) : Steps p.tables e below (T.setTop g) target := by
  obtain ⟨cl, A, -, S, -, H, -⟩ := F
  have hin := inb_of S hj
  exact X.iaload hx (by rw [eT]; exact A.1) (State.isArrayOf_alike hZ.alike A.2.1) A.2.2 hin (Has.at H hin hv) hg hs hd target hr
theorem own_stC (X : Stand p l e R s m args below meth c T locs cells slots) (hx : p.tables.exec = Jvm.exec) (hZ : Z.Warmed39 s.vm) (eT : T.heap = h) (F : Arv Z h a k .char n vs d) {j x : Int32} (hj : ¬ j < 0 ∧ j < n) (i : Nat) (hi : j.toNatClampNeg = i) (hl : i < vs.length) (N : Fr n0 locs) (ga : n0 ≤ a) {g : JFrame} (hg : g.method = m) {rest : List Value} (hs : g.stack = .int x :: .int j :: .ref a :: rest) (hd : decode c.code g.pc = .ok (.castore, 1)) :
    ∃ T' h' L', Stand p l e R s m args below meth c T' L' cells slots ∧ T'.heap = h' ∧ Fr n0 L' ∧ Wr h h' a j.toNatClampNeg (.int (nar .char x)) ∧ Arv Z h' a k .char n (vs.set i (.int (nar .char x))) d ∧ ∀ target, Steps p.tables e below (T'.setTop { g with pc := g.pc + 1, stack := rest }) target → Steps p.tables e below (T.setTop g) target := by
  obtain ⟨cl, A, q, S, M, H, G⟩ := F
  obtain ⟨T', h', X', e', W, st⟩ := stC X hx hZ eT A (inb_of S hj) hg hs hd
  exact ⟨T', h', _, X', e', Fr.snoc X' N ga, W, Arv.set A q S M H G (fits_nar_char _) W i hi hl, st⟩
theorem own_stI (X : Stand p l e R s m args below meth c T locs cells slots) (hx : p.tables.exec = Jvm.exec) (hZ : Z.Warmed39 s.vm) (eT : T.heap = h) (F : Arv Z h a k .int n vs d) {j x : Int32} (hj : ¬ j < 0 ∧ j < n) (i : Nat) (hi : j.toNatClampNeg = i) (hl : i < vs.length) (N : Fr n0 locs) (ga : n0 ≤ a) {g : JFrame} (hg : g.method = m) {rest : List Value} (hs : g.stack = .int x :: .int j :: .ref a :: rest) (hd : decode c.code g.pc = .ok (.iastore, 1)) :
    ∃ T' h' L', Stand p l e R s m args below meth c T' L' cells slots ∧ T'.heap = h' ∧ Fr n0 L' ∧ Wr h h' a j.toNatClampNeg (.int x) ∧ Arv Z h' a k .int n (vs.set i (.int x)) d ∧ ∀ target, Steps p.tables e below (T'.setTop { g with pc := g.pc + 1, stack := rest }) target → Steps p.tables e below (T.setTop g) target := by
  obtain ⟨cl, A, q, S, M, H, G⟩ := F
  obtain ⟨T', h', X', e', W, st⟩ := stI X hx hZ eT A (inb_of S hj) hg hs hd
  exact ⟨T', h', _, X', e', Fr.snoc X' N ga, W, Arv.set A q S M H G rfl W i hi hl, st⟩
end OwnArrs
end Jvm.RoadKit
namespace Jvm.Pilot.@@N@@
open Jvm Jvm.ClassFile Sem Op Lib Jvm.Free Jvm.Stand Jvm.LawKit Jvm.RoadKit Bundle Jvm.Pilot.@@N@@.Jvm.D
theorem d1_0 : decode prog_73_method_30_code 0 = .ok (.iload_n 0, 1) := by decide +kernel
theorem d1_1 : decode prog_73_method_30_code 1 = .ok (.lookupswitch 59 #[(34, 47), (96, 55), (8216, 51), (8220, 43)], 43) := by decide +kernel
theorem d1_44 : decode prog_73_method_30_code 44 = .ok (.iconst 0, 1) := by decide +kernel
theorem d1_45 : decode prog_73_method_30_code 45 = .ok (.goto 16, 3) := by decide +kernel
theorem d1_48 : decode prog_73_method_30_code 48 = .ok (.iconst 1, 1) := by decide +kernel
theorem d1_49 : decode prog_73_method_30_code 49 = .ok (.goto 12, 3) := by decide +kernel
theorem d1_52 : decode prog_73_method_30_code 52 = .ok (.iconst 2, 1) := by decide +kernel
theorem d1_53 : decode prog_73_method_30_code 53 = .ok (.goto 8, 3) := by decide +kernel
theorem d1_56 : decode prog_73_method_30_code 56 = .ok (.iconst 3, 1) := by decide +kernel
theorem d1_57 : decode prog_73_method_30_code 57 = .ok (.goto 4, 3) := by decide +kernel
theorem d1_60 : decode prog_73_method_30_code 60 = .ok (.iconst (-1), 1) := by decide +kernel
theorem d1_61 : decode prog_73_method_30_code 61 = .ok (.ireturn, 1) := by decide +kernel
def f1_0_r (i0 : Int32) : Int32 := if i0 = (34 : Int32) then (1 : Int32) else if i0 = (96 : Int32) then (3 : Int32) else if i0 = (8216 : Int32) then (2 : Int32) else if i0 = (8220 : Int32) then (0 : Int32) else (-1 : Int32)
set_option maxRecDepth 65536 in
set_option maxHeartbeats 40000000 in
theorem f1_0 {p : Program} {l : Launch} {e : Env} {R : Room} {s : State} {m : MethodId} {args : Array Value} {below : List Frame} {meth : Method} {c : Code} {T : State} {locs : List Loc} {cells slots : Nat} {Z : State} {a0 : Array Value} {target : State} (i0 : Int32) (X : Stand p l e R s m args below meth c T locs cells slots) (hx : p.tables.exec = Jvm.exec) (hZ : Z.Warmed39 s.vm) (hw : ∀ d ∈ tables_1, d.before a0 Z = true) (hby : c.code = prog_73_method_30_code) (hown : s.vm.findClass "com/example/whereas/whereas/Text" = some m.cls) (k : ∀ (pc : Nat) (Ls : Array Slot), decode c.code pc = .ok (.ireturn, 1) → Steps p.tables e below (T.setTop (mkF m pc Ls [(.int (f1_0_r i0))])) target) :
    Steps p.tables e below (T.setTop (mkF m 0 #[.val (.int i0)] [])) target := by
  show Steps p.tables e below (T.setTop (mkF m 0 #[.val (.int i0)] [])) _
  refine XS.iloadN X.here hx rfl (hb hby d1_0) rfl ?_
  show Steps p.tables e below (T.setTop (mkF m 1 #[.val (.int i0)] [(.int i0)])) _
  by_cases q1_0 : i0 = (34 : Int32)
  · refine lookupswitchHit X hx (g := (mkF m 1 #[.val (.int i0)] [(.int i0)])) rfl rfl (hb hby d1_1) (by decide) (a := 34) (off := 47) (by rw [q1_0]; decide +kernel) (show (0 : Int) ≤ ((1 : Nat) : Int) + 47 from by decide) _ ?_
    show Steps p.tables e below (T.setTop (mkF m 48 #[.val (.int i0)] [])) _
    refine XS.iconst X.here hx rfl (hb hby d1_48) ?_
    show Steps p.tables e below (T.setTop (mkF m 49 #[.val (.int i0)] [(.int (1 : Int32))])) _
    refine XS.goto X.here hx rfl (pc0 := 49) (pc' := 61) rfl (hb hby d1_49) (by decide) (by decide) ?_
    have e_r : (f1_0_r i0) = (1 : Int32) := by unfold f1_0_r; rw [if_pos q1_0]
    rw [e_r] at k
    exact k _ _ (hb hby d1_61)
  · by_cases q1_1 : i0 = (96 : Int32)
    · refine lookupswitchHit X hx (g := (mkF m 1 #[.val (.int i0)] [(.int i0)])) rfl rfl (hb hby d1_1) (by decide) (a := 96) (off := 55) (by rw [q1_1]; decide +kernel) (show (0 : Int) ≤ ((1 : Nat) : Int) + 55 from by decide) _ ?_
      show Steps p.tables e below (T.setTop (mkF m 56 #[.val (.int i0)] [])) _
      refine XS.iconst X.here hx rfl (hb hby d1_56) ?_
      show Steps p.tables e below (T.setTop (mkF m 57 #[.val (.int i0)] [(.int (3 : Int32))])) _
      refine XS.goto X.here hx rfl (pc0 := 57) (pc' := 61) rfl (hb hby d1_57) (by decide) (by decide) ?_
      have e_r : (f1_0_r i0) = (3 : Int32) := by unfold f1_0_r; rw [if_neg q1_0, if_pos q1_1]
      rw [e_r] at k
      exact k _ _ (hb hby d1_61)
    · by_cases q1_2 : i0 = (8216 : Int32)
      · refine lookupswitchHit X hx (g := (mkF m 1 #[.val (.int i0)] [(.int i0)])) rfl rfl (hb hby d1_1) (by decide) (a := 8216) (off := 51) (by rw [q1_2]; decide +kernel) (show (0 : Int) ≤ ((1 : Nat) : Int) + 51 from by decide) _ ?_
        show Steps p.tables e below (T.setTop (mkF m 52 #[.val (.int i0)] [])) _
        refine XS.iconst X.here hx rfl (hb hby d1_52) ?_
        show Steps p.tables e below (T.setTop (mkF m 53 #[.val (.int i0)] [(.int (2 : Int32))])) _
        refine XS.goto X.here hx rfl (pc0 := 53) (pc' := 61) rfl (hb hby d1_53) (by decide) (by decide) ?_
        have e_r : (f1_0_r i0) = (2 : Int32) := by unfold f1_0_r; rw [if_neg q1_0, if_neg q1_1, if_pos q1_2]
        rw [e_r] at k
        exact k _ _ (hb hby d1_61)
      · by_cases q1_3 : i0 = (8220 : Int32)
        · refine lookupswitchHit X hx (g := (mkF m 1 #[.val (.int i0)] [(.int i0)])) rfl rfl (hb hby d1_1) (by decide) (a := 8220) (off := 43) (by rw [q1_3]; decide +kernel) (show (0 : Int) ≤ ((1 : Nat) : Int) + 43 from by decide) _ ?_
          show Steps p.tables e below (T.setTop (mkF m 44 #[.val (.int i0)] [])) _
          refine XS.iconst X.here hx rfl (hb hby d1_44) ?_
          show Steps p.tables e below (T.setTop (mkF m 45 #[.val (.int i0)] [(.int (0 : Int32))])) _
          refine XS.goto X.here hx rfl (pc0 := 45) (pc' := 61) rfl (hb hby d1_45) (by decide) (by decide) ?_
          have e_r : (f1_0_r i0) = (0 : Int32) := by unfold f1_0_r; rw [if_neg q1_0, if_neg q1_1, if_neg q1_2, if_pos q1_3]
          rw [e_r] at k
          exact k _ _ (hb hby d1_61)
        · refine lookupswitchMiss X hx (g := (mkF m 1 #[.val (.int i0)] [(.int i0)])) rfl rfl (hb hby d1_1) (by decide) (find_miss (by
            intro p hp
            simp only [List.mem_cons, List.not_mem_nil, or_false] at hp
            rcases hp with rfl | rfl | rfl | rfl
            · exact own_miss (34 : Int32) rfl q1_0
            · exact own_miss (96 : Int32) rfl q1_1
            · exact own_miss (8216 : Int32) rfl q1_2
            · exact own_miss (8220 : Int32) rfl q1_3)) (show (0 : Int) ≤ ((1 : Nat) : Int) + 59 from by decide) _ ?_
          show Steps p.tables e below (T.setTop (mkF m 60 #[.val (.int i0)] [])) _
          refine XS.iconst X.here hx rfl (hb hby d1_60) ?_
          have e_r : (f1_0_r i0) = (-1 : Int32) := by unfold f1_0_r; rw [if_neg q1_0, if_neg q1_1, if_neg q1_2, if_neg q1_3]
          rw [e_r] at k
          exact k _ _ (hb hby d1_61)
theorem pn_0 : plainName "com/example/whereas/whereas/Text" = true := by first | (simp [plainName, overriddenIn]; done) | decide +kernel
theorem ef_rm1 (m : MethodId) (x0 : Int32) : entryFrame m #[(.int x0)] 1 = mkF m 0 #[.val (.int x0)] [] := by first | (simp [entryFrame, mkF, argsToLocals, Value.category]; done) | rfl
def Q_rm1 (Z : State) (p0 : Int32) (h0 : Heap) (n0 : Nat) (v : Option Value) (h : Heap) (L : List Loc) : Prop := v = some (.int (f1_0_r p0)) ∧ Fr n0 L ∧ h = h0
set_option maxRecDepth 65536 in
set_option maxHeartbeats 40000000 in
theorem rm1 (l : Launch) (Z : State) (a0 : Array Value) (hw : ∀ d ∈ tables_1, d.before a0 Z = true) (ws : List Jvm.Cond) (p0 : Int32) (h0 : Heap) (n0 : Nat) (Z0 : n0 ≤ h0.size) :
    MetFree l (⟨"com/example/whereas/whereas/Text", "opensQuote", "(C)I"⟩ : MethodName) (head1 (Jvm.Cond.code (⟨"com/example/whereas/whereas/Text", "opensQuote", "(C)I"⟩ : MethodName) prog_73_method_30_code 1 (some .int) :: ws) ({ frames := 0, cells := 0, slots := 0, locals := 0 } : Room)) (fun a U => a = #[(.int p0)] ∧ Z.Warmed39 U.vm ∧ U.heap = h0) (fun _ _ _ _ _ => True) (fun _ U o U' => ∃ v L, o = .returned v ∧ Q_rm1 Z p0 h0 n0 v U'.heap L ∧ FrameEnd U o U' L ({ frames := 0, cells := 0, slots := 0, locals := 0 } : Room).cells ({ frames := 0, cells := 0, slots := 0, locals := 0 } : Room).slots) := by
  refine MetFree.of_bodySF (plainFor_of_name pn_0) hisR ?_
  intro p e s m args below meth c s₁ Bd hml0 hP hK
  obtain ⟨rfl, hZ, hh⟩ := hP
  have hx := Bd.exec
  have hby := Bd.bytes
  have hml : c.maxLocals = 1 := hml0
  have hown : s.vm.findClass "com/example/whereas/whereas/Text" = some m.cls := findClass_of_methodNamed Bd.named
  have hnm := (name_of_methodNamed Bd.named Bd.method).1
  have X0 : Stand p l e ({ frames := 0, cells := 0, slots := 0, locals := 0 } : Room) s m #[(.int p0)] below meth c s₁ [] 0 0 := Stand.of_body Bd
  have e0 : s₁.heap = h0 := by rw [← hh, Bd.state]; rfl
  have N0 := Fr.nil n0
  have c0 : ∀ t, Steps p.tables e below (s₁.setTop (mkF m 0 #[.val (.int p0)] [])) t → Steps p.tables e below (s₁.setTop (entryFrame m #[(.int p0)] 1)) t := fun t k => castTop (ef_rm1 m p0) k
  obtain ⟨fs, hr, hrun, hended, hW, hsame⟩ := X0.leave (v := some (.int (f1_0_r p0))) (fun h => by rw [Bd.returns] at h; cases h)
  refine ⟨_, _, c0 _ (f1_0 p0 X0 hx hZ hw hby hown (fun pc Ls hd => retI X0 hx Bd.returns hd hr)), hrun, hended, _, _, rfl, ?_, ⟨_, rfl⟩, hW, hsame.mono (by decide) (by decide)⟩
  show Q_rm1 Z p0 h0 n0 _ s₁.heap _
  rw [e0]
  exact ⟨rfl, N0, rfl⟩
theorem d2_0 : decode prog_73_method_31_code 0 = .ok (.iload_n 0, 1) := by decide +kernel
theorem d2_1 : decode prog_73_method_31_code 1 = .ok (.lookupswitch 59 #[(34, 47), (39, 55), (8217, 51), (8221, 43)], 43) := by decide +kernel
theorem d2_44 : decode prog_73_method_31_code 44 = .ok (.iconst 0, 1) := by decide +kernel
theorem d2_45 : decode prog_73_method_31_code 45 = .ok (.goto 16, 3) := by decide +kernel
theorem d2_48 : decode prog_73_method_31_code 48 = .ok (.iconst 1, 1) := by decide +kernel
theorem d2_49 : decode prog_73_method_31_code 49 = .ok (.goto 12, 3) := by decide +kernel
theorem d2_52 : decode prog_73_method_31_code 52 = .ok (.iconst 2, 1) := by decide +kernel
theorem d2_53 : decode prog_73_method_31_code 53 = .ok (.goto 8, 3) := by decide +kernel
theorem d2_56 : decode prog_73_method_31_code 56 = .ok (.iconst 3, 1) := by decide +kernel
theorem d2_57 : decode prog_73_method_31_code 57 = .ok (.goto 4, 3) := by decide +kernel
theorem d2_60 : decode prog_73_method_31_code 60 = .ok (.iconst (-1), 1) := by decide +kernel
theorem d2_61 : decode prog_73_method_31_code 61 = .ok (.ireturn, 1) := by decide +kernel
def f2_0_r (i0 : Int32) : Int32 := if i0 = (34 : Int32) then (1 : Int32) else if i0 = (39 : Int32) then (3 : Int32) else if i0 = (8217 : Int32) then (2 : Int32) else if i0 = (8221 : Int32) then (0 : Int32) else (-1 : Int32)
set_option maxRecDepth 65536 in
set_option maxHeartbeats 40000000 in
theorem f2_0 {p : Program} {l : Launch} {e : Env} {R : Room} {s : State} {m : MethodId} {args : Array Value} {below : List Frame} {meth : Method} {c : Code} {T : State} {locs : List Loc} {cells slots : Nat} {Z : State} {a0 : Array Value} {target : State} (i0 : Int32) (X : Stand p l e R s m args below meth c T locs cells slots) (hx : p.tables.exec = Jvm.exec) (hZ : Z.Warmed39 s.vm) (hw : ∀ d ∈ tables_1, d.before a0 Z = true) (hby : c.code = prog_73_method_31_code) (hown : s.vm.findClass "com/example/whereas/whereas/Text" = some m.cls) (k : ∀ (pc : Nat) (Ls : Array Slot), decode c.code pc = .ok (.ireturn, 1) → Steps p.tables e below (T.setTop (mkF m pc Ls [(.int (f2_0_r i0))])) target) :
    Steps p.tables e below (T.setTop (mkF m 0 #[.val (.int i0)] [])) target := by
  show Steps p.tables e below (T.setTop (mkF m 0 #[.val (.int i0)] [])) _
  refine XS.iloadN X.here hx rfl (hb hby d2_0) rfl ?_
  show Steps p.tables e below (T.setTop (mkF m 1 #[.val (.int i0)] [(.int i0)])) _
  by_cases q1_0 : i0 = (34 : Int32)
  · refine lookupswitchHit X hx (g := (mkF m 1 #[.val (.int i0)] [(.int i0)])) rfl rfl (hb hby d2_1) (by decide) (a := 34) (off := 47) (by rw [q1_0]; decide +kernel) (show (0 : Int) ≤ ((1 : Nat) : Int) + 47 from by decide) _ ?_
    show Steps p.tables e below (T.setTop (mkF m 48 #[.val (.int i0)] [])) _
    refine XS.iconst X.here hx rfl (hb hby d2_48) ?_
    show Steps p.tables e below (T.setTop (mkF m 49 #[.val (.int i0)] [(.int (1 : Int32))])) _
    refine XS.goto X.here hx rfl (pc0 := 49) (pc' := 61) rfl (hb hby d2_49) (by decide) (by decide) ?_
    have e_r : (f2_0_r i0) = (1 : Int32) := by unfold f2_0_r; rw [if_pos q1_0]
    rw [e_r] at k
    exact k _ _ (hb hby d2_61)
  · by_cases q1_1 : i0 = (39 : Int32)
    · refine lookupswitchHit X hx (g := (mkF m 1 #[.val (.int i0)] [(.int i0)])) rfl rfl (hb hby d2_1) (by decide) (a := 39) (off := 55) (by rw [q1_1]; decide +kernel) (show (0 : Int) ≤ ((1 : Nat) : Int) + 55 from by decide) _ ?_
      show Steps p.tables e below (T.setTop (mkF m 56 #[.val (.int i0)] [])) _
      refine XS.iconst X.here hx rfl (hb hby d2_56) ?_
      show Steps p.tables e below (T.setTop (mkF m 57 #[.val (.int i0)] [(.int (3 : Int32))])) _
      refine XS.goto X.here hx rfl (pc0 := 57) (pc' := 61) rfl (hb hby d2_57) (by decide) (by decide) ?_
      have e_r : (f2_0_r i0) = (3 : Int32) := by unfold f2_0_r; rw [if_neg q1_0, if_pos q1_1]
      rw [e_r] at k
      exact k _ _ (hb hby d2_61)
    · by_cases q1_2 : i0 = (8217 : Int32)
      · refine lookupswitchHit X hx (g := (mkF m 1 #[.val (.int i0)] [(.int i0)])) rfl rfl (hb hby d2_1) (by decide) (a := 8217) (off := 51) (by rw [q1_2]; decide +kernel) (show (0 : Int) ≤ ((1 : Nat) : Int) + 51 from by decide) _ ?_
        show Steps p.tables e below (T.setTop (mkF m 52 #[.val (.int i0)] [])) _
        refine XS.iconst X.here hx rfl (hb hby d2_52) ?_
        show Steps p.tables e below (T.setTop (mkF m 53 #[.val (.int i0)] [(.int (2 : Int32))])) _
        refine XS.goto X.here hx rfl (pc0 := 53) (pc' := 61) rfl (hb hby d2_53) (by decide) (by decide) ?_
        have e_r : (f2_0_r i0) = (2 : Int32) := by unfold f2_0_r; rw [if_neg q1_0, if_neg q1_1, if_pos q1_2]
        rw [e_r] at k
        exact k _ _ (hb hby d2_61)
      · by_cases q1_3 : i0 = (8221 : Int32)
        · refine lookupswitchHit X hx (g := (mkF m 1 #[.val (.int i0)] [(.int i0)])) rfl rfl (hb hby d2_1) (by decide) (a := 8221) (off := 43) (by rw [q1_3]; decide +kernel) (show (0 : Int) ≤ ((1 : Nat) : Int) + 43 from by decide) _ ?_
          show Steps p.tables e below (T.setTop (mkF m 44 #[.val (.int i0)] [])) _
          refine XS.iconst X.here hx rfl (hb hby d2_44) ?_
          show Steps p.tables e below (T.setTop (mkF m 45 #[.val (.int i0)] [(.int (0 : Int32))])) _
          refine XS.goto X.here hx rfl (pc0 := 45) (pc' := 61) rfl (hb hby d2_45) (by decide) (by decide) ?_
          have e_r : (f2_0_r i0) = (0 : Int32) := by unfold f2_0_r; rw [if_neg q1_0, if_neg q1_1, if_neg q1_2, if_pos q1_3]
          rw [e_r] at k
          exact k _ _ (hb hby d2_61)
        · refine lookupswitchMiss X hx (g := (mkF m 1 #[.val (.int i0)] [(.int i0)])) rfl rfl (hb hby d2_1) (by decide) (find_miss (by
            intro p hp
            simp only [List.mem_cons, List.not_mem_nil, or_false] at hp
            rcases hp with rfl | rfl | rfl | rfl
            · exact own_miss (34 : Int32) rfl q1_0
            · exact own_miss (39 : Int32) rfl q1_1
            · exact own_miss (8217 : Int32) rfl q1_2
            · exact own_miss (8221 : Int32) rfl q1_3)) (show (0 : Int) ≤ ((1 : Nat) : Int) + 59 from by decide) _ ?_
          show Steps p.tables e below (T.setTop (mkF m 60 #[.val (.int i0)] [])) _
          refine XS.iconst X.here hx rfl (hb hby d2_60) ?_
          have e_r : (f2_0_r i0) = (-1 : Int32) := by unfold f2_0_r; rw [if_neg q1_0, if_neg q1_1, if_neg q1_2, if_neg q1_3]
          rw [e_r] at k
          exact k _ _ (hb hby d2_61)
theorem ef_rm2 (m : MethodId) (x0 : Int32) : entryFrame m #[(.int x0)] 1 = mkF m 0 #[.val (.int x0)] [] := by first | (simp [entryFrame, mkF, argsToLocals, Value.category]; done) | rfl
def Q_rm2 (Z : State) (p0 : Int32) (h0 : Heap) (n0 : Nat) (v : Option Value) (h : Heap) (L : List Loc) : Prop := v = some (.int (f2_0_r p0)) ∧ Fr n0 L ∧ h = h0
set_option maxRecDepth 65536 in
set_option maxHeartbeats 40000000 in
theorem rm2 (l : Launch) (Z : State) (a0 : Array Value) (hw : ∀ d ∈ tables_1, d.before a0 Z = true) (ws : List Jvm.Cond) (p0 : Int32) (h0 : Heap) (n0 : Nat) (Z0 : n0 ≤ h0.size) :
    MetFree l (⟨"com/example/whereas/whereas/Text", "closesQuote", "(C)I"⟩ : MethodName) (head1 (Jvm.Cond.code (⟨"com/example/whereas/whereas/Text", "closesQuote", "(C)I"⟩ : MethodName) prog_73_method_31_code 1 (some .int) :: ws) ({ frames := 0, cells := 0, slots := 0, locals := 0 } : Room)) (fun a U => a = #[(.int p0)] ∧ Z.Warmed39 U.vm ∧ U.heap = h0) (fun _ _ _ _ _ => True) (fun _ U o U' => ∃ v L, o = .returned v ∧ Q_rm2 Z p0 h0 n0 v U'.heap L ∧ FrameEnd U o U' L ({ frames := 0, cells := 0, slots := 0, locals := 0 } : Room).cells ({ frames := 0, cells := 0, slots := 0, locals := 0 } : Room).slots) := by
  refine MetFree.of_bodySF (plainFor_of_name pn_0) hisR ?_
  intro p e s m args below meth c s₁ Bd hml0 hP hK
  obtain ⟨rfl, hZ, hh⟩ := hP
  have hx := Bd.exec
  have hby := Bd.bytes
  have hml : c.maxLocals = 1 := hml0
  have hown : s.vm.findClass "com/example/whereas/whereas/Text" = some m.cls := findClass_of_methodNamed Bd.named
  have hnm := (name_of_methodNamed Bd.named Bd.method).1
  have X0 : Stand p l e ({ frames := 0, cells := 0, slots := 0, locals := 0 } : Room) s m #[(.int p0)] below meth c s₁ [] 0 0 := Stand.of_body Bd
  have e0 : s₁.heap = h0 := by rw [← hh, Bd.state]; rfl
  have N0 := Fr.nil n0
  have c0 : ∀ t, Steps p.tables e below (s₁.setTop (mkF m 0 #[.val (.int p0)] [])) t → Steps p.tables e below (s₁.setTop (entryFrame m #[(.int p0)] 1)) t := fun t k => castTop (ef_rm2 m p0) k
  obtain ⟨fs, hr, hrun, hended, hW, hsame⟩ := X0.leave (v := some (.int (f2_0_r p0))) (fun h => by rw [Bd.returns] at h; cases h)
  refine ⟨_, _, c0 _ (f2_0 p0 X0 hx hZ hw hby hown (fun pc Ls hd => retI X0 hx Bd.returns hd hr)), hrun, hended, _, _, rfl, ?_, ⟨_, rfl⟩, hW, hsame.mono (by decide) (by decide)⟩
  show Q_rm2 Z p0 h0 n0 _ s₁.heap _
  rw [e0]
  exact ⟨rfl, N0, rfl⟩
def own_taba (j : Int32) : Int32 := if j = 0 then 8220 else if j = 1 then 34 else if j = 2 then 8216 else 96
def own_tabb (j : Int32) : Int32 := if j = 0 then 8221 else if j = 1 then 34 else if j = 2 then 8217 else 39
theorem own_four {j : Int32} (h : ¬ j < 0 ∧ j < 4) : j = 0 ∨ j = 1 ∨ j = 2 ∨ j = 3 := by
  obtain ⟨h1, h2⟩ := h
  rw [Int32.lt_iff_toInt_lt] at h1 h2
  have e0 : (0 : Int32).toInt = 0 := rfl
  have e4 : (4 : Int32).toInt = 4 := rfl
  have e : j.toInt = 0 ∨ j.toInt = 1 ∨ j.toInt = 2 ∨ j.toInt = 3 := by omega
  rcases e with e | e | e | e
  · exact Or.inl (Int32.toInt_inj.mp e)
  · exact Or.inr (Or.inl (Int32.toInt_inj.mp e))
  · exact Or.inr (Or.inr (Or.inl (Int32.toInt_inj.mp e)))
  · exact Or.inr (Or.inr (Or.inr (Int32.toInt_inj.mp e)))
theorem own_taba_at {j : Int32} (h : ¬ j < 0 ∧ j < 4) : ([(.int (8220 : Int32)), (.int (34 : Int32)), (.int (8216 : Int32)), (.int (96 : Int32))] : List Value).getD j.toNatClampNeg (.int (0 : Int32)) = .int (own_taba j) := by
  rcases own_four h with rfl | rfl | rfl | rfl <;> rfl
theorem own_tabb_at {j : Int32} (h : ¬ j < 0 ∧ j < 4) : ([(.int (8221 : Int32)), (.int (34 : Int32)), (.int (8217 : Int32)), (.int (39 : Int32))] : List Value).getD j.toNatClampNeg (.int (0 : Int32)) = .int (own_tabb j) := by
  rcases own_four h with rfl | rfl | rfl | rfl <;> rfl
theorem own_in3' (k : Int32) : ¬ (k &&& (3 : Int32)) < 0 ∧ (k &&& (3 : Int32)) < 4 := by
  have e : 0 ≤ (k &&& (3 : Int32)).toInt ∧ (k &&& (3 : Int32)).toInt ≤ (3 : Int32).toInt := c_and k 3 (by decide)
  have e3 : (3 : Int32).toInt = 3 := rfl
  have e0 : (0 : Int32).toInt = 0 := rfl
  have e4 : (4 : Int32).toInt = 4 := rfl
  rw [Int32.lt_iff_toInt_lt, Int32.lt_iff_toInt_lt]
  omega
theorem own_in3 (y : Int32) : ¬ (((y.toUInt32 >>> ((1 : Int32) &&& 31).toUInt32).toInt32) &&& (3 : Int32)) < 0 ∧ (((y.toUInt32 >>> ((1 : Int32) &&& 31).toUInt32).toInt32) &&& (3 : Int32)) < 4 := own_in3' _
def g1_59_t0 (i0 : Int32) (i1 : Int32) (i4 : Int32) : Int32 := if (i1 &&& (1 : Int32)) = (0 : Int32) then (i0.toUInt32.toUInt16.toUInt32.toInt32) else (own_taba i4)
set_option maxRecDepth 65536 in
set_option maxHeartbeats 40000000 in
theorem g1_59 {p : Program} {l : Launch} {e : Env} {R : Room} {s : State} {m : MethodId} {args : Array Value} {below : List Frame} {meth : Method} {c : Code} {T : State} {locs : List Loc} {cells slots : Nat} {Z : State} {a0 : Array Value} {target : State} (i0 : Int32) (i1 : Int32) (o2 : Addr) (o3 : Addr) (i4 : Int32) (X : Stand p l e R s m args below meth c T locs cells slots) (hx : p.tables.exec = Jvm.exec) (hZ : Z.Warmed39 s.vm) (hw : ∀ d ∈ tables_1, d.before a0 Z = true) (hby : c.code = code) (hown : s.vm.findClass "com/example/whereas/whereas/TextOpensQuotePinLaw" = some m.cls) {h : Heap} {kk : ClassId} (eT : T.heap = h) (FV : Arv Z h o2 kk .char (4 : Int32) [(.int (8220 : Int32)), (.int (34 : Int32)), (.int (8216 : Int32)), (.int (96 : Int32))] (.int (0 : Int32))) (hp : ¬ i4 < 0 ∧ i4 < 4) (k : Steps p.tables e below (T.setTop (mkF m 74 #[.val (.int i0), .val (.int i1), .val (.ref o2), .val (.ref o3), .val (.int i4), .unset, .unset, .unset, .unset, .unset] [(.int (g1_59_t0 i0 i1 i4))])) target) :
    Steps p.tables e below (T.setTop (mkF m 59 #[.val (.int i0), .val (.int i1), .val (.ref o2), .val (.ref o3), .val (.int i4), .unset, .unset, .unset, .unset, .unset] [])) target := by
  show Steps p.tables e below (T.setTop (mkF m 59 #[.val (.int i0), .val (.int i1), .val (.ref o2), .val (.ref o3), .val (.int i4), .unset, .unset, .unset, .unset, .unset] [])) _
  refine XS.iloadN X.here hx rfl (hb hby at_59) rfl ?_
  show Steps p.tables e below (T.setTop (mkF m 60 #[.val (.int i0), .val (.int i1), .val (.ref o2), .val (.ref o3), .val (.int i4), .unset, .unset, .unset, .unset, .unset] [(.int i1)])) _
  refine XS.iconst X.here hx rfl (hb hby at_60) ?_
  show Steps p.tables e below (T.setTop (mkF m 61 #[.val (.int i0), .val (.int i1), .val (.ref o2), .val (.ref o3), .val (.int i4), .unset, .unset, .unset, .unset, .unset] [(.int (1 : Int32)), (.int i1)])) _
  refine XS.iand X.here hx rfl (hb hby at_61) rfl ?_
  show Steps p.tables e below (T.setTop (mkF m 62 #[.val (.int i0), .val (.int i1), .val (.ref o2), .val (.ref o3), .val (.int i4), .unset, .unset, .unset, .unset, .unset] [(.int (i1 &&& (1 : Int32)))])) _
  by_cases q62 : (i1 &&& (1 : Int32)) = (0 : Int32)
  · refine XS.ifYes X.here hx rfl (pc0 := 62) (pc' := 72) rfl (hb hby at_62) rfl ((if0 _ _).trans (teq q62).1) (by decide) (by decide) ?_
    show Steps p.tables e below (T.setTop (mkF m 72 #[.val (.int i0), .val (.int i1), .val (.ref o2), .val (.ref o3), .val (.int i4), .unset, .unset, .unset, .unset, .unset] [])) _
    refine XS.iloadN X.here hx rfl (hb hby at_72) rfl ?_
    show Steps p.tables e below (T.setTop (mkF m 73 #[.val (.int i0), .val (.int i1), .val (.ref o2), .val (.ref o3), .val (.int i4), .unset, .unset, .unset, .unset, .unset] [(.int i0)])) _
    refine XS.i2c X.here hx rfl (hb hby at_73) rfl ?_
    have e_t0 : (g1_59_t0 i0 i1 i4) = (i0.toUInt32.toUInt16.toUInt32.toInt32) := by unfold g1_59_t0; rw [if_pos q62]
    rw [e_t0] at k
    exact k
  · refine XS.ifNo X.here hx rfl (hb hby at_62) rfl ((if0 _ _).trans (feq q62).1) ?_
    show Steps p.tables e below (T.setTop (mkF m 65 #[.val (.int i0), .val (.int i1), .val (.ref o2), .val (.ref o3), .val (.int i4), .unset, .unset, .unset, .unset, .unset] [])) _
    refine XS.aloadN X.here hx rfl (hb hby at_65) rfl rfl ?_
    show Steps p.tables e below (T.setTop (mkF m 66 #[.val (.int i0), .val (.int i1), .val (.ref o2), .val (.ref o3), .val (.int i4), .unset, .unset, .unset, .unset, .unset] [(.ref o2)])) _
    refine XS.iload X.here hx rfl (hb hby at_66) rfl ?_
    show Steps p.tables e below (T.setTop (mkF m 68 #[.val (.int i0), .val (.int i1), .val (.ref o2), .val (.ref o3), .val (.int i4), .unset, .unset, .unset, .unset, .unset] [(.int i4), (.ref o2)])) _
    refine own_caload X hx hZ eT FV (j := i4) hp (v := (.int (own_taba i4))) (own_taba_at hp) (g := (mkF m 68 #[.val (.int i0), .val (.int i1), .val (.ref o2), .val (.ref o3), .val (.int i4), .unset, .unset, .unset, .unset, .unset] [(.int i4), (.ref o2)])) rfl rfl (hb hby at_68) _ ?_
    show Steps p.tables e below (T.setTop (mkF m 69 #[.val (.int i0), .val (.int i1), .val (.ref o2), .val (.ref o3), .val (.int i4), .unset, .unset, .unset, .unset, .unset] [(.int (own_taba i4))])) _
    refine XS.goto X.here hx rfl (pc0 := 69) (pc' := 74) rfl (hb hby at_69) (by decide) (by decide) ?_
    have e_t0 : (g1_59_t0 i0 i1 i4) = (own_taba i4) := by unfold g1_59_t0; rw [if_neg q62]
    rw [e_t0] at k
    exact k
theorem pd_0 : parseMethodDescriptor "(C)I" = some ⟨[.char], some .int⟩ := by decide +kernel
def g2_115_t0  : Int32 := (1 : Int32)
def g2_83_t0 (i5 : Int32) : Int32 := if i5 = (8220 : Int32) then g2_115_t0 else if i5 = (34 : Int32) then g2_115_t0 else if i5 = (8216 : Int32) then g2_115_t0 else if i5 = (96 : Int32) then g2_115_t0 else (0 : Int32)
set_option maxRecDepth 65536 in
set_option maxHeartbeats 40000000 in
theorem g2_115 {p : Program} {l : Launch} {e : Env} {R : Room} {s : State} {m : MethodId} {args : Array Value} {below : List Frame} {meth : Method} {c : Code} {T : State} {locs : List Loc} {cells slots : Nat} {Z : State} {a0 : Array Value} {target : State} (i0 : Int32) (i1 : Int32) (o2 : Addr) (o3 : Addr) (i4 : Int32) (i5 : Int32) (i6 : Int32) (X : Stand p l e R s m args below meth c T locs cells slots) (hx : p.tables.exec = Jvm.exec) (hZ : Z.Warmed39 s.vm) (hw : ∀ d ∈ tables_1, d.before a0 Z = true) (hby : c.code = code) (hown : s.vm.findClass "com/example/whereas/whereas/TextOpensQuotePinLaw" = some m.cls) {h : Heap} {kk : ClassId} (eT : T.heap = h) (FV : Arv Z h o2 kk .char (4 : Int32) [(.int (8220 : Int32)), (.int (34 : Int32)), (.int (8216 : Int32)), (.int (96 : Int32))] (.int (0 : Int32))) (k : Steps p.tables e below (T.setTop (mkF m 120 #[.val (.int i0), .val (.int i1), .val (.ref o2), .val (.ref o3), .val (.int i4), .val (.int i5), .val (.int i6), .unset, .unset, .unset] [(.int (g2_115_t0))])) target) :
    Steps p.tables e below (T.setTop (mkF m 115 #[.val (.int i0), .val (.int i1), .val (.ref o2), .val (.ref o3), .val (.int i4), .val (.int i5), .val (.int i6), .unset, .unset, .unset] [])) target := by
  show Steps p.tables e below (T.setTop (mkF m 115 #[.val (.int i0), .val (.int i1), .val (.ref o2), .val (.ref o3), .val (.int i4), .val (.int i5), .val (.int i6), .unset, .unset, .unset] [])) _
  refine XS.iconst X.here hx rfl (hb hby at_115) ?_
  show Steps p.tables e below (T.setTop (mkF m 116 #[.val (.int i0), .val (.int i1), .val (.ref o2), .val (.ref o3), .val (.int i4), .val (.int i5), .val (.int i6), .unset, .unset, .unset] [(.int (1 : Int32))])) _
  refine XS.goto X.here hx rfl (pc0 := 116) (pc' := 120) rfl (hb hby at_116) (by decide) (by decide) ?_
  have e_t0 : (g2_115_t0) = (1 : Int32) := by rfl
  rw [e_t0] at k
  exact k
set_option maxRecDepth 65536 in
set_option maxHeartbeats 40000000 in
theorem g2_83 {p : Program} {l : Launch} {e : Env} {R : Room} {s : State} {m : MethodId} {args : Array Value} {below : List Frame} {meth : Method} {c : Code} {T : State} {locs : List Loc} {cells slots : Nat} {Z : State} {a0 : Array Value} {target : State} (i0 : Int32) (i1 : Int32) (o2 : Addr) (o3 : Addr) (i4 : Int32) (i5 : Int32) (i6 : Int32) (X : Stand p l e R s m args below meth c T locs cells slots) (hx : p.tables.exec = Jvm.exec) (hZ : Z.Warmed39 s.vm) (hw : ∀ d ∈ tables_1, d.before a0 Z = true) (hby : c.code = code) (hown : s.vm.findClass "com/example/whereas/whereas/TextOpensQuotePinLaw" = some m.cls) {h : Heap} {kk : ClassId} (eT : T.heap = h) (FV : Arv Z h o2 kk .char (4 : Int32) [(.int (8220 : Int32)), (.int (34 : Int32)), (.int (8216 : Int32)), (.int (96 : Int32))] (.int (0 : Int32))) (k : Steps p.tables e below (T.setTop (mkF m 120 #[.val (.int i0), .val (.int i1), .val (.ref o2), .val (.ref o3), .val (.int i4), .val (.int i5), .val (.int i6), .unset, .unset, .unset] [(.int (g2_83_t0 i5))])) target) :
    Steps p.tables e below (T.setTop (mkF m 83 #[.val (.int i0), .val (.int i1), .val (.ref o2), .val (.ref o3), .val (.int i4), .val (.int i5), .val (.int i6), .unset, .unset, .unset] [])) target := by
  show Steps p.tables e below (T.setTop (mkF m 83 #[.val (.int i0), .val (.int i1), .val (.ref o2), .val (.ref o3), .val (.int i4), .val (.int i5), .val (.int i6), .unset, .unset, .unset] [])) _
  refine XS.iload X.here hx rfl (hb hby at_83) rfl ?_
  show Steps p.tables e below (T.setTop (mkF m 85 #[.val (.int i0), .val (.int i1), .val (.ref o2), .val (.ref o3), .val (.int i4), .val (.int i5), .val (.int i6), .unset, .unset, .unset] [(.int i5)])) _
  refine XS.aloadN X.here hx rfl (hb hby at_85) rfl rfl ?_
  show Steps p.tables e below (T.setTop (mkF m 86 #[.val (.int i0), .val (.int i1), .val (.ref o2), .val (.ref o3), .val (.int i4), .val (.int i5), .val (.int i6), .unset, .unset, .unset] [(.ref o2), (.int i5)])) _
  refine XS.iconst X.here hx rfl (hb hby at_86) ?_
  show Steps p.tables e below (T.setTop (mkF m 87 #[.val (.int i0), .val (.int i1), .val (.ref o2), .val (.ref o3), .val (.int i4), .val (.int i5), .val (.int i6), .unset, .unset, .unset] [(.int (0 : Int32)), (.ref o2), (.int i5)])) _
  refine own_caload X hx hZ eT FV (j := (0 : Int32)) ⟨by decide, by decide⟩ (v := (.int (8220 : Int32))) rfl (g := (mkF m 87 #[.val (.int i0), .val (.int i1), .val (.ref o2), .val (.ref o3), .val (.int i4), .val (.int i5), .val (.int i6), .unset, .unset, .unset] [(.int (0 : Int32)), (.ref o2), (.int i5)])) rfl rfl (hb hby at_87) _ ?_
  show Steps p.tables e below (T.setTop (mkF m 88 #[.val (.int i0), .val (.int i1), .val (.ref o2), .val (.ref o3), .val (.int i4), .val (.int i5), .val (.int i6), .unset, .unset, .unset] [(.int (8220 : Int32)), (.int i5)])) _
  by_cases q88 : i5 = (8220 : Int32)
  · refine XS.icmpYes X.here hx rfl (pc0 := 88) (pc' := 115) rfl (hb hby at_88) rfl (teq q88).1 (by decide) (by decide) ?_
    have e_t0 : (g2_83_t0 i5) = g2_115_t0 := by unfold g2_83_t0; rw [if_pos q88]
    rw [e_t0] at k
    exact g2_115 i0 i1 o2 o3 i4 i5 i6 X hx hZ hw hby hown eT FV k
  · refine XS.icmpNo X.here hx rfl (hb hby at_88) rfl (feq q88).1 ?_
    show Steps p.tables e below (T.setTop (mkF m 91 #[.val (.int i0), .val (.int i1), .val (.ref o2), .val (.ref o3), .val (.int i4), .val (.int i5), .val (.int i6), .unset, .unset, .unset] [])) _
    refine XS.iload X.here hx rfl (hb hby at_91) rfl ?_
    show Steps p.tables e below (T.setTop (mkF m 93 #[.val (.int i0), .val (.int i1), .val (.ref o2), .val (.ref o3), .val (.int i4), .val (.int i5), .val (.int i6), .unset, .unset, .unset] [(.int i5)])) _
    refine XS.aloadN X.here hx rfl (hb hby at_93) rfl rfl ?_
    show Steps p.tables e below (T.setTop (mkF m 94 #[.val (.int i0), .val (.int i1), .val (.ref o2), .val (.ref o3), .val (.int i4), .val (.int i5), .val (.int i6), .unset, .unset, .unset] [(.ref o2), (.int i5)])) _
    refine XS.iconst X.here hx rfl (hb hby at_94) ?_
    show Steps p.tables e below (T.setTop (mkF m 95 #[.val (.int i0), .val (.int i1), .val (.ref o2), .val (.ref o3), .val (.int i4), .val (.int i5), .val (.int i6), .unset, .unset, .unset] [(.int (1 : Int32)), (.ref o2), (.int i5)])) _
    refine own_caload X hx hZ eT FV (j := (1 : Int32)) ⟨by decide, by decide⟩ (v := (.int (34 : Int32))) rfl (g := (mkF m 95 #[.val (.int i0), .val (.int i1), .val (.ref o2), .val (.ref o3), .val (.int i4), .val (.int i5), .val (.int i6), .unset, .unset, .unset] [(.int (1 : Int32)), (.ref o2), (.int i5)])) rfl rfl (hb hby at_95) _ ?_
    show Steps p.tables e below (T.setTop (mkF m 96 #[.val (.int i0), .val (.int i1), .val (.ref o2), .val (.ref o3), .val (.int i4), .val (.int i5), .val (.int i6), .unset, .unset, .unset] [(.int (34 : Int32)), (.int i5)])) _
    by_cases q96 : i5 = (34 : Int32)
    · refine XS.icmpYes X.here hx rfl (pc0 := 96) (pc' := 115) rfl (hb hby at_96) rfl (teq q96).1 (by decide) (by decide) ?_
      have e_t0 : (g2_83_t0 i5) = g2_115_t0 := by unfold g2_83_t0; rw [if_neg q88, if_pos q96]
      rw [e_t0] at k
      exact g2_115 i0 i1 o2 o3 i4 i5 i6 X hx hZ hw hby hown eT FV k
    · refine XS.icmpNo X.here hx rfl (hb hby at_96) rfl (feq q96).1 ?_
      show Steps p.tables e below (T.setTop (mkF m 99 #[.val (.int i0), .val (.int i1), .val (.ref o2), .val (.ref o3), .val (.int i4), .val (.int i5), .val (.int i6), .unset, .unset, .unset] [])) _
      refine XS.iload X.here hx rfl (hb hby at_99) rfl ?_
      show Steps p.tables e below (T.setTop (mkF m 101 #[.val (.int i0), .val (.int i1), .val (.ref o2), .val (.ref o3), .val (.int i4), .val (.int i5), .val (.int i6), .unset, .unset, .unset] [(.int i5)])) _
      refine XS.aloadN X.here hx rfl (hb hby at_101) rfl rfl ?_
      show Steps p.tables e below (T.setTop (mkF m 102 #[.val (.int i0), .val (.int i1), .val (.ref o2), .val (.ref o3), .val (.int i4), .val (.int i5), .val (.int i6), .unset, .unset, .unset] [(.ref o2), (.int i5)])) _
      refine XS.iconst X.here hx rfl (hb hby at_102) ?_
      show Steps p.tables e below (T.setTop (mkF m 103 #[.val (.int i0), .val (.int i1), .val (.ref o2), .val (.ref o3), .val (.int i4), .val (.int i5), .val (.int i6), .unset, .unset, .unset] [(.int (2 : Int32)), (.ref o2), (.int i5)])) _
      refine own_caload X hx hZ eT FV (j := (2 : Int32)) ⟨by decide, by decide⟩ (v := (.int (8216 : Int32))) rfl (g := (mkF m 103 #[.val (.int i0), .val (.int i1), .val (.ref o2), .val (.ref o3), .val (.int i4), .val (.int i5), .val (.int i6), .unset, .unset, .unset] [(.int (2 : Int32)), (.ref o2), (.int i5)])) rfl rfl (hb hby at_103) _ ?_
      show Steps p.tables e below (T.setTop (mkF m 104 #[.val (.int i0), .val (.int i1), .val (.ref o2), .val (.ref o3), .val (.int i4), .val (.int i5), .val (.int i6), .unset, .unset, .unset] [(.int (8216 : Int32)), (.int i5)])) _
      by_cases q104 : i5 = (8216 : Int32)
      · refine XS.icmpYes X.here hx rfl (pc0 := 104) (pc' := 115) rfl (hb hby at_104) rfl (teq q104).1 (by decide) (by decide) ?_
        have e_t0 : (g2_83_t0 i5) = g2_115_t0 := by unfold g2_83_t0; rw [if_neg q88, if_neg q96, if_pos q104]
        rw [e_t0] at k
        exact g2_115 i0 i1 o2 o3 i4 i5 i6 X hx hZ hw hby hown eT FV k
      · refine XS.icmpNo X.here hx rfl (hb hby at_104) rfl (feq q104).1 ?_
        show Steps p.tables e below (T.setTop (mkF m 107 #[.val (.int i0), .val (.int i1), .val (.ref o2), .val (.ref o3), .val (.int i4), .val (.int i5), .val (.int i6), .unset, .unset, .unset] [])) _
        refine XS.iload X.here hx rfl (hb hby at_107) rfl ?_
        show Steps p.tables e below (T.setTop (mkF m 109 #[.val (.int i0), .val (.int i1), .val (.ref o2), .val (.ref o3), .val (.int i4), .val (.int i5), .val (.int i6), .unset, .unset, .unset] [(.int i5)])) _
        refine XS.aloadN X.here hx rfl (hb hby at_109) rfl rfl ?_
        show Steps p.tables e below (T.setTop (mkF m 110 #[.val (.int i0), .val (.int i1), .val (.ref o2), .val (.ref o3), .val (.int i4), .val (.int i5), .val (.int i6), .unset, .unset, .unset] [(.ref o2), (.int i5)])) _
        refine XS.iconst X.here hx rfl (hb hby at_110) ?_
        show Steps p.tables e below (T.setTop (mkF m 111 #[.val (.int i0), .val (.int i1), .val (.ref o2), .val (.ref o3), .val (.int i4), .val (.int i5), .val (.int i6), .unset, .unset, .unset] [(.int (3 : Int32)), (.ref o2), (.int i5)])) _
        refine own_caload X hx hZ eT FV (j := (3 : Int32)) ⟨by decide, by decide⟩ (v := (.int (96 : Int32))) rfl (g := (mkF m 111 #[.val (.int i0), .val (.int i1), .val (.ref o2), .val (.ref o3), .val (.int i4), .val (.int i5), .val (.int i6), .unset, .unset, .unset] [(.int (3 : Int32)), (.ref o2), (.int i5)])) rfl rfl (hb hby at_111) _ ?_
        show Steps p.tables e below (T.setTop (mkF m 112 #[.val (.int i0), .val (.int i1), .val (.ref o2), .val (.ref o3), .val (.int i4), .val (.int i5), .val (.int i6), .unset, .unset, .unset] [(.int (96 : Int32)), (.int i5)])) _
        by_cases q112 : i5 = (96 : Int32)
        · refine XS.icmpNo X.here hx rfl (hb hby at_112) rfl (teq q112).2 ?_
          have e_t0 : (g2_83_t0 i5) = g2_115_t0 := by unfold g2_83_t0; rw [if_neg q88, if_neg q96, if_neg q104, if_pos q112]
          rw [e_t0] at k
          exact g2_115 i0 i1 o2 o3 i4 i5 i6 X hx hZ hw hby hown eT FV k
        · refine XS.icmpYes X.here hx rfl (pc0 := 112) (pc' := 119) rfl (hb hby at_112) rfl (feq q112).2 (by decide) (by decide) ?_
          show Steps p.tables e below (T.setTop (mkF m 119 #[.val (.int i0), .val (.int i1), .val (.ref o2), .val (.ref o3), .val (.int i4), .val (.int i5), .val (.int i6), .unset, .unset, .unset] [])) _
          refine XS.iconst X.here hx rfl (hb hby at_119) ?_
          have e_t0 : (g2_83_t0 i5) = (0 : Int32) := by unfold g2_83_t0; rw [if_neg q88, if_neg q96, if_neg q104, if_neg q112]
          rw [e_t0] at k
          exact k
def h1_195_t0  : Int32 := (1 : Int32)
def h1_182_t0 (i1 : Int32) (i4 : Int32) (i6 : Int32) : Int32 := if (i1 &&& (1 : Int32)) = (0 : Int32) then h1_195_t0 else if i6 = i4 then h1_195_t0 else (0 : Int32)
set_option maxRecDepth 65536 in
set_option maxHeartbeats 40000000 in
theorem h1_195 {p : Program} {l : Launch} {e : Env} {R : Room} {s : State} {m : MethodId} {args : Array Value} {below : List Frame} {meth : Method} {c : Code} {T : State} {locs : List Loc} {cells slots : Nat} {Z : State} {a0 : Array Value} {target : State} (i0 : Int32) (i1 : Int32) (o2 : Addr) (o3 : Addr) (i4 : Int32) (i5 : Int32) (i6 : Int32) (i7 : Int32) (i8 : Int32) (X : Stand p l e R s m args below meth c T locs cells slots) (hx : p.tables.exec = Jvm.exec) (hZ : Z.Warmed39 s.vm) (hw : ∀ d ∈ tables_1, d.before a0 Z = true) (hby : c.code = code) (hown : s.vm.findClass "com/example/whereas/whereas/TextOpensQuotePinLaw" = some m.cls) (k : Steps p.tables e below (T.setTop (mkF m 200 #[.val (.int i0), .val (.int i1), .val (.ref o2), .val (.ref o3), .val (.int i4), .val (.int i5), .val (.int i6), .val (.int i7), .val (.int i8), .unset] [(.int (h1_195_t0))])) target) :
    Steps p.tables e below (T.setTop (mkF m 195 #[.val (.int i0), .val (.int i1), .val (.ref o2), .val (.ref o3), .val (.int i4), .val (.int i5), .val (.int i6), .val (.int i7), .val (.int i8), .unset] [])) target := by
  show Steps p.tables e below (T.setTop (mkF m 195 #[.val (.int i0), .val (.int i1), .val (.ref o2), .val (.ref o3), .val (.int i4), .val (.int i5), .val (.int i6), .val (.int i7), .val (.int i8), .unset] [])) _
  refine XS.iconst X.here hx rfl (hb hby at_195) ?_
  show Steps p.tables e below (T.setTop (mkF m 196 #[.val (.int i0), .val (.int i1), .val (.ref o2), .val (.ref o3), .val (.int i4), .val (.int i5), .val (.int i6), .val (.int i7), .val (.int i8), .unset] [(.int (1 : Int32))])) _
  refine XS.goto X.here hx rfl (pc0 := 196) (pc' := 200) rfl (hb hby at_196) (by decide) (by decide) ?_
  have e_t0 : (h1_195_t0) = (1 : Int32) := by rfl
  rw [e_t0] at k
  exact k
set_option maxRecDepth 65536 in
set_option maxHeartbeats 40000000 in
theorem h1_182 {p : Program} {l : Launch} {e : Env} {R : Room} {s : State} {m : MethodId} {args : Array Value} {below : List Frame} {meth : Method} {c : Code} {T : State} {locs : List Loc} {cells slots : Nat} {Z : State} {a0 : Array Value} {target : State} (i0 : Int32) (i1 : Int32) (o2 : Addr) (o3 : Addr) (i4 : Int32) (i5 : Int32) (i6 : Int32) (i7 : Int32) (i8 : Int32) (X : Stand p l e R s m args below meth c T locs cells slots) (hx : p.tables.exec = Jvm.exec) (hZ : Z.Warmed39 s.vm) (hw : ∀ d ∈ tables_1, d.before a0 Z = true) (hby : c.code = code) (hown : s.vm.findClass "com/example/whereas/whereas/TextOpensQuotePinLaw" = some m.cls) (k : Steps p.tables e below (T.setTop (mkF m 200 #[.val (.int i0), .val (.int i1), .val (.ref o2), .val (.ref o3), .val (.int i4), .val (.int i5), .val (.int i6), .val (.int i7), .val (.int i8), .unset] [(.int (h1_182_t0 i1 i4 i6))])) target) :
    Steps p.tables e below (T.setTop (mkF m 182 #[.val (.int i0), .val (.int i1), .val (.ref o2), .val (.ref o3), .val (.int i4), .val (.int i5), .val (.int i6), .val (.int i7), .val (.int i8), .unset] [])) target := by
  show Steps p.tables e below (T.setTop (mkF m 182 #[.val (.int i0), .val (.int i1), .val (.ref o2), .val (.ref o3), .val (.int i4), .val (.int i5), .val (.int i6), .val (.int i7), .val (.int i8), .unset] [])) _
  refine XS.iloadN X.here hx rfl (hb hby at_182) rfl ?_
  show Steps p.tables e below (T.setTop (mkF m 183 #[.val (.int i0), .val (.int i1), .val (.ref o2), .val (.ref o3), .val (.int i4), .val (.int i5), .val (.int i6), .val (.int i7), .val (.int i8), .unset] [(.int i1)])) _
  refine XS.iconst X.here hx rfl (hb hby at_183) ?_
  show Steps p.tables e below (T.setTop (mkF m 184 #[.val (.int i0), .val (.int i1), .val (.ref o2), .val (.ref o3), .val (.int i4), .val (.int i5), .val (.int i6), .val (.int i7), .val (.int i8), .unset] [(.int (1 : Int32)), (.int i1)])) _
  refine XS.iand X.here hx rfl (hb hby at_184) rfl ?_
  show Steps p.tables e below (T.setTop (mkF m 185 #[.val (.int i0), .val (.int i1), .val (.ref o2), .val (.ref o3), .val (.int i4), .val (.int i5), .val (.int i6), .val (.int i7), .val (.int i8), .unset] [(.int (i1 &&& (1 : Int32)))])) _
  by_cases q185 : (i1 &&& (1 : Int32)) = (0 : Int32)
  · refine XS.ifYes X.here hx rfl (pc0 := 185) (pc' := 195) rfl (hb hby at_185) rfl ((if0 _ _).trans (teq q185).1) (by decide) (by decide) ?_
    have e_t0 : (h1_182_t0 i1 i4 i6) = h1_195_t0 := by unfold h1_182_t0; rw [if_pos q185]
    rw [e_t0] at k
    exact h1_195 i0 i1 o2 o3 i4 i5 i6 i7 i8 X hx hZ hw hby hown k
  · refine XS.ifNo X.here hx rfl (hb hby at_185) rfl ((if0 _ _).trans (feq q185).1) ?_
    show Steps p.tables e below (T.setTop (mkF m 188 #[.val (.int i0), .val (.int i1), .val (.ref o2), .val (.ref o3), .val (.int i4), .val (.int i5), .val (.int i6), .val (.int i7), .val (.int i8), .unset] [])) _
    refine XS.iload X.here hx rfl (hb hby at_188) rfl ?_
    show Steps p.tables e below (T.setTop (mkF m 190 #[.val (.int i0), .val (.int i1), .val (.ref o2), .val (.ref o3), .val (.int i4), .val (.int i5), .val (.int i6), .val (.int i7), .val (.int i8), .unset] [(.int i6)])) _
    refine XS.iload X.here hx rfl (hb hby at_190) rfl ?_
    show Steps p.tables e below (T.setTop (mkF m 192 #[.val (.int i0), .val (.int i1), .val (.ref o2), .val (.ref o3), .val (.int i4), .val (.int i5), .val (.int i6), .val (.int i7), .val (.int i8), .unset] [(.int i4), (.int i6)])) _
    by_cases q192 : i6 = i4
    · refine XS.icmpNo X.here hx rfl (hb hby at_192) rfl (teq q192).2 ?_
      have e_t0 : (h1_182_t0 i1 i4 i6) = h1_195_t0 := by unfold h1_182_t0; rw [if_neg q185, if_pos q192]
      rw [e_t0] at k
      exact h1_195 i0 i1 o2 o3 i4 i5 i6 i7 i8 X hx hZ hw hby hown k
    · refine XS.icmpYes X.here hx rfl (pc0 := 192) (pc' := 199) rfl (hb hby at_192) rfl (feq q192).2 (by decide) (by decide) ?_
      show Steps p.tables e below (T.setTop (mkF m 199 #[.val (.int i0), .val (.int i1), .val (.ref o2), .val (.ref o3), .val (.int i4), .val (.int i5), .val (.int i6), .val (.int i7), .val (.int i8), .unset] [])) _
      refine XS.iconst X.here hx rfl (hb hby at_199) ?_
      have e_t0 : (h1_182_t0 i1 i4 i6) = (0 : Int32) := by unfold h1_182_t0; rw [if_neg q185, if_neg q192]
      rw [e_t0] at k
      exact k
def h2_195_t0  : Int32 := (1 : Int32)
def h2_182_t0 (i1 : Int32) (i4 : Int32) (i6 : Int32) : Int32 := if (i1 &&& (1 : Int32)) = (0 : Int32) then h2_195_t0 else if i6 = i4 then h2_195_t0 else (0 : Int32)
set_option maxRecDepth 65536 in
set_option maxHeartbeats 40000000 in
theorem h2_195 {p : Program} {l : Launch} {e : Env} {R : Room} {s : State} {m : MethodId} {args : Array Value} {below : List Frame} {meth : Method} {c : Code} {T : State} {locs : List Loc} {cells slots : Nat} {Z : State} {a0 : Array Value} {target : State} (i0 : Int32) (i1 : Int32) (o2 : Addr) (o3 : Addr) (i4 : Int32) (i5 : Int32) (i6 : Int32) (i7 : Int32) (i8 : Int32) (X : Stand p l e R s m args below meth c T locs cells slots) (hx : p.tables.exec = Jvm.exec) (hZ : Z.Warmed39 s.vm) (hw : ∀ d ∈ tables_1, d.before a0 Z = true) (hby : c.code = code) (hown : s.vm.findClass "com/example/whereas/whereas/TextOpensQuotePinLaw" = some m.cls) (k : Steps p.tables e below (T.setTop (mkF m 200 #[.val (.int i0), .val (.int i1), .val (.ref o2), .val (.ref o3), .val (.int i4), .val (.int i5), .val (.int i6), .val (.int i7), .val (.int i8), .unset] [(.int (h2_195_t0))])) target) :
    Steps p.tables e below (T.setTop (mkF m 195 #[.val (.int i0), .val (.int i1), .val (.ref o2), .val (.ref o3), .val (.int i4), .val (.int i5), .val (.int i6), .val (.int i7), .val (.int i8), .unset] [])) target := by
  show Steps p.tables e below (T.setTop (mkF m 195 #[.val (.int i0), .val (.int i1), .val (.ref o2), .val (.ref o3), .val (.int i4), .val (.int i5), .val (.int i6), .val (.int i7), .val (.int i8), .unset] [])) _
  refine XS.iconst X.here hx rfl (hb hby at_195) ?_
  show Steps p.tables e below (T.setTop (mkF m 196 #[.val (.int i0), .val (.int i1), .val (.ref o2), .val (.ref o3), .val (.int i4), .val (.int i5), .val (.int i6), .val (.int i7), .val (.int i8), .unset] [(.int (1 : Int32))])) _
  refine XS.goto X.here hx rfl (pc0 := 196) (pc' := 200) rfl (hb hby at_196) (by decide) (by decide) ?_
  have e_t0 : (h2_195_t0) = (1 : Int32) := by rfl
  rw [e_t0] at k
  exact k
set_option maxRecDepth 65536 in
set_option maxHeartbeats 40000000 in
theorem h2_182 {p : Program} {l : Launch} {e : Env} {R : Room} {s : State} {m : MethodId} {args : Array Value} {below : List Frame} {meth : Method} {c : Code} {T : State} {locs : List Loc} {cells slots : Nat} {Z : State} {a0 : Array Value} {target : State} (i0 : Int32) (i1 : Int32) (o2 : Addr) (o3 : Addr) (i4 : Int32) (i5 : Int32) (i6 : Int32) (i7 : Int32) (i8 : Int32) (X : Stand p l e R s m args below meth c T locs cells slots) (hx : p.tables.exec = Jvm.exec) (hZ : Z.Warmed39 s.vm) (hw : ∀ d ∈ tables_1, d.before a0 Z = true) (hby : c.code = code) (hown : s.vm.findClass "com/example/whereas/whereas/TextOpensQuotePinLaw" = some m.cls) (k : Steps p.tables e below (T.setTop (mkF m 200 #[.val (.int i0), .val (.int i1), .val (.ref o2), .val (.ref o3), .val (.int i4), .val (.int i5), .val (.int i6), .val (.int i7), .val (.int i8), .unset] [(.int (h2_182_t0 i1 i4 i6))])) target) :
    Steps p.tables e below (T.setTop (mkF m 182 #[.val (.int i0), .val (.int i1), .val (.ref o2), .val (.ref o3), .val (.int i4), .val (.int i5), .val (.int i6), .val (.int i7), .val (.int i8), .unset] [])) target := by
  show Steps p.tables e below (T.setTop (mkF m 182 #[.val (.int i0), .val (.int i1), .val (.ref o2), .val (.ref o3), .val (.int i4), .val (.int i5), .val (.int i6), .val (.int i7), .val (.int i8), .unset] [])) _
  refine XS.iloadN X.here hx rfl (hb hby at_182) rfl ?_
  show Steps p.tables e below (T.setTop (mkF m 183 #[.val (.int i0), .val (.int i1), .val (.ref o2), .val (.ref o3), .val (.int i4), .val (.int i5), .val (.int i6), .val (.int i7), .val (.int i8), .unset] [(.int i1)])) _
  refine XS.iconst X.here hx rfl (hb hby at_183) ?_
  show Steps p.tables e below (T.setTop (mkF m 184 #[.val (.int i0), .val (.int i1), .val (.ref o2), .val (.ref o3), .val (.int i4), .val (.int i5), .val (.int i6), .val (.int i7), .val (.int i8), .unset] [(.int (1 : Int32)), (.int i1)])) _
  refine XS.iand X.here hx rfl (hb hby at_184) rfl ?_
  show Steps p.tables e below (T.setTop (mkF m 185 #[.val (.int i0), .val (.int i1), .val (.ref o2), .val (.ref o3), .val (.int i4), .val (.int i5), .val (.int i6), .val (.int i7), .val (.int i8), .unset] [(.int (i1 &&& (1 : Int32)))])) _
  by_cases q185 : (i1 &&& (1 : Int32)) = (0 : Int32)
  · refine XS.ifYes X.here hx rfl (pc0 := 185) (pc' := 195) rfl (hb hby at_185) rfl ((if0 _ _).trans (teq q185).1) (by decide) (by decide) ?_
    have e_t0 : (h2_182_t0 i1 i4 i6) = h2_195_t0 := by unfold h2_182_t0; rw [if_pos q185]
    rw [e_t0] at k
    exact h2_195 i0 i1 o2 o3 i4 i5 i6 i7 i8 X hx hZ hw hby hown k
  · refine XS.ifNo X.here hx rfl (hb hby at_185) rfl ((if0 _ _).trans (feq q185).1) ?_
    show Steps p.tables e below (T.setTop (mkF m 188 #[.val (.int i0), .val (.int i1), .val (.ref o2), .val (.ref o3), .val (.int i4), .val (.int i5), .val (.int i6), .val (.int i7), .val (.int i8), .unset] [])) _
    refine XS.iload X.here hx rfl (hb hby at_188) rfl ?_
    show Steps p.tables e below (T.setTop (mkF m 190 #[.val (.int i0), .val (.int i1), .val (.ref o2), .val (.ref o3), .val (.int i4), .val (.int i5), .val (.int i6), .val (.int i7), .val (.int i8), .unset] [(.int i6)])) _
    refine XS.iload X.here hx rfl (hb hby at_190) rfl ?_
    show Steps p.tables e below (T.setTop (mkF m 192 #[.val (.int i0), .val (.int i1), .val (.ref o2), .val (.ref o3), .val (.int i4), .val (.int i5), .val (.int i6), .val (.int i7), .val (.int i8), .unset] [(.int i4), (.int i6)])) _
    by_cases q192 : i6 = i4
    · refine XS.icmpNo X.here hx rfl (hb hby at_192) rfl (teq q192).2 ?_
      have e_t0 : (h2_182_t0 i1 i4 i6) = h2_195_t0 := by unfold h2_182_t0; rw [if_neg q185, if_pos q192]
      rw [e_t0] at k
      exact h2_195 i0 i1 o2 o3 i4 i5 i6 i7 i8 X hx hZ hw hby hown k
    · refine XS.icmpYes X.here hx rfl (pc0 := 192) (pc' := 199) rfl (hb hby at_192) rfl (feq q192).2 (by decide) (by decide) ?_
      show Steps p.tables e below (T.setTop (mkF m 199 #[.val (.int i0), .val (.int i1), .val (.ref o2), .val (.ref o3), .val (.int i4), .val (.int i5), .val (.int i6), .val (.int i7), .val (.int i8), .unset] [])) _
      refine XS.iconst X.here hx rfl (hb hby at_199) ?_
      have e_t0 : (h2_182_t0 i1 i4 i6) = (0 : Int32) := by unfold h2_182_t0; rw [if_neg q185, if_neg q192]
      rw [e_t0] at k
      exact k
theorem own_cases (c : Int32) : (c = 34 ∧ f1_0_r c = 1) ∨ (c = 96 ∧ f1_0_r c = 3) ∨ (c = 8216 ∧ f1_0_r c = 2) ∨ (c = 8220 ∧ f1_0_r c = 0) ∨ (¬ c = 34 ∧ ¬ c = 96 ∧ ¬ c = 8216 ∧ ¬ c = 8220 ∧ f1_0_r c = -1) := by
  unfold f1_0_r
  by_cases h1 : c = 34
  · exact Or.inl ⟨h1, if_pos h1⟩
  rw [if_neg h1]
  by_cases h2 : c = 96
  · exact Or.inr (Or.inl ⟨h2, if_pos h2⟩)
  rw [if_neg h2]
  by_cases h3 : c = 8216
  · exact Or.inr (Or.inr (Or.inl ⟨h3, if_pos h3⟩))
  rw [if_neg h3]
  by_cases h4 : c = 8220
  · exact Or.inr (Or.inr (Or.inr (Or.inl ⟨h4, if_pos h4⟩)))
  rw [if_neg h4]
  exact Or.inr (Or.inr (Or.inr (Or.inr ⟨h1, h2, h3, h4, rfl⟩)))
theorem own_iso {c : Int32} (h : f1_0_r c = (-1 : Int32)) : g2_83_t0 c = (0 : Int32) := by
  rcases own_cases c with ⟨-, q⟩ | ⟨-, q⟩ | ⟨-, q⟩ | ⟨-, q⟩ | ⟨h1, h2, h3, h4, -⟩
  · rw [q] at h; exact absurd h (by decide)
  · rw [q] at h; exact absurd h (by decide)
  · rw [q] at h; exact absurd h (by decide)
  · rw [q] at h; exact absurd h (by decide)
  · unfold g2_83_t0; rw [if_neg h4, if_neg h1, if_neg h3, if_neg h2]
theorem own_r0 {c : Int32} (h : ¬ f1_0_r c = (-1 : Int32)) : ¬ f1_0_r c < 0 ∧ f1_0_r c < 4 := by
  rcases own_cases c with ⟨-, q⟩ | ⟨-, q⟩ | ⟨-, q⟩ | ⟨-, q⟩ | ⟨-, -, -, -, q⟩
  · rw [q]; decide
  · rw [q]; decide
  · rw [q]; decide
  · rw [q]; decide
  · exact absurd q h
theorem own_rc {c : Int32} (h : ¬ f1_0_r c = (-1 : Int32)) : own_taba (f1_0_r c) = c := by
  rcases own_cases c with ⟨r, q⟩ | ⟨r, q⟩ | ⟨r, q⟩ | ⟨r, q⟩ | ⟨-, -, -, -, q⟩
  · rw [q, r]; decide
  · rw [q, r]; decide
  · rw [q, r]; decide
  · rw [q, r]; decide
  · exact absurd q h
theorem own_cl {c : Int32} (h : ¬ f1_0_r c = (-1 : Int32)) : f2_0_r (own_tabb (f1_0_r c)) = f1_0_r c := by
  rcases own_cases c with ⟨r, q⟩ | ⟨r, q⟩ | ⟨r, q⟩ | ⟨r, q⟩ | ⟨-, -, -, -, q⟩
  · rw [q]; decide
  · rw [q]; decide
  · rw [q]; decide
  · rw [q]; decide
  · exact absurd q h
theorem own_back {j : Int32} (h : ¬ j < 0 ∧ j < 4) : f1_0_r (own_taba j) = j := by
  rcases own_four h with rfl | rfl | rfl | rfl <;> decide
theorem own_forced1 (p0 p1 : Int32) : ¬ (h1_182_t0 p1 (((p1.toUInt32 >>> ((1 : Int32) &&& 31).toUInt32).toInt32) &&& (3 : Int32)) (f1_0_r (g1_59_t0 p0 p1 (((p1.toUInt32 >>> ((1 : Int32) &&& 31).toUInt32).toInt32) &&& (3 : Int32))))) = (0 : Int32) := by
  have hp := own_in3 p1
  generalize (((p1.toUInt32 >>> ((1 : Int32) &&& 31).toUInt32).toInt32) &&& (3 : Int32)) = j at *
  unfold h1_182_t0
  by_cases h : (p1 &&& (1 : Int32)) = (0 : Int32)
  · rw [if_pos h]; decide
  · rw [if_neg h]; unfold g1_59_t0; rw [if_neg h, own_back hp, if_pos rfl]; decide
theorem own_forced2 (p0 p1 : Int32) : ¬ (h2_182_t0 p1 (((p1.toUInt32 >>> ((1 : Int32) &&& 31).toUInt32).toInt32) &&& (3 : Int32)) (f1_0_r (g1_59_t0 p0 p1 (((p1.toUInt32 >>> ((1 : Int32) &&& 31).toUInt32).toInt32) &&& (3 : Int32))))) = (0 : Int32) := own_forced1 p0 p1
theorem pn_1 : plainName "com/example/whereas/whereas/TextOpensQuotePinLaw" = true := by first | (simp [plainName, overriddenIn]; done) | decide +kernel
theorem ef_rm0 (m : MethodId) (x0 : Int32) (x1 : Int32) : entryFrame m #[(.int x0), (.int x1)] maxLocals = mkF m 0 #[.val (.int x0), .val (.int x1), .unset, .unset, .unset, .unset, .unset, .unset, .unset, .unset] [] := by first | (simp [entryFrame, mkF, argsToLocals, Value.category, maxLocals]; done) | rfl
def Q_rm0 (Z : State) (p0 : Int32) (p1 : Int32) (h0 : Heap) (n0 : Nat) (v : Option Value) (h : Heap) (L : List Loc) : Prop := v = some (.int (1 : Int32)) ∧ Fr n0 L
set_option maxRecDepth 65536 in
set_option maxHeartbeats 40000000 in
theorem rm0 (l : Launch) (Z : State) (a0 : Array Value) (hw : ∀ d ∈ tables_1, d.before a0 Z = true) (ws : List Jvm.Cond) (p0 : Int32) (p1 : Int32) (h0 : Heap) (n0 : Nat) (Z0 : n0 ≤ h0.size) :
    MetFree l x (head1 (Jvm.Cond.code x code maxLocals ret :: ws) room_1) (fun a U => a = #[(.int p0), (.int p1)] ∧ Z.Warmed39 U.vm ∧ U.heap = h0) (fun _ _ _ _ _ => True) (fun _ U o U' => ∃ v L, o = .returned v ∧ Q_rm0 Z p0 p1 h0 n0 v U'.heap L ∧ FrameEnd U o U' L room_1.cells room_1.slots) := by
  refine MetFree.of_bodySF (plainFor_of_name pn_1) hisR ?_
  intro p e s m args below meth c s₁ Bd hml0 hP hK
  obtain ⟨rfl, hZ, hh⟩ := hP
  have hx := Bd.exec
  have hby := Bd.bytes
  have hml : c.maxLocals = 10 := hml0
  have hown : s.vm.findClass "com/example/whereas/whereas/TextOpensQuotePinLaw" = some m.cls := findClass_of_methodNamed Bd.named
  have hnm := (name_of_methodNamed Bd.named Bd.method).1
  have X0 : Stand p l e room_1 s m #[(.int p0), (.int p1)] below meth c s₁ [] 0 0 := Stand.of_body Bd
  have e0 : s₁.heap = h0 := by rw [← hh, Bd.state]; rfl
  have N0 := Fr.nil n0
  have c0 : ∀ t, Steps p.tables e below (s₁.setTop (mkF m 0 #[.val (.int p0), .val (.int p1), .unset, .unset, .unset, .unset, .unset, .unset, .unset, .unset] [])) t → Steps p.tables e below (s₁.setTop (entryFrame m #[(.int p0), (.int p1)] maxLocals)) t := fun t k => castTop (ef_rm0 m p0 p1) k
  have c1 : ∀ t, Steps p.tables e below (s₁.setTop (mkF m 1 #[.val (.int p0), .val (.int p1), .unset, .unset, .unset, .unset, .unset, .unset, .unset, .unset] [(.int (4 : Int32))])) t → Steps p.tables e below (s₁.setTop (entryFrame m #[(.int p0), (.int p1)] maxLocals)) t := fun t k => c0 t (by
      show Steps p.tables e below (s₁.setTop (mkF m 0 #[.val (.int p0), .val (.int p1), .unset, .unset, .unset, .unset, .unset, .unset, .unset, .unset] [])) _
      refine XS.iconst X0.here hx rfl (hb hby at_0) ?_
      exact k)
  obtain ⟨T2, h2, k2, X2, e2, E2, A2, st2⟩ := newP X0 hx hZ (hw _ (List.mem_of_getElem? (i := 0) rfl)) e0 (g := (mkF m 1 #[.val (.int p0), .val (.int p1), .unset, .unset, .unset, .unset, .unset, .unset, .unset, .unset] [(.int (4 : Int32))])) rfl (hb hby at_1) rfl (by decide) (cap := 4) (by decide) (by decide) (by decide) (by decide)
  obtain ⟨b2, g2⟩ : ∃ z, z = h0.size := ⟨_, rfl⟩
  rw [← g2] at A2 st2
  have gb2 : n0 ≤ b2 := Nat.le_trans Z0 (Nat.le_of_eq g2.symm)
  have V2 : Arv Z h2 b2 k2 .char (4 : Int32) [(.int (0 : Int32)), (.int (0 : Int32)), (.int (0 : Int32)), (.int (0 : Int32))] (.int (0 : Int32)) := (Arv.new A2 (by decide)).pad (pad_rep [] (.int (0 : Int32)) 4)
  have Z2 : n0 ≤ h2.size := Nat.le_trans Z0 E2.1
  have c3 : ∀ t, Steps p.tables e below (T2.setTop (mkF m 3 #[.val (.int p0), .val (.int p1), .unset, .unset, .unset, .unset, .unset, .unset, .unset, .unset] [(.ref b2)])) t → Steps p.tables e below (s₁.setTop (entryFrame m #[(.int p0), (.int p1)] maxLocals)) t := fun t k => c1 t (st2 t k)
  have c4 : ∀ t, Steps p.tables e below (T2.setTop (mkF m 8 #[.val (.int p0), .val (.int p1), .unset, .unset, .unset, .unset, .unset, .unset, .unset, .unset] [(.int (8220 : Int32)), (.int (0 : Int32)), (.ref b2), (.ref b2)])) t → Steps p.tables e below (s₁.setTop (entryFrame m #[(.int p0), (.int p1)] maxLocals)) t := fun t k => c3 t (by
      show Steps p.tables e below (T2.setTop (mkF m 3 #[.val (.int p0), .val (.int p1), .unset, .unset, .unset, .unset, .unset, .unset, .unset, .unset] [(.ref b2)])) _
      refine XS.dup X2.here hx rfl (hb hby at_3) rfl rfl ?_
      show Steps p.tables e below (T2.setTop (mkF m 4 #[.val (.int p0), .val (.int p1), .unset, .unset, .unset, .unset, .unset, .unset, .unset, .unset] [(.ref b2), (.ref b2)])) _
      refine XS.iconst X2.here hx rfl (hb hby at_4) ?_
      show Steps p.tables e below (T2.setTop (mkF m 5 #[.val (.int p0), .val (.int p1), .unset, .unset, .unset, .unset, .unset, .unset, .unset, .unset] [(.int (0 : Int32)), (.ref b2), (.ref b2)])) _
      refine XS.sipush X2.here hx rfl (hb hby at_5) ?_
      exact k)
  obtain ⟨T5, h5, L5, X5, e5, N5, W5, V5a, st5⟩ := own_stC X2 hx hZ e2 V2 ⟨by decide, by decide⟩ 0 rfl (Nat.le_of_ble_eq_true rfl) N0 gb2 (g := (mkF m 8 #[.val (.int p0), .val (.int p1), .unset, .unset, .unset, .unset, .unset, .unset, .unset, .unset] [(.int (8220 : Int32)), (.int (0 : Int32)), (.ref b2), (.ref b2)])) rfl rfl (hb hby at_8)
  rw [show nar .char (8220 : Int32) = (8220 : Int32) from by decide] at V5a
  have V5 : Arv Z h5 b2 k2 .char (4 : Int32) [(.int (8220 : Int32)), (.int (0 : Int32)), (.int (0 : Int32)), (.int (0 : Int32))] (.int (0 : Int32)) := V5a
  have Z5 : n0 ≤ h5.size := Nat.le_trans Z2 (Keep.of_wr W5).1
  have c6 : ∀ t, Steps p.tables e below (T5.setTop (mkF m 9 #[.val (.int p0), .val (.int p1), .unset, .unset, .unset, .unset, .unset, .unset, .unset, .unset] [(.ref b2)])) t → Steps p.tables e below (s₁.setTop (entryFrame m #[(.int p0), (.int p1)] maxLocals)) t := fun t k => c4 t (st5 t k)
  have c7 : ∀ t, Steps p.tables e below (T5.setTop (mkF m 13 #[.val (.int p0), .val (.int p1), .unset, .unset, .unset, .unset, .unset, .unset, .unset, .unset] [(.int (34 : Int32)), (.int (1 : Int32)), (.ref b2), (.ref b2)])) t → Steps p.tables e below (s₁.setTop (entryFrame m #[(.int p0), (.int p1)] maxLocals)) t := fun t k => c6 t (by
      show Steps p.tables e below (T5.setTop (mkF m 9 #[.val (.int p0), .val (.int p1), .unset, .unset, .unset, .unset, .unset, .unset, .unset, .unset] [(.ref b2)])) _
      refine XS.dup X5.here hx rfl (hb hby at_9) rfl rfl ?_
      show Steps p.tables e below (T5.setTop (mkF m 10 #[.val (.int p0), .val (.int p1), .unset, .unset, .unset, .unset, .unset, .unset, .unset, .unset] [(.ref b2), (.ref b2)])) _
      refine XS.iconst X5.here hx rfl (hb hby at_10) ?_
      show Steps p.tables e below (T5.setTop (mkF m 11 #[.val (.int p0), .val (.int p1), .unset, .unset, .unset, .unset, .unset, .unset, .unset, .unset] [(.int (1 : Int32)), (.ref b2), (.ref b2)])) _
      refine XS.bipush X5.here hx rfl (hb hby at_11) ?_
      exact k)
  obtain ⟨T8, h8, L8, X8, e8, N8, W8, V8a, st8⟩ := own_stC X5 hx hZ e5 V5 ⟨by decide, by decide⟩ 1 rfl (Nat.le_of_ble_eq_true rfl) N5 gb2 (g := (mkF m 13 #[.val (.int p0), .val (.int p1), .unset, .unset, .unset, .unset, .unset, .unset, .unset, .unset] [(.int (34 : Int32)), (.int (1 : Int32)), (.ref b2), (.ref b2)])) rfl rfl (hb hby at_13)
  rw [show nar .char (34 : Int32) = (34 : Int32) from by decide] at V8a
  have V8 : Arv Z h8 b2 k2 .char (4 : Int32) [(.int (8220 : Int32)), (.int (34 : Int32)), (.int (0 : Int32)), (.int (0 : Int32))] (.int (0 : Int32)) := V8a
  have Z8 : n0 ≤ h8.size := Nat.le_trans Z5 (Keep.of_wr W8).1
  have c9 : ∀ t, Steps p.tables e below (T8.setTop (mkF m 14 #[.val (.int p0), .val (.int p1), .unset, .unset, .unset, .unset, .unset, .unset, .unset, .unset] [(.ref b2)])) t → Steps p.tables e below (s₁.setTop (entryFrame m #[(.int p0), (.int p1)] maxLocals)) t := fun t k => c7 t (st8 t k)
  have c10 : ∀ t, Steps p.tables e below (T8.setTop (mkF m 19 #[.val (.int p0), .val (.int p1), .unset, .unset, .unset, .unset, .unset, .unset, .unset, .unset] [(.int (8216 : Int32)), (.int (2 : Int32)), (.ref b2), (.ref b2)])) t → Steps p.tables e below (s₁.setTop (entryFrame m #[(.int p0), (.int p1)] maxLocals)) t := fun t k => c9 t (by
      show Steps p.tables e below (T8.setTop (mkF m 14 #[.val (.int p0), .val (.int p1), .unset, .unset, .unset, .unset, .unset, .unset, .unset, .unset] [(.ref b2)])) _
      refine XS.dup X8.here hx rfl (hb hby at_14) rfl rfl ?_
      show Steps p.tables e below (T8.setTop (mkF m 15 #[.val (.int p0), .val (.int p1), .unset, .unset, .unset, .unset, .unset, .unset, .unset, .unset] [(.ref b2), (.ref b2)])) _
      refine XS.iconst X8.here hx rfl (hb hby at_15) ?_
      show Steps p.tables e below (T8.setTop (mkF m 16 #[.val (.int p0), .val (.int p1), .unset, .unset, .unset, .unset, .unset, .unset, .unset, .unset] [(.int (2 : Int32)), (.ref b2), (.ref b2)])) _
      refine XS.sipush X8.here hx rfl (hb hby at_16) ?_
      exact k)
  obtain ⟨T11, h11, L11, X11, e11, N11, W11, V11a, st11⟩ := own_stC X8 hx hZ e8 V8 ⟨by decide, by decide⟩ 2 rfl (Nat.le_of_ble_eq_true rfl) N8 gb2 (g := (mkF m 19 #[.val (.int p0), .val (.int p1), .unset, .unset, .unset, .unset, .unset, .unset, .unset, .unset] [(.int (8216 : Int32)), (.int (2 : Int32)), (.ref b2), (.ref b2)])) rfl rfl (hb hby at_19)
  rw [show nar .char (8216 : Int32) = (8216 : Int32) from by decide] at V11a
  have V11 : Arv Z h11 b2 k2 .char (4 : Int32) [(.int (8220 : Int32)), (.int (34 : Int32)), (.int (8216 : Int32)), (.int (0 : Int32))] (.int (0 : Int32)) := V11a
  have Z11 : n0 ≤ h11.size := Nat.le_trans Z8 (Keep.of_wr W11).1
  have c12 : ∀ t, Steps p.tables e below (T11.setTop (mkF m 20 #[.val (.int p0), .val (.int p1), .unset, .unset, .unset, .unset, .unset, .unset, .unset, .unset] [(.ref b2)])) t → Steps p.tables e below (s₁.setTop (entryFrame m #[(.int p0), (.int p1)] maxLocals)) t := fun t k => c10 t (st11 t k)
  have c13 : ∀ t, Steps p.tables e below (T11.setTop (mkF m 24 #[.val (.int p0), .val (.int p1), .unset, .unset, .unset, .unset, .unset, .unset, .unset, .unset] [(.int (96 : Int32)), (.int (3 : Int32)), (.ref b2), (.ref b2)])) t → Steps p.tables e below (s₁.setTop (entryFrame m #[(.int p0), (.int p1)] maxLocals)) t := fun t k => c12 t (by
      show Steps p.tables e below (T11.setTop (mkF m 20 #[.val (.int p0), .val (.int p1), .unset, .unset, .unset, .unset, .unset, .unset, .unset, .unset] [(.ref b2)])) _
      refine XS.dup X11.here hx rfl (hb hby at_20) rfl rfl ?_
      show Steps p.tables e below (T11.setTop (mkF m 21 #[.val (.int p0), .val (.int p1), .unset, .unset, .unset, .unset, .unset, .unset, .unset, .unset] [(.ref b2), (.ref b2)])) _
      refine XS.iconst X11.here hx rfl (hb hby at_21) ?_
      show Steps p.tables e below (T11.setTop (mkF m 22 #[.val (.int p0), .val (.int p1), .unset, .unset, .unset, .unset, .unset, .unset, .unset, .unset] [(.int (3 : Int32)), (.ref b2), (.ref b2)])) _
      refine XS.bipush X11.here hx rfl (hb hby at_22) ?_
      exact k)
  obtain ⟨T14, h14, L14, X14, e14, N14, W14, V14a, st14⟩ := own_stC X11 hx hZ e11 V11 ⟨by decide, by decide⟩ 3 rfl (Nat.le_of_ble_eq_true rfl) N11 gb2 (g := (mkF m 24 #[.val (.int p0), .val (.int p1), .unset, .unset, .unset, .unset, .unset, .unset, .unset, .unset] [(.int (96 : Int32)), (.int (3 : Int32)), (.ref b2), (.ref b2)])) rfl rfl (hb hby at_24)
  rw [show nar .char (96 : Int32) = (96 : Int32) from by decide] at V14a
  have V14 : Arv Z h14 b2 k2 .char (4 : Int32) [(.int (8220 : Int32)), (.int (34 : Int32)), (.int (8216 : Int32)), (.int (96 : Int32))] (.int (0 : Int32)) := V14a
  have Z14 : n0 ≤ h14.size := Nat.le_trans Z11 (Keep.of_wr W14).1
  have c15 : ∀ t, Steps p.tables e below (T14.setTop (mkF m 25 #[.val (.int p0), .val (.int p1), .unset, .unset, .unset, .unset, .unset, .unset, .unset, .unset] [(.ref b2)])) t → Steps p.tables e below (s₁.setTop (entryFrame m #[(.int p0), (.int p1)] maxLocals)) t := fun t k => c13 t (st14 t k)
  have c16 : ∀ t, Steps p.tables e below (T14.setTop (mkF m 27 #[.val (.int p0), .val (.int p1), .val (.ref b2), .unset, .unset, .unset, .unset, .unset, .unset, .unset] [(.int (4 : Int32))])) t → Steps p.tables e below (s₁.setTop (entryFrame m #[(.int p0), (.int p1)] maxLocals)) t := fun t k => c15 t (by
      show Steps p.tables e below (T14.setTop (mkF m 25 #[.val (.int p0), .val (.int p1), .unset, .unset, .unset, .unset, .unset, .unset, .unset, .unset] [(.ref b2)])) _
      refine XS.astoreN X14.here hx rfl (hb hby at_25) rfl rfl (l' := #[.val (.int p0), .val (.int p1), .val (.ref b2), .unset, .unset, .unset, .unset, .unset, .unset, .unset]) rfl ?_
      show Steps p.tables e below (T14.setTop (mkF m 26 #[.val (.int p0), .val (.int p1), .val (.ref b2), .unset, .unset, .unset, .unset, .unset, .unset, .unset] [])) _
      refine XS.iconst X14.here hx rfl (hb hby at_26) ?_
      exact k)
  obtain ⟨T17, h17, k17, X17, e17, E17, A17, st17⟩ := newP X14 hx hZ (hw _ (List.mem_of_getElem? (i := 0) rfl)) e14 (g := (mkF m 27 #[.val (.int p0), .val (.int p1), .val (.ref b2), .unset, .unset, .unset, .unset, .unset, .unset, .unset] [(.int (4 : Int32))])) rfl (hb hby at_27) rfl (by decide) (cap := 4) (by decide) (by decide) (by decide) (by decide)
  obtain ⟨b17, g17⟩ : ∃ z, z = h14.size := ⟨_, rfl⟩
  rw [← g17] at A17 st17
  have gb17 : n0 ≤ b17 := Nat.le_trans Z14 (Nat.le_of_eq g17.symm)
  have ne_b2_b17 : b2 ≠ b17 := Nat.ne_of_lt (Nat.lt_of_lt_of_le V14.lt (Nat.le_of_eq g17.symm))
  have V17 : Arv Z h17 b17 k17 .char (4 : Int32) [(.int (0 : Int32)), (.int (0 : Int32)), (.int (0 : Int32)), (.int (0 : Int32))] (.int (0 : Int32)) := (Arv.new A17 (by decide)).pad (pad_rep [] (.int (0 : Int32)) 4)
  have Z17 : n0 ≤ h17.size := Nat.le_trans Z14 E17.1
  have c18 : ∀ t, Steps p.tables e below (T17.setTop (mkF m 29 #[.val (.int p0), .val (.int p1), .val (.ref b2), .unset, .unset, .unset, .unset, .unset, .unset, .unset] [(.ref b17)])) t → Steps p.tables e below (s₁.setTop (entryFrame m #[(.int p0), (.int p1)] maxLocals)) t := fun t k => c16 t (st17 t k)
  have c19 : ∀ t, Steps p.tables e below (T17.setTop (mkF m 34 #[.val (.int p0), .val (.int p1), .val (.ref b2), .unset, .unset, .unset, .unset, .unset, .unset, .unset] [(.int (8221 : Int32)), (.int (0 : Int32)), (.ref b17), (.ref b17)])) t → Steps p.tables e below (s₁.setTop (entryFrame m #[(.int p0), (.int p1)] maxLocals)) t := fun t k => c18 t (by
      show Steps p.tables e below (T17.setTop (mkF m 29 #[.val (.int p0), .val (.int p1), .val (.ref b2), .unset, .unset, .unset, .unset, .unset, .unset, .unset] [(.ref b17)])) _
      refine XS.dup X17.here hx rfl (hb hby at_29) rfl rfl ?_
      show Steps p.tables e below (T17.setTop (mkF m 30 #[.val (.int p0), .val (.int p1), .val (.ref b2), .unset, .unset, .unset, .unset, .unset, .unset, .unset] [(.ref b17), (.ref b17)])) _
      refine XS.iconst X17.here hx rfl (hb hby at_30) ?_
      show Steps p.tables e below (T17.setTop (mkF m 31 #[.val (.int p0), .val (.int p1), .val (.ref b2), .unset, .unset, .unset, .unset, .unset, .unset, .unset] [(.int (0 : Int32)), (.ref b17), (.ref b17)])) _
      refine XS.sipush X17.here hx rfl (hb hby at_31) ?_
      exact k)
  obtain ⟨T20, h20, L20, X20, e20, N20, W20, V20a, st20⟩ := own_stC X17 hx hZ e17 V17 ⟨by decide, by decide⟩ 0 rfl (Nat.le_of_ble_eq_true rfl) N14 gb17 (g := (mkF m 34 #[.val (.int p0), .val (.int p1), .val (.ref b2), .unset, .unset, .unset, .unset, .unset, .unset, .unset] [(.int (8221 : Int32)), (.int (0 : Int32)), (.ref b17), (.ref b17)])) rfl rfl (hb hby at_34)
  rw [show nar .char (8221 : Int32) = (8221 : Int32) from by decide] at V20a
  have V20 : Arv Z h20 b17 k17 .char (4 : Int32) [(.int (8221 : Int32)), (.int (0 : Int32)), (.int (0 : Int32)), (.int (0 : Int32))] (.int (0 : Int32)) := V20a
  have Z20 : n0 ≤ h20.size := Nat.le_trans Z17 (Keep.of_wr W20).1
  have c21 : ∀ t, Steps p.tables e below (T20.setTop (mkF m 35 #[.val (.int p0), .val (.int p1), .val (.ref b2), .unset, .unset, .unset, .unset, .unset, .unset, .unset] [(.ref b17)])) t → Steps p.tables e below (s₁.setTop (entryFrame m #[(.int p0), (.int p1)] maxLocals)) t := fun t k => c19 t (st20 t k)
  have c22 : ∀ t, Steps p.tables e below (T20.setTop (mkF m 39 #[.val (.int p0), .val (.int p1), .val (.ref b2), .unset, .unset, .unset, .unset, .unset, .unset, .unset] [(.int (34 : Int32)), (.int (1 : Int32)), (.ref b17), (.ref b17)])) t → Steps p.tables e below (s₁.setTop (entryFrame m #[(.int p0), (.int p1)] maxLocals)) t := fun t k => c21 t (by
      show Steps p.tables e below (T20.setTop (mkF m 35 #[.val (.int p0), .val (.int p1), .val (.ref b2), .unset, .unset, .unset, .unset, .unset, .unset, .unset] [(.ref b17)])) _
      refine XS.dup X20.here hx rfl (hb hby at_35) rfl rfl ?_
      show Steps p.tables e below (T20.setTop (mkF m 36 #[.val (.int p0), .val (.int p1), .val (.ref b2), .unset, .unset, .unset, .unset, .unset, .unset, .unset] [(.ref b17), (.ref b17)])) _
      refine XS.iconst X20.here hx rfl (hb hby at_36) ?_
      show Steps p.tables e below (T20.setTop (mkF m 37 #[.val (.int p0), .val (.int p1), .val (.ref b2), .unset, .unset, .unset, .unset, .unset, .unset, .unset] [(.int (1 : Int32)), (.ref b17), (.ref b17)])) _
      refine XS.bipush X20.here hx rfl (hb hby at_37) ?_
      exact k)
  obtain ⟨T23, h23, L23, X23, e23, N23, W23, V23a, st23⟩ := own_stC X20 hx hZ e20 V20 ⟨by decide, by decide⟩ 1 rfl (Nat.le_of_ble_eq_true rfl) N20 gb17 (g := (mkF m 39 #[.val (.int p0), .val (.int p1), .val (.ref b2), .unset, .unset, .unset, .unset, .unset, .unset, .unset] [(.int (34 : Int32)), (.int (1 : Int32)), (.ref b17), (.ref b17)])) rfl rfl (hb hby at_39)
  rw [show nar .char (34 : Int32) = (34 : Int32) from by decide] at V23a
  have V23 : Arv Z h23 b17 k17 .char (4 : Int32) [(.int (8221 : Int32)), (.int (34 : Int32)), (.int (0 : Int32)), (.int (0 : Int32))] (.int (0 : Int32)) := V23a
  have Z23 : n0 ≤ h23.size := Nat.le_trans Z20 (Keep.of_wr W23).1
  have c24 : ∀ t, Steps p.tables e below (T23.setTop (mkF m 40 #[.val (.int p0), .val (.int p1), .val (.ref b2), .unset, .unset, .unset, .unset, .unset, .unset, .unset] [(.ref b17)])) t → Steps p.tables e below (s₁.setTop (entryFrame m #[(.int p0), (.int p1)] maxLocals)) t := fun t k => c22 t (st23 t k)
  have c25 : ∀ t, Steps p.tables e below (T23.setTop (mkF m 45 #[.val (.int p0), .val (.int p1), .val (.ref b2), .unset, .unset, .unset, .unset, .unset, .unset, .unset] [(.int (8217 : Int32)), (.int (2 : Int32)), (.ref b17), (.ref b17)])) t → Steps p.tables e below (s₁.setTop (entryFrame m #[(.int p0), (.int p1)] maxLocals)) t := fun t k => c24 t (by
      show Steps p.tables e below (T23.setTop (mkF m 40 #[.val (.int p0), .val (.int p1), .val (.ref b2), .unset, .unset, .unset, .unset, .unset, .unset, .unset] [(.ref b17)])) _
      refine XS.dup X23.here hx rfl (hb hby at_40) rfl rfl ?_
      show Steps p.tables e below (T23.setTop (mkF m 41 #[.val (.int p0), .val (.int p1), .val (.ref b2), .unset, .unset, .unset, .unset, .unset, .unset, .unset] [(.ref b17), (.ref b17)])) _
      refine XS.iconst X23.here hx rfl (hb hby at_41) ?_
      show Steps p.tables e below (T23.setTop (mkF m 42 #[.val (.int p0), .val (.int p1), .val (.ref b2), .unset, .unset, .unset, .unset, .unset, .unset, .unset] [(.int (2 : Int32)), (.ref b17), (.ref b17)])) _
      refine XS.sipush X23.here hx rfl (hb hby at_42) ?_
      exact k)
  obtain ⟨T26, h26, L26, X26, e26, N26, W26, V26a, st26⟩ := own_stC X23 hx hZ e23 V23 ⟨by decide, by decide⟩ 2 rfl (Nat.le_of_ble_eq_true rfl) N23 gb17 (g := (mkF m 45 #[.val (.int p0), .val (.int p1), .val (.ref b2), .unset, .unset, .unset, .unset, .unset, .unset, .unset] [(.int (8217 : Int32)), (.int (2 : Int32)), (.ref b17), (.ref b17)])) rfl rfl (hb hby at_45)
  rw [show nar .char (8217 : Int32) = (8217 : Int32) from by decide] at V26a
  have V26 : Arv Z h26 b17 k17 .char (4 : Int32) [(.int (8221 : Int32)), (.int (34 : Int32)), (.int (8217 : Int32)), (.int (0 : Int32))] (.int (0 : Int32)) := V26a
  have Z26 : n0 ≤ h26.size := Nat.le_trans Z23 (Keep.of_wr W26).1
  have c27 : ∀ t, Steps p.tables e below (T26.setTop (mkF m 46 #[.val (.int p0), .val (.int p1), .val (.ref b2), .unset, .unset, .unset, .unset, .unset, .unset, .unset] [(.ref b17)])) t → Steps p.tables e below (s₁.setTop (entryFrame m #[(.int p0), (.int p1)] maxLocals)) t := fun t k => c25 t (st26 t k)
  have c28 : ∀ t, Steps p.tables e below (T26.setTop (mkF m 50 #[.val (.int p0), .val (.int p1), .val (.ref b2), .unset, .unset, .unset, .unset, .unset, .unset, .unset] [(.int (39 : Int32)), (.int (3 : Int32)), (.ref b17), (.ref b17)])) t → Steps p.tables e below (s₁.setTop (entryFrame m #[(.int p0), (.int p1)] maxLocals)) t := fun t k => c27 t (by
      show Steps p.tables e below (T26.setTop (mkF m 46 #[.val (.int p0), .val (.int p1), .val (.ref b2), .unset, .unset, .unset, .unset, .unset, .unset, .unset] [(.ref b17)])) _
      refine XS.dup X26.here hx rfl (hb hby at_46) rfl rfl ?_
      show Steps p.tables e below (T26.setTop (mkF m 47 #[.val (.int p0), .val (.int p1), .val (.ref b2), .unset, .unset, .unset, .unset, .unset, .unset, .unset] [(.ref b17), (.ref b17)])) _
      refine XS.iconst X26.here hx rfl (hb hby at_47) ?_
      show Steps p.tables e below (T26.setTop (mkF m 48 #[.val (.int p0), .val (.int p1), .val (.ref b2), .unset, .unset, .unset, .unset, .unset, .unset, .unset] [(.int (3 : Int32)), (.ref b17), (.ref b17)])) _
      refine XS.bipush X26.here hx rfl (hb hby at_48) ?_
      exact k)
  obtain ⟨T29, h29, L29, X29, e29, N29, W29, V29a, st29⟩ := own_stC X26 hx hZ e26 V26 ⟨by decide, by decide⟩ 3 rfl (Nat.le_of_ble_eq_true rfl) N26 gb17 (g := (mkF m 50 #[.val (.int p0), .val (.int p1), .val (.ref b2), .unset, .unset, .unset, .unset, .unset, .unset, .unset] [(.int (39 : Int32)), (.int (3 : Int32)), (.ref b17), (.ref b17)])) rfl rfl (hb hby at_50)
  rw [show nar .char (39 : Int32) = (39 : Int32) from by decide] at V29a
  have V29 : Arv Z h29 b17 k17 .char (4 : Int32) [(.int (8221 : Int32)), (.int (34 : Int32)), (.int (8217 : Int32)), (.int (39 : Int32))] (.int (0 : Int32)) := V29a
  have Z29 : n0 ≤ h29.size := Nat.le_trans Z26 (Keep.of_wr W29).1
  have c30 : ∀ t, Steps p.tables e below (T29.setTop (mkF m 51 #[.val (.int p0), .val (.int p1), .val (.ref b2), .unset, .unset, .unset, .unset, .unset, .unset, .unset] [(.ref b17)])) t → Steps p.tables e below (s₁.setTop (entryFrame m #[(.int p0), (.int p1)] maxLocals)) t := fun t k => c28 t (st29 t k)
  have f31 := (((((V14.ext E17).other W20 ne_b2_b17).other W23 ne_b2_b17).other W26 ne_b2_b17).other W29 ne_b2_b17)
  have c32 : ∀ t, Steps p.tables e below (T29.setTop (mkF m 59 #[.val (.int p0), .val (.int p1), .val (.ref b2), .val (.ref b17), .val (.int (((p1.toUInt32 >>> ((1 : Int32) &&& 31).toUInt32).toInt32) &&& (3 : Int32))), .unset, .unset, .unset, .unset, .unset] [])) t → Steps p.tables e below (s₁.setTop (entryFrame m #[(.int p0), (.int p1)] maxLocals)) t := fun t k => c30 t (by
      show Steps p.tables e below (T29.setTop (mkF m 51 #[.val (.int p0), .val (.int p1), .val (.ref b2), .unset, .unset, .unset, .unset, .unset, .unset, .unset] [(.ref b17)])) _
      refine XS.astoreN X29.here hx rfl (hb hby at_51) rfl rfl (l' := #[.val (.int p0), .val (.int p1), .val (.ref b2), .val (.ref b17), .unset, .unset, .unset, .unset, .unset, .unset]) rfl ?_
      show Steps p.tables e below (T29.setTop (mkF m 52 #[.val (.int p0), .val (.int p1), .val (.ref b2), .val (.ref b17), .unset, .unset, .unset, .unset, .unset, .unset] [])) _
      refine XS.iloadN X29.here hx rfl (hb hby at_52) rfl ?_
      show Steps p.tables e below (T29.setTop (mkF m 53 #[.val (.int p0), .val (.int p1), .val (.ref b2), .val (.ref b17), .unset, .unset, .unset, .unset, .unset, .unset] [(.int p1)])) _
      refine XS.iconst X29.here hx rfl (hb hby at_53) ?_
      show Steps p.tables e below (T29.setTop (mkF m 54 #[.val (.int p0), .val (.int p1), .val (.ref b2), .val (.ref b17), .unset, .unset, .unset, .unset, .unset, .unset] [(.int (1 : Int32)), (.int p1)])) _
      refine XS.iushr X29.here hx rfl (hb hby at_54) rfl ?_
      show Steps p.tables e below (T29.setTop (mkF m 55 #[.val (.int p0), .val (.int p1), .val (.ref b2), .val (.ref b17), .unset, .unset, .unset, .unset, .unset, .unset] [(.int ((p1.toUInt32 >>> ((1 : Int32) &&& 31).toUInt32).toInt32))])) _
      refine XS.iconst X29.here hx rfl (hb hby at_55) ?_
      show Steps p.tables e below (T29.setTop (mkF m 56 #[.val (.int p0), .val (.int p1), .val (.ref b2), .val (.ref b17), .unset, .unset, .unset, .unset, .unset, .unset] [(.int (3 : Int32)), (.int ((p1.toUInt32 >>> ((1 : Int32) &&& 31).toUInt32).toInt32))])) _
      refine XS.iand X29.here hx rfl (hb hby at_56) rfl ?_
      show Steps p.tables e below (T29.setTop (mkF m 57 #[.val (.int p0), .val (.int p1), .val (.ref b2), .val (.ref b17), .unset, .unset, .unset, .unset, .unset, .unset] [(.int (((p1.toUInt32 >>> ((1 : Int32) &&& 31).toUInt32).toInt32) &&& (3 : Int32)))])) _
      refine XS.istore X29.here hx rfl (hb hby at_57) rfl (l' := #[.val (.int p0), .val (.int p1), .val (.ref b2), .val (.ref b17), .val (.int (((p1.toUInt32 >>> ((1 : Int32) &&& 31).toUInt32).toInt32) &&& (3 : Int32))), .unset, .unset, .unset, .unset, .unset]) rfl ?_
      exact k)
  have c33 : ∀ t, Steps p.tables e below (T29.setTop (mkF m 74 #[.val (.int p0), .val (.int p1), .val (.ref b2), .val (.ref b17), .val (.int (((p1.toUInt32 >>> ((1 : Int32) &&& 31).toUInt32).toInt32) &&& (3 : Int32))), .unset, .unset, .unset, .unset, .unset] [(.int (g1_59_t0 p0 p1 (((p1.toUInt32 >>> ((1 : Int32) &&& 31).toUInt32).toInt32) &&& (3 : Int32))))])) t → Steps p.tables e below (s₁.setTop (entryFrame m #[(.int p0), (.int p1)] maxLocals)) t := fun t k => c32 t (g1_59 p0 p1 b2 b17 (((p1.toUInt32 >>> ((1 : Int32) &&& 31).toUInt32).toInt32) &&& (3 : Int32)) X29 hx hZ hw hby hown e29 f31 (own_in3 p1) k)
  have c34 : ∀ t, Steps p.tables e below (T29.setTop (mkF m 78 #[.val (.int p0), .val (.int p1), .val (.ref b2), .val (.ref b17), .val (.int (((p1.toUInt32 >>> ((1 : Int32) &&& 31).toUInt32).toInt32) &&& (3 : Int32))), .val (.int (g1_59_t0 p0 p1 (((p1.toUInt32 >>> ((1 : Int32) &&& 31).toUInt32).toInt32) &&& (3 : Int32)))), .unset, .unset, .unset, .unset] [(.int (g1_59_t0 p0 p1 (((p1.toUInt32 >>> ((1 : Int32) &&& 31).toUInt32).toInt32) &&& (3 : Int32))))])) t → Steps p.tables e below (s₁.setTop (entryFrame m #[(.int p0), (.int p1)] maxLocals)) t := fun t k => c33 t (by
      show Steps p.tables e below (T29.setTop (mkF m 74 #[.val (.int p0), .val (.int p1), .val (.ref b2), .val (.ref b17), .val (.int (((p1.toUInt32 >>> ((1 : Int32) &&& 31).toUInt32).toInt32) &&& (3 : Int32))), .unset, .unset, .unset, .unset, .unset] [(.int (g1_59_t0 p0 p1 (((p1.toUInt32 >>> ((1 : Int32) &&& 31).toUInt32).toInt32) &&& (3 : Int32))))])) _
      refine XS.istore X29.here hx rfl (hb hby at_74) rfl (l' := #[.val (.int p0), .val (.int p1), .val (.ref b2), .val (.ref b17), .val (.int (((p1.toUInt32 >>> ((1 : Int32) &&& 31).toUInt32).toInt32) &&& (3 : Int32))), .val (.int (g1_59_t0 p0 p1 (((p1.toUInt32 >>> ((1 : Int32) &&& 31).toUInt32).toInt32) &&& (3 : Int32)))), .unset, .unset, .unset, .unset]) rfl ?_
      show Steps p.tables e below (T29.setTop (mkF m 76 #[.val (.int p0), .val (.int p1), .val (.ref b2), .val (.ref b17), .val (.int (((p1.toUInt32 >>> ((1 : Int32) &&& 31).toUInt32).toInt32) &&& (3 : Int32))), .val (.int (g1_59_t0 p0 p1 (((p1.toUInt32 >>> ((1 : Int32) &&& 31).toUInt32).toInt32) &&& (3 : Int32)))), .unset, .unset, .unset, .unset] [])) _
      refine XS.iload X29.here hx rfl (hb hby at_76) rfl ?_
      exact k)
  obtain ⟨_, _, ⟨T35, L35, k35, n35⟩, -, X35, ⟨Lc35, hQ35, l35, y35, z35⟩, st35⟩ := Jvm.LawKit.callS X29 hx (y := (⟨"com/example/whereas/whereas/Text", "opensQuote", "(C)I"⟩ : MethodName)) hown (mvT hZ (hw _ (List.mem_of_getElem? (i := 1) rfl))) (mvT hZ (hw _ (List.mem_of_getElem? (i := 2) rfl))) (mvT hZ (hw _ (List.mem_of_getElem? (i := 3) rfl))) (mvT hZ (hw _ (List.mem_of_getElem? (i := 4) rfl))) (by decide) (backOf (W := 0) (rm1 l Z a0 hw [] (g1_59_t0 p0 p1 (((p1.toUInt32 >>> ((1 : Int32) &&& 31).toUInt32).toInt32) &&& (3 : Int32))) h29 n0 Z29) hZ (hw _ (List.mem_of_getElem? (i := 4) rfl)) (hw _ (List.mem_of_getElem? (i := 3) rfl)) (by decide) (by decide)) (g := (mkF m 78 #[.val (.int p0), .val (.int p1), .val (.ref b2), .val (.ref b17), .val (.int (((p1.toUInt32 >>> ((1 : Int32) &&& 31).toUInt32).toInt32) &&& (3 : Int32))), .val (.int (g1_59_t0 p0 p1 (((p1.toUInt32 >>> ((1 : Int32) &&& 31).toUInt32).toInt32) &&& (3 : Int32)))), .unset, .unset, .unset, .unset] [(.int (g1_59_t0 p0 p1 (((p1.toUInt32 >>> ((1 : Int32) &&& 31).toUInt32).toInt32) &&& (3 : Int32))))])) rfl (by rw [hml]; rfl) (argsL := [(.int (g1_59_t0 p0 p1 (((p1.toUInt32 >>> ((1 : Int32) &&& 31).toUInt32).toInt32) &&& (3 : Int32))))]) (rest := []) (lenOf pd_0 rfl) rfl (by show 2 * 0 + _ ≤ _; exact Nat.le_of_eq rfl) (hb hby at_78) (fun _ _ => ⟨rfl, e29, (by decide : 2 + 0 ≤ _), (by decide : 8 + 0 ≤ _)⟩)
  dsimp only [Pt.U, Pt.locs, Pt.cells, Pt.slots] at X35 l35 y35 z35 st35 hQ35
  subst l35 y35 z35
  obtain ⟨rfl, N35q, e35⟩ := hQ35
  have N35 := Fr.app N29 N35q
  have c36 : ∀ t, Steps p.tables e below (T35.setTop (mkF m 81 #[.val (.int p0), .val (.int p1), .val (.ref b2), .val (.ref b17), .val (.int (((p1.toUInt32 >>> ((1 : Int32) &&& 31).toUInt32).toInt32) &&& (3 : Int32))), .val (.int (g1_59_t0 p0 p1 (((p1.toUInt32 >>> ((1 : Int32) &&& 31).toUInt32).toInt32) &&& (3 : Int32)))), .unset, .unset, .unset, .unset] [(.int (f1_0_r (g1_59_t0 p0 p1 (((p1.toUInt32 >>> ((1 : Int32) &&& 31).toUInt32).toInt32) &&& (3 : Int32)))))])) t → Steps p.tables e below (s₁.setTop (entryFrame m #[(.int p0), (.int p1)] maxLocals)) t := fun t k => c34 t (st35 t k)
  have c37 : ∀ t, Steps p.tables e below (T35.setTop (mkF m 83 #[.val (.int p0), .val (.int p1), .val (.ref b2), .val (.ref b17), .val (.int (((p1.toUInt32 >>> ((1 : Int32) &&& 31).toUInt32).toInt32) &&& (3 : Int32))), .val (.int (g1_59_t0 p0 p1 (((p1.toUInt32 >>> ((1 : Int32) &&& 31).toUInt32).toInt32) &&& (3 : Int32)))), .val (.int (f1_0_r (g1_59_t0 p0 p1 (((p1.toUInt32 >>> ((1 : Int32) &&& 31).toUInt32).toInt32) &&& (3 : Int32))))), .unset, .unset, .unset] [])) t → Steps p.tables e below (s₁.setTop (entryFrame m #[(.int p0), (.int p1)] maxLocals)) t := fun t k => c36 t (by
      show Steps p.tables e below (T35.setTop (mkF m 81 #[.val (.int p0), .val (.int p1), .val (.ref b2), .val (.ref b17), .val (.int (((p1.toUInt32 >>> ((1 : Int32) &&& 31).toUInt32).toInt32) &&& (3 : Int32))), .val (.int (g1_59_t0 p0 p1 (((p1.toUInt32 >>> ((1 : Int32) &&& 31).toUInt32).toInt32) &&& (3 : Int32)))), .unset, .unset, .unset, .unset] [(.int (f1_0_r (g1_59_t0 p0 p1 (((p1.toUInt32 >>> ((1 : Int32) &&& 31).toUInt32).toInt32) &&& (3 : Int32)))))])) _
      refine XS.istore X35.here hx rfl (hb hby at_81) rfl (l' := #[.val (.int p0), .val (.int p1), .val (.ref b2), .val (.ref b17), .val (.int (((p1.toUInt32 >>> ((1 : Int32) &&& 31).toUInt32).toInt32) &&& (3 : Int32))), .val (.int (g1_59_t0 p0 p1 (((p1.toUInt32 >>> ((1 : Int32) &&& 31).toUInt32).toInt32) &&& (3 : Int32)))), .val (.int (f1_0_r (g1_59_t0 p0 p1 (((p1.toUInt32 >>> ((1 : Int32) &&& 31).toUInt32).toInt32) &&& (3 : Int32))))), .unset, .unset, .unset]) rfl ?_
      exact k)
  have c38 : ∀ t, Steps p.tables e below (T35.setTop (mkF m 120 #[.val (.int p0), .val (.int p1), .val (.ref b2), .val (.ref b17), .val (.int (((p1.toUInt32 >>> ((1 : Int32) &&& 31).toUInt32).toInt32) &&& (3 : Int32))), .val (.int (g1_59_t0 p0 p1 (((p1.toUInt32 >>> ((1 : Int32) &&& 31).toUInt32).toInt32) &&& (3 : Int32)))), .val (.int (f1_0_r (g1_59_t0 p0 p1 (((p1.toUInt32 >>> ((1 : Int32) &&& 31).toUInt32).toInt32) &&& (3 : Int32))))), .unset, .unset, .unset] [(.int (g2_83_t0 (g1_59_t0 p0 p1 (((p1.toUInt32 >>> ((1 : Int32) &&& 31).toUInt32).toInt32) &&& (3 : Int32)))))])) t → Steps p.tables e below (s₁.setTop (entryFrame m #[(.int p0), (.int p1)] maxLocals)) t := fun t k => c37 t (g2_83 p0 p1 b2 b17 (((p1.toUInt32 >>> ((1 : Int32) &&& 31).toUInt32).toInt32) &&& (3 : Int32)) (g1_59_t0 p0 p1 (((p1.toUInt32 >>> ((1 : Int32) &&& 31).toUInt32).toInt32) &&& (3 : Int32))) (f1_0_r (g1_59_t0 p0 p1 (((p1.toUInt32 >>> ((1 : Int32) &&& 31).toUInt32).toInt32) &&& (3 : Int32)))) X35 hx hZ hw hby hown e35 f31 k)
  have c39 : ∀ t, Steps p.tables e below (T35.setTop (mkF m 125 #[.val (.int p0), .val (.int p1), .val (.ref b2), .val (.ref b17), .val (.int (((p1.toUInt32 >>> ((1 : Int32) &&& 31).toUInt32).toInt32) &&& (3 : Int32))), .val (.int (g1_59_t0 p0 p1 (((p1.toUInt32 >>> ((1 : Int32) &&& 31).toUInt32).toInt32) &&& (3 : Int32)))), .val (.int (f1_0_r (g1_59_t0 p0 p1 (((p1.toUInt32 >>> ((1 : Int32) &&& 31).toUInt32).toInt32) &&& (3 : Int32))))), .val (.int (g2_83_t0 (g1_59_t0 p0 p1 (((p1.toUInt32 >>> ((1 : Int32) &&& 31).toUInt32).toInt32) &&& (3 : Int32))))), .unset, .unset] [(.int (-1 : Int32)), (.int (f1_0_r (g1_59_t0 p0 p1 (((p1.toUInt32 >>> ((1 : Int32) &&& 31).toUInt32).toInt32) &&& (3 : Int32)))))])) t → Steps p.tables e below (s₁.setTop (entryFrame m #[(.int p0), (.int p1)] maxLocals)) t := fun t k => c38 t (by
      show Steps p.tables e below (T35.setTop (mkF m 120 #[.val (.int p0), .val (.int p1), .val (.ref b2), .val (.ref b17), .val (.int (((p1.toUInt32 >>> ((1 : Int32) &&& 31).toUInt32).toInt32) &&& (3 : Int32))), .val (.int (g1_59_t0 p0 p1 (((p1.toUInt32 >>> ((1 : Int32) &&& 31).toUInt32).toInt32) &&& (3 : Int32)))), .val (.int (f1_0_r (g1_59_t0 p0 p1 (((p1.toUInt32 >>> ((1 : Int32) &&& 31).toUInt32).toInt32) &&& (3 : Int32))))), .unset, .unset, .unset] [(.int (g2_83_t0 (g1_59_t0 p0 p1 (((p1.toUInt32 >>> ((1 : Int32) &&& 31).toUInt32).toInt32) &&& (3 : Int32)))))])) _
      refine XS.istore X35.here hx rfl (hb hby at_120) rfl (l' := #[.val (.int p0), .val (.int p1), .val (.ref b2), .val (.ref b17), .val (.int (((p1.toUInt32 >>> ((1 : Int32) &&& 31).toUInt32).toInt32) &&& (3 : Int32))), .val (.int (g1_59_t0 p0 p1 (((p1.toUInt32 >>> ((1 : Int32) &&& 31).toUInt32).toInt32) &&& (3 : Int32)))), .val (.int (f1_0_r (g1_59_t0 p0 p1 (((p1.toUInt32 >>> ((1 : Int32) &&& 31).toUInt32).toInt32) &&& (3 : Int32))))), .val (.int (g2_83_t0 (g1_59_t0 p0 p1 (((p1.toUInt32 >>> ((1 : Int32) &&& 31).toUInt32).toInt32) &&& (3 : Int32))))), .unset, .unset]) rfl ?_
      show Steps p.tables e below (T35.setTop (mkF m 122 #[.val (.int p0), .val (.int p1), .val (.ref b2), .val (.ref b17), .val (.int (((p1.toUInt32 >>> ((1 : Int32) &&& 31).toUInt32).toInt32) &&& (3 : Int32))), .val (.int (g1_59_t0 p0 p1 (((p1.toUInt32 >>> ((1 : Int32) &&& 31).toUInt32).toInt32) &&& (3 : Int32)))), .val (.int (f1_0_r (g1_59_t0 p0 p1 (((p1.toUInt32 >>> ((1 : Int32) &&& 31).toUInt32).toInt32) &&& (3 : Int32))))), .val (.int (g2_83_t0 (g1_59_t0 p0 p1 (((p1.toUInt32 >>> ((1 : Int32) &&& 31).toUInt32).toInt32) &&& (3 : Int32))))), .unset, .unset] [])) _
      refine XS.iload X35.here hx rfl (hb hby at_122) rfl ?_
      show Steps p.tables e below (T35.setTop (mkF m 124 #[.val (.int p0), .val (.int p1), .val (.ref b2), .val (.ref b17), .val (.int (((p1.toUInt32 >>> ((1 : Int32) &&& 31).toUInt32).toInt32) &&& (3 : Int32))), .val (.int (g1_59_t0 p0 p1 (((p1.toUInt32 >>> ((1 : Int32) &&& 31).toUInt32).toInt32) &&& (3 : Int32)))), .val (.int (f1_0_r (g1_59_t0 p0 p1 (((p1.toUInt32 >>> ((1 : Int32) &&& 31).toUInt32).toInt32) &&& (3 : Int32))))), .val (.int (g2_83_t0 (g1_59_t0 p0 p1 (((p1.toUInt32 >>> ((1 : Int32) &&& 31).toUInt32).toInt32) &&& (3 : Int32))))), .unset, .unset] [(.int (f1_0_r (g1_59_t0 p0 p1 (((p1.toUInt32 >>> ((1 : Int32) &&& 31).toUInt32).toInt32) &&& (3 : Int32)))))])) _
      refine XS.iconst X35.here hx rfl (hb hby at_124) ?_
      exact k)
  by_cases hr1 : (f1_0_r (g1_59_t0 p0 p1 (((p1.toUInt32 >>> ((1 : Int32) &&& 31).toUInt32).toInt32) &&& (3 : Int32)))) = (-1 : Int32)
  · have c40 : ∀ t, Steps p.tables e below (T35.setTop (mkF m 182 #[.val (.int p0), .val (.int p1), .val (.ref b2), .val (.ref b17), .val (.int (((p1.toUInt32 >>> ((1 : Int32) &&& 31).toUInt32).toInt32) &&& (3 : Int32))), .val (.int (g1_59_t0 p0 p1 (((p1.toUInt32 >>> ((1 : Int32) &&& 31).toUInt32).toInt32) &&& (3 : Int32)))), .val (.int (f1_0_r (g1_59_t0 p0 p1 (((p1.toUInt32 >>> ((1 : Int32) &&& 31).toUInt32).toInt32) &&& (3 : Int32))))), .val (.int (g2_83_t0 (g1_59_t0 p0 p1 (((p1.toUInt32 >>> ((1 : Int32) &&& 31).toUInt32).toInt32) &&& (3 : Int32))))), .val (.int (1 : Int32)), .unset] [])) t → Steps p.tables e below (s₁.setTop (entryFrame m #[(.int p0), (.int p1)] maxLocals)) t := fun t k => c39 t (by
        show Steps p.tables e below (T35.setTop (mkF m 125 #[.val (.int p0), .val (.int p1), .val (.ref b2), .val (.ref b17), .val (.int (((p1.toUInt32 >>> ((1 : Int32) &&& 31).toUInt32).toInt32) &&& (3 : Int32))), .val (.int (g1_59_t0 p0 p1 (((p1.toUInt32 >>> ((1 : Int32) &&& 31).toUInt32).toInt32) &&& (3 : Int32)))), .val (.int (f1_0_r (g1_59_t0 p0 p1 (((p1.toUInt32 >>> ((1 : Int32) &&& 31).toUInt32).toInt32) &&& (3 : Int32))))), .val (.int (g2_83_t0 (g1_59_t0 p0 p1 (((p1.toUInt32 >>> ((1 : Int32) &&& 31).toUInt32).toInt32) &&& (3 : Int32))))), .unset, .unset] [(.int (-1 : Int32)), (.int (f1_0_r (g1_59_t0 p0 p1 (((p1.toUInt32 >>> ((1 : Int32) &&& 31).toUInt32).toInt32) &&& (3 : Int32)))))])) _
        refine XS.icmpNo X35.here hx rfl (hb hby at_125) rfl (teq hr1).2 ?_
        show Steps p.tables e below (T35.setTop (mkF m 128 #[.val (.int p0), .val (.int p1), .val (.ref b2), .val (.ref b17), .val (.int (((p1.toUInt32 >>> ((1 : Int32) &&& 31).toUInt32).toInt32) &&& (3 : Int32))), .val (.int (g1_59_t0 p0 p1 (((p1.toUInt32 >>> ((1 : Int32) &&& 31).toUInt32).toInt32) &&& (3 : Int32)))), .val (.int (f1_0_r (g1_59_t0 p0 p1 (((p1.toUInt32 >>> ((1 : Int32) &&& 31).toUInt32).toInt32) &&& (3 : Int32))))), .val (.int (g2_83_t0 (g1_59_t0 p0 p1 (((p1.toUInt32 >>> ((1 : Int32) &&& 31).toUInt32).toInt32) &&& (3 : Int32))))), .unset, .unset] [])) _
        refine XS.iload X35.here hx rfl (hb hby at_128) rfl ?_
        show Steps p.tables e below (T35.setTop (mkF m 130 #[.val (.int p0), .val (.int p1), .val (.ref b2), .val (.ref b17), .val (.int (((p1.toUInt32 >>> ((1 : Int32) &&& 31).toUInt32).toInt32) &&& (3 : Int32))), .val (.int (g1_59_t0 p0 p1 (((p1.toUInt32 >>> ((1 : Int32) &&& 31).toUInt32).toInt32) &&& (3 : Int32)))), .val (.int (f1_0_r (g1_59_t0 p0 p1 (((p1.toUInt32 >>> ((1 : Int32) &&& 31).toUInt32).toInt32) &&& (3 : Int32))))), .val (.int (g2_83_t0 (g1_59_t0 p0 p1 (((p1.toUInt32 >>> ((1 : Int32) &&& 31).toUInt32).toInt32) &&& (3 : Int32))))), .unset, .unset] [(.int (g2_83_t0 (g1_59_t0 p0 p1 (((p1.toUInt32 >>> ((1 : Int32) &&& 31).toUInt32).toInt32) &&& (3 : Int32)))))])) _
        refine XS.ifNo X35.here hx rfl (hb hby at_130) rfl ((if0 _ _).trans (teq (own_iso hr1)).2) ?_
        show Steps p.tables e below (T35.setTop (mkF m 133 #[.val (.int p0), .val (.int p1), .val (.ref b2), .val (.ref b17), .val (.int (((p1.toUInt32 >>> ((1 : Int32) &&& 31).toUInt32).toInt32) &&& (3 : Int32))), .val (.int (g1_59_t0 p0 p1 (((p1.toUInt32 >>> ((1 : Int32) &&& 31).toUInt32).toInt32) &&& (3 : Int32)))), .val (.int (f1_0_r (g1_59_t0 p0 p1 (((p1.toUInt32 >>> ((1 : Int32) &&& 31).toUInt32).toInt32) &&& (3 : Int32))))), .val (.int (g2_83_t0 (g1_59_t0 p0 p1 (((p1.toUInt32 >>> ((1 : Int32) &&& 31).toUInt32).toInt32) &&& (3 : Int32))))), .unset, .unset] [])) _
        refine XS.iconst X35.here hx rfl (hb hby at_133) ?_
        show Steps p.tables e below (T35.setTop (mkF m 134 #[.val (.int p0), .val (.int p1), .val (.ref b2), .val (.ref b17), .val (.int (((p1.toUInt32 >>> ((1 : Int32) &&& 31).toUInt32).toInt32) &&& (3 : Int32))), .val (.int (g1_59_t0 p0 p1 (((p1.toUInt32 >>> ((1 : Int32) &&& 31).toUInt32).toInt32) &&& (3 : Int32)))), .val (.int (f1_0_r (g1_59_t0 p0 p1 (((p1.toUInt32 >>> ((1 : Int32) &&& 31).toUInt32).toInt32) &&& (3 : Int32))))), .val (.int (g2_83_t0 (g1_59_t0 p0 p1 (((p1.toUInt32 >>> ((1 : Int32) &&& 31).toUInt32).toInt32) &&& (3 : Int32))))), .unset, .unset] [(.int (1 : Int32))])) _
        refine XS.goto X35.here hx rfl (pc0 := 134) (pc' := 138) rfl (hb hby at_134) (by decide) (by decide) ?_
        show Steps p.tables e below (T35.setTop (mkF m 138 #[.val (.int p0), .val (.int p1), .val (.ref b2), .val (.ref b17), .val (.int (((p1.toUInt32 >>> ((1 : Int32) &&& 31).toUInt32).toInt32) &&& (3 : Int32))), .val (.int (g1_59_t0 p0 p1 (((p1.toUInt32 >>> ((1 : Int32) &&& 31).toUInt32).toInt32) &&& (3 : Int32)))), .val (.int (f1_0_r (g1_59_t0 p0 p1 (((p1.toUInt32 >>> ((1 : Int32) &&& 31).toUInt32).toInt32) &&& (3 : Int32))))), .val (.int (g2_83_t0 (g1_59_t0 p0 p1 (((p1.toUInt32 >>> ((1 : Int32) &&& 31).toUInt32).toInt32) &&& (3 : Int32))))), .unset, .unset] [(.int (1 : Int32))])) _
        refine XS.istore X35.here hx rfl (hb hby at_138) rfl (l' := #[.val (.int p0), .val (.int p1), .val (.ref b2), .val (.ref b17), .val (.int (((p1.toUInt32 >>> ((1 : Int32) &&& 31).toUInt32).toInt32) &&& (3 : Int32))), .val (.int (g1_59_t0 p0 p1 (((p1.toUInt32 >>> ((1 : Int32) &&& 31).toUInt32).toInt32) &&& (3 : Int32)))), .val (.int (f1_0_r (g1_59_t0 p0 p1 (((p1.toUInt32 >>> ((1 : Int32) &&& 31).toUInt32).toInt32) &&& (3 : Int32))))), .val (.int (g2_83_t0 (g1_59_t0 p0 p1 (((p1.toUInt32 >>> ((1 : Int32) &&& 31).toUInt32).toInt32) &&& (3 : Int32))))), .val (.int (1 : Int32)), .unset]) rfl ?_
        show Steps p.tables e below (T35.setTop (mkF m 140 #[.val (.int p0), .val (.int p1), .val (.ref b2), .val (.ref b17), .val (.int (((p1.toUInt32 >>> ((1 : Int32) &&& 31).toUInt32).toInt32) &&& (3 : Int32))), .val (.int (g1_59_t0 p0 p1 (((p1.toUInt32 >>> ((1 : Int32) &&& 31).toUInt32).toInt32) &&& (3 : Int32)))), .val (.int (f1_0_r (g1_59_t0 p0 p1 (((p1.toUInt32 >>> ((1 : Int32) &&& 31).toUInt32).toInt32) &&& (3 : Int32))))), .val (.int (g2_83_t0 (g1_59_t0 p0 p1 (((p1.toUInt32 >>> ((1 : Int32) &&& 31).toUInt32).toInt32) &&& (3 : Int32))))), .val (.int (1 : Int32)), .unset] [])) _
        refine XS.goto X35.here hx rfl (pc0 := 140) (pc' := 182) rfl (hb hby at_140) (by decide) (by decide) ?_
        exact k)
    have c41 : ∀ t, Steps p.tables e below (T35.setTop (mkF m 200 #[.val (.int p0), .val (.int p1), .val (.ref b2), .val (.ref b17), .val (.int (((p1.toUInt32 >>> ((1 : Int32) &&& 31).toUInt32).toInt32) &&& (3 : Int32))), .val (.int (g1_59_t0 p0 p1 (((p1.toUInt32 >>> ((1 : Int32) &&& 31).toUInt32).toInt32) &&& (3 : Int32)))), .val (.int (f1_0_r (g1_59_t0 p0 p1 (((p1.toUInt32 >>> ((1 : Int32) &&& 31).toUInt32).toInt32) &&& (3 : Int32))))), .val (.int (g2_83_t0 (g1_59_t0 p0 p1 (((p1.toUInt32 >>> ((1 : Int32) &&& 31).toUInt32).toInt32) &&& (3 : Int32))))), .val (.int (1 : Int32)), .unset] [(.int (h1_182_t0 p1 (((p1.toUInt32 >>> ((1 : Int32) &&& 31).toUInt32).toInt32) &&& (3 : Int32)) (f1_0_r (g1_59_t0 p0 p1 (((p1.toUInt32 >>> ((1 : Int32) &&& 31).toUInt32).toInt32) &&& (3 : Int32))))))])) t → Steps p.tables e below (s₁.setTop (entryFrame m #[(.int p0), (.int p1)] maxLocals)) t := fun t k => c40 t (h1_182 p0 p1 b2 b17 (((p1.toUInt32 >>> ((1 : Int32) &&& 31).toUInt32).toInt32) &&& (3 : Int32)) (g1_59_t0 p0 p1 (((p1.toUInt32 >>> ((1 : Int32) &&& 31).toUInt32).toInt32) &&& (3 : Int32))) (f1_0_r (g1_59_t0 p0 p1 (((p1.toUInt32 >>> ((1 : Int32) &&& 31).toUInt32).toInt32) &&& (3 : Int32)))) (g2_83_t0 (g1_59_t0 p0 p1 (((p1.toUInt32 >>> ((1 : Int32) &&& 31).toUInt32).toInt32) &&& (3 : Int32)))) (1 : Int32) X35 hx hZ hw hby hown k)
    have c42 : ∀ t, Steps p.tables e below (T35.setTop (mkF m 217 #[.val (.int p0), .val (.int p1), .val (.ref b2), .val (.ref b17), .val (.int (((p1.toUInt32 >>> ((1 : Int32) &&& 31).toUInt32).toInt32) &&& (3 : Int32))), .val (.int (g1_59_t0 p0 p1 (((p1.toUInt32 >>> ((1 : Int32) &&& 31).toUInt32).toInt32) &&& (3 : Int32)))), .val (.int (f1_0_r (g1_59_t0 p0 p1 (((p1.toUInt32 >>> ((1 : Int32) &&& 31).toUInt32).toInt32) &&& (3 : Int32))))), .val (.int (g2_83_t0 (g1_59_t0 p0 p1 (((p1.toUInt32 >>> ((1 : Int32) &&& 31).toUInt32).toInt32) &&& (3 : Int32))))), .val (.int (1 : Int32)), .val (.int (h1_182_t0 p1 (((p1.toUInt32 >>> ((1 : Int32) &&& 31).toUInt32).toInt32) &&& (3 : Int32)) (f1_0_r (g1_59_t0 p0 p1 (((p1.toUInt32 >>> ((1 : Int32) &&& 31).toUInt32).toInt32) &&& (3 : Int32))))))] [(.int (1 : Int32))])) t → Steps p.tables e below (s₁.setTop (entryFrame m #[(.int p0), (.int p1)] maxLocals)) t := fun t k => c41 t (by
        show Steps p.tables e below (T35.setTop (mkF m 200 #[.val (.int p0), .val (.int p1), .val (.ref b2), .val (.ref b17), .val (.int (((p1.toUInt32 >>> ((1 : Int32) &&& 31).toUInt32).toInt32) &&& (3 : Int32))), .val (.int (g1_59_t0 p0 p1 (((p1.toUInt32 >>> ((1 : Int32) &&& 31).toUInt32).toInt32) &&& (3 : Int32)))), .val (.int (f1_0_r (g1_59_t0 p0 p1 (((p1.toUInt32 >>> ((1 : Int32) &&& 31).toUInt32).toInt32) &&& (3 : Int32))))), .val (.int (g2_83_t0 (g1_59_t0 p0 p1 (((p1.toUInt32 >>> ((1 : Int32) &&& 31).toUInt32).toInt32) &&& (3 : Int32))))), .val (.int (1 : Int32)), .unset] [(.int (h1_182_t0 p1 (((p1.toUInt32 >>> ((1 : Int32) &&& 31).toUInt32).toInt32) &&& (3 : Int32)) (f1_0_r (g1_59_t0 p0 p1 (((p1.toUInt32 >>> ((1 : Int32) &&& 31).toUInt32).toInt32) &&& (3 : Int32))))))])) _
        refine XS.istore X35.here hx rfl (hb hby at_200) rfl (l' := #[.val (.int p0), .val (.int p1), .val (.ref b2), .val (.ref b17), .val (.int (((p1.toUInt32 >>> ((1 : Int32) &&& 31).toUInt32).toInt32) &&& (3 : Int32))), .val (.int (g1_59_t0 p0 p1 (((p1.toUInt32 >>> ((1 : Int32) &&& 31).toUInt32).toInt32) &&& (3 : Int32)))), .val (.int (f1_0_r (g1_59_t0 p0 p1 (((p1.toUInt32 >>> ((1 : Int32) &&& 31).toUInt32).toInt32) &&& (3 : Int32))))), .val (.int (g2_83_t0 (g1_59_t0 p0 p1 (((p1.toUInt32 >>> ((1 : Int32) &&& 31).toUInt32).toInt32) &&& (3 : Int32))))), .val (.int (1 : Int32)), .val (.int (h1_182_t0 p1 (((p1.toUInt32 >>> ((1 : Int32) &&& 31).toUInt32).toInt32) &&& (3 : Int32)) (f1_0_r (g1_59_t0 p0 p1 (((p1.toUInt32 >>> ((1 : Int32) &&& 31).toUInt32).toInt32) &&& (3 : Int32))))))]) rfl ?_
        show Steps p.tables e below (T35.setTop (mkF m 202 #[.val (.int p0), .val (.int p1), .val (.ref b2), .val (.ref b17), .val (.int (((p1.toUInt32 >>> ((1 : Int32) &&& 31).toUInt32).toInt32) &&& (3 : Int32))), .val (.int (g1_59_t0 p0 p1 (((p1.toUInt32 >>> ((1 : Int32) &&& 31).toUInt32).toInt32) &&& (3 : Int32)))), .val (.int (f1_0_r (g1_59_t0 p0 p1 (((p1.toUInt32 >>> ((1 : Int32) &&& 31).toUInt32).toInt32) &&& (3 : Int32))))), .val (.int (g2_83_t0 (g1_59_t0 p0 p1 (((p1.toUInt32 >>> ((1 : Int32) &&& 31).toUInt32).toInt32) &&& (3 : Int32))))), .val (.int (1 : Int32)), .val (.int (h1_182_t0 p1 (((p1.toUInt32 >>> ((1 : Int32) &&& 31).toUInt32).toInt32) &&& (3 : Int32)) (f1_0_r (g1_59_t0 p0 p1 (((p1.toUInt32 >>> ((1 : Int32) &&& 31).toUInt32).toInt32) &&& (3 : Int32))))))] [])) _
        refine XS.iload X35.here hx rfl (hb hby at_202) rfl ?_
        show Steps p.tables e below (T35.setTop (mkF m 204 #[.val (.int p0), .val (.int p1), .val (.ref b2), .val (.ref b17), .val (.int (((p1.toUInt32 >>> ((1 : Int32) &&& 31).toUInt32).toInt32) &&& (3 : Int32))), .val (.int (g1_59_t0 p0 p1 (((p1.toUInt32 >>> ((1 : Int32) &&& 31).toUInt32).toInt32) &&& (3 : Int32)))), .val (.int (f1_0_r (g1_59_t0 p0 p1 (((p1.toUInt32 >>> ((1 : Int32) &&& 31).toUInt32).toInt32) &&& (3 : Int32))))), .val (.int (g2_83_t0 (g1_59_t0 p0 p1 (((p1.toUInt32 >>> ((1 : Int32) &&& 31).toUInt32).toInt32) &&& (3 : Int32))))), .val (.int (1 : Int32)), .val (.int (h1_182_t0 p1 (((p1.toUInt32 >>> ((1 : Int32) &&& 31).toUInt32).toInt32) &&& (3 : Int32)) (f1_0_r (g1_59_t0 p0 p1 (((p1.toUInt32 >>> ((1 : Int32) &&& 31).toUInt32).toInt32) &&& (3 : Int32))))))] [(.int (1 : Int32))])) _
        refine XS.ifNo X35.here hx rfl (hb hby at_204) rfl ((if0 _ _).trans (feq (by decide)).1) ?_
        show Steps p.tables e below (T35.setTop (mkF m 207 #[.val (.int p0), .val (.int p1), .val (.ref b2), .val (.ref b17), .val (.int (((p1.toUInt32 >>> ((1 : Int32) &&& 31).toUInt32).toInt32) &&& (3 : Int32))), .val (.int (g1_59_t0 p0 p1 (((p1.toUInt32 >>> ((1 : Int32) &&& 31).toUInt32).toInt32) &&& (3 : Int32)))), .val (.int (f1_0_r (g1_59_t0 p0 p1 (((p1.toUInt32 >>> ((1 : Int32) &&& 31).toUInt32).toInt32) &&& (3 : Int32))))), .val (.int (g2_83_t0 (g1_59_t0 p0 p1 (((p1.toUInt32 >>> ((1 : Int32) &&& 31).toUInt32).toInt32) &&& (3 : Int32))))), .val (.int (1 : Int32)), .val (.int (h1_182_t0 p1 (((p1.toUInt32 >>> ((1 : Int32) &&& 31).toUInt32).toInt32) &&& (3 : Int32)) (f1_0_r (g1_59_t0 p0 p1 (((p1.toUInt32 >>> ((1 : Int32) &&& 31).toUInt32).toInt32) &&& (3 : Int32))))))] [])) _
        refine XS.iload X35.here hx rfl (hb hby at_207) rfl ?_
        show Steps p.tables e below (T35.setTop (mkF m 209 #[.val (.int p0), .val (.int p1), .val (.ref b2), .val (.ref b17), .val (.int (((p1.toUInt32 >>> ((1 : Int32) &&& 31).toUInt32).toInt32) &&& (3 : Int32))), .val (.int (g1_59_t0 p0 p1 (((p1.toUInt32 >>> ((1 : Int32) &&& 31).toUInt32).toInt32) &&& (3 : Int32)))), .val (.int (f1_0_r (g1_59_t0 p0 p1 (((p1.toUInt32 >>> ((1 : Int32) &&& 31).toUInt32).toInt32) &&& (3 : Int32))))), .val (.int (g2_83_t0 (g1_59_t0 p0 p1 (((p1.toUInt32 >>> ((1 : Int32) &&& 31).toUInt32).toInt32) &&& (3 : Int32))))), .val (.int (1 : Int32)), .val (.int (h1_182_t0 p1 (((p1.toUInt32 >>> ((1 : Int32) &&& 31).toUInt32).toInt32) &&& (3 : Int32)) (f1_0_r (g1_59_t0 p0 p1 (((p1.toUInt32 >>> ((1 : Int32) &&& 31).toUInt32).toInt32) &&& (3 : Int32))))))] [(.int (h1_182_t0 p1 (((p1.toUInt32 >>> ((1 : Int32) &&& 31).toUInt32).toInt32) &&& (3 : Int32)) (f1_0_r (g1_59_t0 p0 p1 (((p1.toUInt32 >>> ((1 : Int32) &&& 31).toUInt32).toInt32) &&& (3 : Int32))))))])) _
        refine XS.ifNo X35.here hx rfl (hb hby at_209) rfl ((if0 _ _).trans (feq (own_forced1 p0 p1)).1) ?_
        show Steps p.tables e below (T35.setTop (mkF m 212 #[.val (.int p0), .val (.int p1), .val (.ref b2), .val (.ref b17), .val (.int (((p1.toUInt32 >>> ((1 : Int32) &&& 31).toUInt32).toInt32) &&& (3 : Int32))), .val (.int (g1_59_t0 p0 p1 (((p1.toUInt32 >>> ((1 : Int32) &&& 31).toUInt32).toInt32) &&& (3 : Int32)))), .val (.int (f1_0_r (g1_59_t0 p0 p1 (((p1.toUInt32 >>> ((1 : Int32) &&& 31).toUInt32).toInt32) &&& (3 : Int32))))), .val (.int (g2_83_t0 (g1_59_t0 p0 p1 (((p1.toUInt32 >>> ((1 : Int32) &&& 31).toUInt32).toInt32) &&& (3 : Int32))))), .val (.int (1 : Int32)), .val (.int (h1_182_t0 p1 (((p1.toUInt32 >>> ((1 : Int32) &&& 31).toUInt32).toInt32) &&& (3 : Int32)) (f1_0_r (g1_59_t0 p0 p1 (((p1.toUInt32 >>> ((1 : Int32) &&& 31).toUInt32).toInt32) &&& (3 : Int32))))))] [])) _
        refine XS.iconst X35.here hx rfl (hb hby at_212) ?_
        show Steps p.tables e below (T35.setTop (mkF m 213 #[.val (.int p0), .val (.int p1), .val (.ref b2), .val (.ref b17), .val (.int (((p1.toUInt32 >>> ((1 : Int32) &&& 31).toUInt32).toInt32) &&& (3 : Int32))), .val (.int (g1_59_t0 p0 p1 (((p1.toUInt32 >>> ((1 : Int32) &&& 31).toUInt32).toInt32) &&& (3 : Int32)))), .val (.int (f1_0_r (g1_59_t0 p0 p1 (((p1.toUInt32 >>> ((1 : Int32) &&& 31).toUInt32).toInt32) &&& (3 : Int32))))), .val (.int (g2_83_t0 (g1_59_t0 p0 p1 (((p1.toUInt32 >>> ((1 : Int32) &&& 31).toUInt32).toInt32) &&& (3 : Int32))))), .val (.int (1 : Int32)), .val (.int (h1_182_t0 p1 (((p1.toUInt32 >>> ((1 : Int32) &&& 31).toUInt32).toInt32) &&& (3 : Int32)) (f1_0_r (g1_59_t0 p0 p1 (((p1.toUInt32 >>> ((1 : Int32) &&& 31).toUInt32).toInt32) &&& (3 : Int32))))))] [(.int (1 : Int32))])) _
        refine XS.goto X35.here hx rfl (pc0 := 213) (pc' := 217) rfl (hb hby at_213) (by decide) (by decide) ?_
        exact k)
    obtain ⟨fs, hr, hrun, hended, hW, hsame⟩ := X35.leave (v := some (.int (1 : Int32))) (fun h => by rw [Bd.returns] at h; cases h)
    refine ⟨_, _, c42 _ (retN X35 hx (t := .boolean) Bd.returns (by simp) (hb hby at_217) hr), hrun, hended, _, _, rfl, ?_, ⟨_, rfl⟩, hW, hsame.mono (by decide) (by decide)⟩
    show Q_rm0 Z p0 p1 h0 n0 _ T35.heap _
    rw [e35]
    exact ⟨rfl, N35⟩
  · have c40 : ∀ t, Steps p.tables e below (T35.setTop (mkF m 157 #[.val (.int p0), .val (.int p1), .val (.ref b2), .val (.ref b17), .val (.int (((p1.toUInt32 >>> ((1 : Int32) &&& 31).toUInt32).toInt32) &&& (3 : Int32))), .val (.int (g1_59_t0 p0 p1 (((p1.toUInt32 >>> ((1 : Int32) &&& 31).toUInt32).toInt32) &&& (3 : Int32)))), .val (.int (f1_0_r (g1_59_t0 p0 p1 (((p1.toUInt32 >>> ((1 : Int32) &&& 31).toUInt32).toInt32) &&& (3 : Int32))))), .val (.int (g2_83_t0 (g1_59_t0 p0 p1 (((p1.toUInt32 >>> ((1 : Int32) &&& 31).toUInt32).toInt32) &&& (3 : Int32))))), .unset, .unset] [(.int (f1_0_r (g1_59_t0 p0 p1 (((p1.toUInt32 >>> ((1 : Int32) &&& 31).toUInt32).toInt32) &&& (3 : Int32))))), (.ref b2)])) t → Steps p.tables e below (s₁.setTop (entryFrame m #[(.int p0), (.int p1)] maxLocals)) t := fun t k => c39 t (by
        show Steps p.tables e below (T35.setTop (mkF m 125 #[.val (.int p0), .val (.int p1), .val (.ref b2), .val (.ref b17), .val (.int (((p1.toUInt32 >>> ((1 : Int32) &&& 31).toUInt32).toInt32) &&& (3 : Int32))), .val (.int (g1_59_t0 p0 p1 (((p1.toUInt32 >>> ((1 : Int32) &&& 31).toUInt32).toInt32) &&& (3 : Int32)))), .val (.int (f1_0_r (g1_59_t0 p0 p1 (((p1.toUInt32 >>> ((1 : Int32) &&& 31).toUInt32).toInt32) &&& (3 : Int32))))), .val (.int (g2_83_t0 (g1_59_t0 p0 p1 (((p1.toUInt32 >>> ((1 : Int32) &&& 31).toUInt32).toInt32) &&& (3 : Int32))))), .unset, .unset] [(.int (-1 : Int32)), (.int (f1_0_r (g1_59_t0 p0 p1 (((p1.toUInt32 >>> ((1 : Int32) &&& 31).toUInt32).toInt32) &&& (3 : Int32)))))])) _
        refine XS.icmpYes X35.here hx rfl (pc0 := 125) (pc' := 143) rfl (hb hby at_125) rfl (feq hr1).2 (by decide) (by decide) ?_
        show Steps p.tables e below (T35.setTop (mkF m 143 #[.val (.int p0), .val (.int p1), .val (.ref b2), .val (.ref b17), .val (.int (((p1.toUInt32 >>> ((1 : Int32) &&& 31).toUInt32).toInt32) &&& (3 : Int32))), .val (.int (g1_59_t0 p0 p1 (((p1.toUInt32 >>> ((1 : Int32) &&& 31).toUInt32).toInt32) &&& (3 : Int32)))), .val (.int (f1_0_r (g1_59_t0 p0 p1 (((p1.toUInt32 >>> ((1 : Int32) &&& 31).toUInt32).toInt32) &&& (3 : Int32))))), .val (.int (g2_83_t0 (g1_59_t0 p0 p1 (((p1.toUInt32 >>> ((1 : Int32) &&& 31).toUInt32).toInt32) &&& (3 : Int32))))), .unset, .unset] [])) _
        refine XS.iload X35.here hx rfl (hb hby at_143) rfl ?_
        show Steps p.tables e below (T35.setTop (mkF m 145 #[.val (.int p0), .val (.int p1), .val (.ref b2), .val (.ref b17), .val (.int (((p1.toUInt32 >>> ((1 : Int32) &&& 31).toUInt32).toInt32) &&& (3 : Int32))), .val (.int (g1_59_t0 p0 p1 (((p1.toUInt32 >>> ((1 : Int32) &&& 31).toUInt32).toInt32) &&& (3 : Int32)))), .val (.int (f1_0_r (g1_59_t0 p0 p1 (((p1.toUInt32 >>> ((1 : Int32) &&& 31).toUInt32).toInt32) &&& (3 : Int32))))), .val (.int (g2_83_t0 (g1_59_t0 p0 p1 (((p1.toUInt32 >>> ((1 : Int32) &&& 31).toUInt32).toInt32) &&& (3 : Int32))))), .unset, .unset] [(.int (f1_0_r (g1_59_t0 p0 p1 (((p1.toUInt32 >>> ((1 : Int32) &&& 31).toUInt32).toInt32) &&& (3 : Int32)))))])) _
        refine XS.ifNo X35.here hx rfl (hb hby at_145) rfl ((if0 _ _).trans (flt (own_r0 hr1).1).1) ?_
        show Steps p.tables e below (T35.setTop (mkF m 148 #[.val (.int p0), .val (.int p1), .val (.ref b2), .val (.ref b17), .val (.int (((p1.toUInt32 >>> ((1 : Int32) &&& 31).toUInt32).toInt32) &&& (3 : Int32))), .val (.int (g1_59_t0 p0 p1 (((p1.toUInt32 >>> ((1 : Int32) &&& 31).toUInt32).toInt32) &&& (3 : Int32)))), .val (.int (f1_0_r (g1_59_t0 p0 p1 (((p1.toUInt32 >>> ((1 : Int32) &&& 31).toUInt32).toInt32) &&& (3 : Int32))))), .val (.int (g2_83_t0 (g1_59_t0 p0 p1 (((p1.toUInt32 >>> ((1 : Int32) &&& 31).toUInt32).toInt32) &&& (3 : Int32))))), .unset, .unset] [])) _
        refine XS.iload X35.here hx rfl (hb hby at_148) rfl ?_
        show Steps p.tables e below (T35.setTop (mkF m 150 #[.val (.int p0), .val (.int p1), .val (.ref b2), .val (.ref b17), .val (.int (((p1.toUInt32 >>> ((1 : Int32) &&& 31).toUInt32).toInt32) &&& (3 : Int32))), .val (.int (g1_59_t0 p0 p1 (((p1.toUInt32 >>> ((1 : Int32) &&& 31).toUInt32).toInt32) &&& (3 : Int32)))), .val (.int (f1_0_r (g1_59_t0 p0 p1 (((p1.toUInt32 >>> ((1 : Int32) &&& 31).toUInt32).toInt32) &&& (3 : Int32))))), .val (.int (g2_83_t0 (g1_59_t0 p0 p1 (((p1.toUInt32 >>> ((1 : Int32) &&& 31).toUInt32).toInt32) &&& (3 : Int32))))), .unset, .unset] [(.int (f1_0_r (g1_59_t0 p0 p1 (((p1.toUInt32 >>> ((1 : Int32) &&& 31).toUInt32).toInt32) &&& (3 : Int32)))))])) _
        refine XS.iconst X35.here hx rfl (hb hby at_150) ?_
        show Steps p.tables e below (T35.setTop (mkF m 151 #[.val (.int p0), .val (.int p1), .val (.ref b2), .val (.ref b17), .val (.int (((p1.toUInt32 >>> ((1 : Int32) &&& 31).toUInt32).toInt32) &&& (3 : Int32))), .val (.int (g1_59_t0 p0 p1 (((p1.toUInt32 >>> ((1 : Int32) &&& 31).toUInt32).toInt32) &&& (3 : Int32)))), .val (.int (f1_0_r (g1_59_t0 p0 p1 (((p1.toUInt32 >>> ((1 : Int32) &&& 31).toUInt32).toInt32) &&& (3 : Int32))))), .val (.int (g2_83_t0 (g1_59_t0 p0 p1 (((p1.toUInt32 >>> ((1 : Int32) &&& 31).toUInt32).toInt32) &&& (3 : Int32))))), .unset, .unset] [(.int (4 : Int32)), (.int (f1_0_r (g1_59_t0 p0 p1 (((p1.toUInt32 >>> ((1 : Int32) &&& 31).toUInt32).toInt32) &&& (3 : Int32)))))])) _
        refine XS.icmpNo X35.here hx rfl (hb hby at_151) rfl (tlt (own_r0 hr1).2).2.1 ?_
        show Steps p.tables e below (T35.setTop (mkF m 154 #[.val (.int p0), .val (.int p1), .val (.ref b2), .val (.ref b17), .val (.int (((p1.toUInt32 >>> ((1 : Int32) &&& 31).toUInt32).toInt32) &&& (3 : Int32))), .val (.int (g1_59_t0 p0 p1 (((p1.toUInt32 >>> ((1 : Int32) &&& 31).toUInt32).toInt32) &&& (3 : Int32)))), .val (.int (f1_0_r (g1_59_t0 p0 p1 (((p1.toUInt32 >>> ((1 : Int32) &&& 31).toUInt32).toInt32) &&& (3 : Int32))))), .val (.int (g2_83_t0 (g1_59_t0 p0 p1 (((p1.toUInt32 >>> ((1 : Int32) &&& 31).toUInt32).toInt32) &&& (3 : Int32))))), .unset, .unset] [])) _
        refine XS.aloadN X35.here hx rfl (hb hby at_154) rfl rfl ?_
        show Steps p.tables e below (T35.setTop (mkF m 155 #[.val (.int p0), .val (.int p1), .val (.ref b2), .val (.ref b17), .val (.int (((p1.toUInt32 >>> ((1 : Int32) &&& 31).toUInt32).toInt32) &&& (3 : Int32))), .val (.int (g1_59_t0 p0 p1 (((p1.toUInt32 >>> ((1 : Int32) &&& 31).toUInt32).toInt32) &&& (3 : Int32)))), .val (.int (f1_0_r (g1_59_t0 p0 p1 (((p1.toUInt32 >>> ((1 : Int32) &&& 31).toUInt32).toInt32) &&& (3 : Int32))))), .val (.int (g2_83_t0 (g1_59_t0 p0 p1 (((p1.toUInt32 >>> ((1 : Int32) &&& 31).toUInt32).toInt32) &&& (3 : Int32))))), .unset, .unset] [(.ref b2)])) _
        refine XS.iload X35.here hx rfl (hb hby at_155) rfl ?_
        exact k)
    have c41 : ∀ t, Steps p.tables e below (T35.setTop (mkF m 158 #[.val (.int p0), .val (.int p1), .val (.ref b2), .val (.ref b17), .val (.int (((p1.toUInt32 >>> ((1 : Int32) &&& 31).toUInt32).toInt32) &&& (3 : Int32))), .val (.int (g1_59_t0 p0 p1 (((p1.toUInt32 >>> ((1 : Int32) &&& 31).toUInt32).toInt32) &&& (3 : Int32)))), .val (.int (f1_0_r (g1_59_t0 p0 p1 (((p1.toUInt32 >>> ((1 : Int32) &&& 31).toUInt32).toInt32) &&& (3 : Int32))))), .val (.int (g2_83_t0 (g1_59_t0 p0 p1 (((p1.toUInt32 >>> ((1 : Int32) &&& 31).toUInt32).toInt32) &&& (3 : Int32))))), .unset, .unset] [(.int (own_taba (f1_0_r (g1_59_t0 p0 p1 (((p1.toUInt32 >>> ((1 : Int32) &&& 31).toUInt32).toInt32) &&& (3 : Int32))))))])) t → Steps p.tables e below (s₁.setTop (entryFrame m #[(.int p0), (.int p1)] maxLocals)) t := fun t k => c40 t (own_caload X35 hx hZ e35 f31 (j := (f1_0_r (g1_59_t0 p0 p1 (((p1.toUInt32 >>> ((1 : Int32) &&& 31).toUInt32).toInt32) &&& (3 : Int32))))) (own_r0 hr1) (v := (.int (own_taba (f1_0_r (g1_59_t0 p0 p1 (((p1.toUInt32 >>> ((1 : Int32) &&& 31).toUInt32).toInt32) &&& (3 : Int32))))))) (own_taba_at (own_r0 hr1)) (g := (mkF m 157 #[.val (.int p0), .val (.int p1), .val (.ref b2), .val (.ref b17), .val (.int (((p1.toUInt32 >>> ((1 : Int32) &&& 31).toUInt32).toInt32) &&& (3 : Int32))), .val (.int (g1_59_t0 p0 p1 (((p1.toUInt32 >>> ((1 : Int32) &&& 31).toUInt32).toInt32) &&& (3 : Int32)))), .val (.int (f1_0_r (g1_59_t0 p0 p1 (((p1.toUInt32 >>> ((1 : Int32) &&& 31).toUInt32).toInt32) &&& (3 : Int32))))), .val (.int (g2_83_t0 (g1_59_t0 p0 p1 (((p1.toUInt32 >>> ((1 : Int32) &&& 31).toUInt32).toInt32) &&& (3 : Int32))))), .unset, .unset] [(.int (f1_0_r (g1_59_t0 p0 p1 (((p1.toUInt32 >>> ((1 : Int32) &&& 31).toUInt32).toInt32) &&& (3 : Int32))))), (.ref b2)])) rfl rfl (hb hby at_157) _ k)
    have c42 : ∀ t, Steps p.tables e below (T35.setTop (mkF m 166 #[.val (.int p0), .val (.int p1), .val (.ref b2), .val (.ref b17), .val (.int (((p1.toUInt32 >>> ((1 : Int32) &&& 31).toUInt32).toInt32) &&& (3 : Int32))), .val (.int (g1_59_t0 p0 p1 (((p1.toUInt32 >>> ((1 : Int32) &&& 31).toUInt32).toInt32) &&& (3 : Int32)))), .val (.int (f1_0_r (g1_59_t0 p0 p1 (((p1.toUInt32 >>> ((1 : Int32) &&& 31).toUInt32).toInt32) &&& (3 : Int32))))), .val (.int (g2_83_t0 (g1_59_t0 p0 p1 (((p1.toUInt32 >>> ((1 : Int32) &&& 31).toUInt32).toInt32) &&& (3 : Int32))))), .unset, .unset] [(.int (f1_0_r (g1_59_t0 p0 p1 (((p1.toUInt32 >>> ((1 : Int32) &&& 31).toUInt32).toInt32) &&& (3 : Int32))))), (.ref b17)])) t → Steps p.tables e below (s₁.setTop (entryFrame m #[(.int p0), (.int p1)] maxLocals)) t := fun t k => c41 t (by
        show Steps p.tables e below (T35.setTop (mkF m 158 #[.val (.int p0), .val (.int p1), .val (.ref b2), .val (.ref b17), .val (.int (((p1.toUInt32 >>> ((1 : Int32) &&& 31).toUInt32).toInt32) &&& (3 : Int32))), .val (.int (g1_59_t0 p0 p1 (((p1.toUInt32 >>> ((1 : Int32) &&& 31).toUInt32).toInt32) &&& (3 : Int32)))), .val (.int (f1_0_r (g1_59_t0 p0 p1 (((p1.toUInt32 >>> ((1 : Int32) &&& 31).toUInt32).toInt32) &&& (3 : Int32))))), .val (.int (g2_83_t0 (g1_59_t0 p0 p1 (((p1.toUInt32 >>> ((1 : Int32) &&& 31).toUInt32).toInt32) &&& (3 : Int32))))), .unset, .unset] [(.int (own_taba (f1_0_r (g1_59_t0 p0 p1 (((p1.toUInt32 >>> ((1 : Int32) &&& 31).toUInt32).toInt32) &&& (3 : Int32))))))])) _
        refine XS.iload X35.here hx rfl (hb hby at_158) rfl ?_
        show Steps p.tables e below (T35.setTop (mkF m 160 #[.val (.int p0), .val (.int p1), .val (.ref b2), .val (.ref b17), .val (.int (((p1.toUInt32 >>> ((1 : Int32) &&& 31).toUInt32).toInt32) &&& (3 : Int32))), .val (.int (g1_59_t0 p0 p1 (((p1.toUInt32 >>> ((1 : Int32) &&& 31).toUInt32).toInt32) &&& (3 : Int32)))), .val (.int (f1_0_r (g1_59_t0 p0 p1 (((p1.toUInt32 >>> ((1 : Int32) &&& 31).toUInt32).toInt32) &&& (3 : Int32))))), .val (.int (g2_83_t0 (g1_59_t0 p0 p1 (((p1.toUInt32 >>> ((1 : Int32) &&& 31).toUInt32).toInt32) &&& (3 : Int32))))), .unset, .unset] [(.int (g1_59_t0 p0 p1 (((p1.toUInt32 >>> ((1 : Int32) &&& 31).toUInt32).toInt32) &&& (3 : Int32)))), (.int (own_taba (f1_0_r (g1_59_t0 p0 p1 (((p1.toUInt32 >>> ((1 : Int32) &&& 31).toUInt32).toInt32) &&& (3 : Int32))))))])) _
        refine XS.icmpNo X35.here hx rfl (hb hby at_160) rfl (teq (own_rc hr1)).2 ?_
        show Steps p.tables e below (T35.setTop (mkF m 163 #[.val (.int p0), .val (.int p1), .val (.ref b2), .val (.ref b17), .val (.int (((p1.toUInt32 >>> ((1 : Int32) &&& 31).toUInt32).toInt32) &&& (3 : Int32))), .val (.int (g1_59_t0 p0 p1 (((p1.toUInt32 >>> ((1 : Int32) &&& 31).toUInt32).toInt32) &&& (3 : Int32)))), .val (.int (f1_0_r (g1_59_t0 p0 p1 (((p1.toUInt32 >>> ((1 : Int32) &&& 31).toUInt32).toInt32) &&& (3 : Int32))))), .val (.int (g2_83_t0 (g1_59_t0 p0 p1 (((p1.toUInt32 >>> ((1 : Int32) &&& 31).toUInt32).toInt32) &&& (3 : Int32))))), .unset, .unset] [])) _
        refine XS.aloadN X35.here hx rfl (hb hby at_163) rfl rfl ?_
        show Steps p.tables e below (T35.setTop (mkF m 164 #[.val (.int p0), .val (.int p1), .val (.ref b2), .val (.ref b17), .val (.int (((p1.toUInt32 >>> ((1 : Int32) &&& 31).toUInt32).toInt32) &&& (3 : Int32))), .val (.int (g1_59_t0 p0 p1 (((p1.toUInt32 >>> ((1 : Int32) &&& 31).toUInt32).toInt32) &&& (3 : Int32)))), .val (.int (f1_0_r (g1_59_t0 p0 p1 (((p1.toUInt32 >>> ((1 : Int32) &&& 31).toUInt32).toInt32) &&& (3 : Int32))))), .val (.int (g2_83_t0 (g1_59_t0 p0 p1 (((p1.toUInt32 >>> ((1 : Int32) &&& 31).toUInt32).toInt32) &&& (3 : Int32))))), .unset, .unset] [(.ref b17)])) _
        refine XS.iload X35.here hx rfl (hb hby at_164) rfl ?_
        exact k)
    have c43 : ∀ t, Steps p.tables e below (T35.setTop (mkF m 167 #[.val (.int p0), .val (.int p1), .val (.ref b2), .val (.ref b17), .val (.int (((p1.toUInt32 >>> ((1 : Int32) &&& 31).toUInt32).toInt32) &&& (3 : Int32))), .val (.int (g1_59_t0 p0 p1 (((p1.toUInt32 >>> ((1 : Int32) &&& 31).toUInt32).toInt32) &&& (3 : Int32)))), .val (.int (f1_0_r (g1_59_t0 p0 p1 (((p1.toUInt32 >>> ((1 : Int32) &&& 31).toUInt32).toInt32) &&& (3 : Int32))))), .val (.int (g2_83_t0 (g1_59_t0 p0 p1 (((p1.toUInt32 >>> ((1 : Int32) &&& 31).toUInt32).toInt32) &&& (3 : Int32))))), .unset, .unset] [(.int (own_tabb (f1_0_r (g1_59_t0 p0 p1 (((p1.toUInt32 >>> ((1 : Int32) &&& 31).toUInt32).toInt32) &&& (3 : Int32))))))])) t → Steps p.tables e below (s₁.setTop (entryFrame m #[(.int p0), (.int p1)] maxLocals)) t := fun t k => c42 t (own_caload X35 hx hZ e35 V29 (j := (f1_0_r (g1_59_t0 p0 p1 (((p1.toUInt32 >>> ((1 : Int32) &&& 31).toUInt32).toInt32) &&& (3 : Int32))))) (own_r0 hr1) (v := (.int (own_tabb (f1_0_r (g1_59_t0 p0 p1 (((p1.toUInt32 >>> ((1 : Int32) &&& 31).toUInt32).toInt32) &&& (3 : Int32))))))) (own_tabb_at (own_r0 hr1)) (g := (mkF m 166 #[.val (.int p0), .val (.int p1), .val (.ref b2), .val (.ref b17), .val (.int (((p1.toUInt32 >>> ((1 : Int32) &&& 31).toUInt32).toInt32) &&& (3 : Int32))), .val (.int (g1_59_t0 p0 p1 (((p1.toUInt32 >>> ((1 : Int32) &&& 31).toUInt32).toInt32) &&& (3 : Int32)))), .val (.int (f1_0_r (g1_59_t0 p0 p1 (((p1.toUInt32 >>> ((1 : Int32) &&& 31).toUInt32).toInt32) &&& (3 : Int32))))), .val (.int (g2_83_t0 (g1_59_t0 p0 p1 (((p1.toUInt32 >>> ((1 : Int32) &&& 31).toUInt32).toInt32) &&& (3 : Int32))))), .unset, .unset] [(.int (f1_0_r (g1_59_t0 p0 p1 (((p1.toUInt32 >>> ((1 : Int32) &&& 31).toUInt32).toInt32) &&& (3 : Int32))))), (.ref b17)])) rfl rfl (hb hby at_166) _ k)
    obtain ⟨_, _, ⟨T44, L44, k44, n44⟩, -, X44, ⟨Lc44, hQ44, l44, y44, z44⟩, st44⟩ := Jvm.LawKit.callS X35 hx (y := (⟨"com/example/whereas/whereas/Text", "closesQuote", "(C)I"⟩ : MethodName)) hown (mvT hZ (hw _ (List.mem_of_getElem? (i := 5) rfl))) (mvT hZ (hw _ (List.mem_of_getElem? (i := 6) rfl))) (mvT hZ (hw _ (List.mem_of_getElem? (i := 3) rfl))) (mvT hZ (hw _ (List.mem_of_getElem? (i := 7) rfl))) (by decide) (backOf (W := 0) (rm2 l Z a0 hw [] (own_tabb (f1_0_r (g1_59_t0 p0 p1 (((p1.toUInt32 >>> ((1 : Int32) &&& 31).toUInt32).toInt32) &&& (3 : Int32))))) h29 n0 Z29) hZ (hw _ (List.mem_of_getElem? (i := 7) rfl)) (hw _ (List.mem_of_getElem? (i := 3) rfl)) (by decide) (by decide)) (g := (mkF m 167 #[.val (.int p0), .val (.int p1), .val (.ref b2), .val (.ref b17), .val (.int (((p1.toUInt32 >>> ((1 : Int32) &&& 31).toUInt32).toInt32) &&& (3 : Int32))), .val (.int (g1_59_t0 p0 p1 (((p1.toUInt32 >>> ((1 : Int32) &&& 31).toUInt32).toInt32) &&& (3 : Int32)))), .val (.int (f1_0_r (g1_59_t0 p0 p1 (((p1.toUInt32 >>> ((1 : Int32) &&& 31).toUInt32).toInt32) &&& (3 : Int32))))), .val (.int (g2_83_t0 (g1_59_t0 p0 p1 (((p1.toUInt32 >>> ((1 : Int32) &&& 31).toUInt32).toInt32) &&& (3 : Int32))))), .unset, .unset] [(.int (own_tabb (f1_0_r (g1_59_t0 p0 p1 (((p1.toUInt32 >>> ((1 : Int32) &&& 31).toUInt32).toInt32) &&& (3 : Int32))))))])) rfl (by rw [hml]; rfl) (argsL := [(.int (own_tabb (f1_0_r (g1_59_t0 p0 p1 (((p1.toUInt32 >>> ((1 : Int32) &&& 31).toUInt32).toInt32) &&& (3 : Int32))))))]) (rest := []) (lenOf pd_0 rfl) rfl (by show 2 * 0 + _ ≤ _; exact Nat.le_of_eq rfl) (hb hby at_167) (fun _ _ => ⟨rfl, e35, (by decide : 2 + 0 ≤ _), (by decide : 8 + 0 ≤ _)⟩)
    dsimp only [Pt.U, Pt.locs, Pt.cells, Pt.slots] at X44 l44 y44 z44 st44 hQ44
    subst l44 y44 z44
    obtain ⟨rfl, N44q, e44⟩ := hQ44
    have N44 := Fr.app N35 N44q
    have c45 : ∀ t, Steps p.tables e below (T44.setTop (mkF m 170 #[.val (.int p0), .val (.int p1), .val (.ref b2), .val (.ref b17), .val (.int (((p1.toUInt32 >>> ((1 : Int32) &&& 31).toUInt32).toInt32) &&& (3 : Int32))), .val (.int (g1_59_t0 p0 p1 (((p1.toUInt32 >>> ((1 : Int32) &&& 31).toUInt32).toInt32) &&& (3 : Int32)))), .val (.int (f1_0_r (g1_59_t0 p0 p1 (((p1.toUInt32 >>> ((1 : Int32) &&& 31).toUInt32).toInt32) &&& (3 : Int32))))), .val (.int (g2_83_t0 (g1_59_t0 p0 p1 (((p1.toUInt32 >>> ((1 : Int32) &&& 31).toUInt32).toInt32) &&& (3 : Int32))))), .unset, .unset] [(.int (f2_0_r (own_tabb (f1_0_r (g1_59_t0 p0 p1 (((p1.toUInt32 >>> ((1 : Int32) &&& 31).toUInt32).toInt32) &&& (3 : Int32)))))))])) t → Steps p.tables e below (s₁.setTop (entryFrame m #[(.int p0), (.int p1)] maxLocals)) t := fun t k => c43 t (st44 t k)
    have c46 : ∀ t, Steps p.tables e below (T44.setTop (mkF m 182 #[.val (.int p0), .val (.int p1), .val (.ref b2), .val (.ref b17), .val (.int (((p1.toUInt32 >>> ((1 : Int32) &&& 31).toUInt32).toInt32) &&& (3 : Int32))), .val (.int (g1_59_t0 p0 p1 (((p1.toUInt32 >>> ((1 : Int32) &&& 31).toUInt32).toInt32) &&& (3 : Int32)))), .val (.int (f1_0_r (g1_59_t0 p0 p1 (((p1.toUInt32 >>> ((1 : Int32) &&& 31).toUInt32).toInt32) &&& (3 : Int32))))), .val (.int (g2_83_t0 (g1_59_t0 p0 p1 (((p1.toUInt32 >>> ((1 : Int32) &&& 31).toUInt32).toInt32) &&& (3 : Int32))))), .val (.int (1 : Int32)), .unset] [])) t → Steps p.tables e below (s₁.setTop (entryFrame m #[(.int p0), (.int p1)] maxLocals)) t := fun t k => c45 t (by
        show Steps p.tables e below (T44.setTop (mkF m 170 #[.val (.int p0), .val (.int p1), .val (.ref b2), .val (.ref b17), .val (.int (((p1.toUInt32 >>> ((1 : Int32) &&& 31).toUInt32).toInt32) &&& (3 : Int32))), .val (.int (g1_59_t0 p0 p1 (((p1.toUInt32 >>> ((1 : Int32) &&& 31).toUInt32).toInt32) &&& (3 : Int32)))), .val (.int (f1_0_r (g1_59_t0 p0 p1 (((p1.toUInt32 >>> ((1 : Int32) &&& 31).toUInt32).toInt32) &&& (3 : Int32))))), .val (.int (g2_83_t0 (g1_59_t0 p0 p1 (((p1.toUInt32 >>> ((1 : Int32) &&& 31).toUInt32).toInt32) &&& (3 : Int32))))), .unset, .unset] [(.int (f2_0_r (own_tabb (f1_0_r (g1_59_t0 p0 p1 (((p1.toUInt32 >>> ((1 : Int32) &&& 31).toUInt32).toInt32) &&& (3 : Int32)))))))])) _
        refine XS.iload X44.here hx rfl (hb hby at_170) rfl ?_
        show Steps p.tables e below (T44.setTop (mkF m 172 #[.val (.int p0), .val (.int p1), .val (.ref b2), .val (.ref b17), .val (.int (((p1.toUInt32 >>> ((1 : Int32) &&& 31).toUInt32).toInt32) &&& (3 : Int32))), .val (.int (g1_59_t0 p0 p1 (((p1.toUInt32 >>> ((1 : Int32) &&& 31).toUInt32).toInt32) &&& (3 : Int32)))), .val (.int (f1_0_r (g1_59_t0 p0 p1 (((p1.toUInt32 >>> ((1 : Int32) &&& 31).toUInt32).toInt32) &&& (3 : Int32))))), .val (.int (g2_83_t0 (g1_59_t0 p0 p1 (((p1.toUInt32 >>> ((1 : Int32) &&& 31).toUInt32).toInt32) &&& (3 : Int32))))), .unset, .unset] [(.int (f1_0_r (g1_59_t0 p0 p1 (((p1.toUInt32 >>> ((1 : Int32) &&& 31).toUInt32).toInt32) &&& (3 : Int32))))), (.int (f2_0_r (own_tabb (f1_0_r (g1_59_t0 p0 p1 (((p1.toUInt32 >>> ((1 : Int32) &&& 31).toUInt32).toInt32) &&& (3 : Int32)))))))])) _
        refine XS.icmpNo X44.here hx rfl (hb hby at_172) rfl (teq (own_cl hr1)).2 ?_
        show Steps p.tables e below (T44.setTop (mkF m 175 #[.val (.int p0), .val (.int p1), .val (.ref b2), .val (.ref b17), .val (.int (((p1.toUInt32 >>> ((1 : Int32) &&& 31).toUInt32).toInt32) &&& (3 : Int32))), .val (.int (g1_59_t0 p0 p1 (((p1.toUInt32 >>> ((1 : Int32) &&& 31).toUInt32).toInt32) &&& (3 : Int32)))), .val (.int (f1_0_r (g1_59_t0 p0 p1 (((p1.toUInt32 >>> ((1 : Int32) &&& 31).toUInt32).toInt32) &&& (3 : Int32))))), .val (.int (g2_83_t0 (g1_59_t0 p0 p1 (((p1.toUInt32 >>> ((1 : Int32) &&& 31).toUInt32).toInt32) &&& (3 : Int32))))), .unset, .unset] [])) _
        refine XS.iconst X44.here hx rfl (hb hby at_175) ?_
        show Steps p.tables e below (T44.setTop (mkF m 176 #[.val (.int p0), .val (.int p1), .val (.ref b2), .val (.ref b17), .val (.int (((p1.toUInt32 >>> ((1 : Int32) &&& 31).toUInt32).toInt32) &&& (3 : Int32))), .val (.int (g1_59_t0 p0 p1 (((p1.toUInt32 >>> ((1 : Int32) &&& 31).toUInt32).toInt32) &&& (3 : Int32)))), .val (.int (f1_0_r (g1_59_t0 p0 p1 (((p1.toUInt32 >>> ((1 : Int32) &&& 31).toUInt32).toInt32) &&& (3 : Int32))))), .val (.int (g2_83_t0 (g1_59_t0 p0 p1 (((p1.toUInt32 >>> ((1 : Int32) &&& 31).toUInt32).toInt32) &&& (3 : Int32))))), .unset, .unset] [(.int (1 : Int32))])) _
        refine XS.goto X44.here hx rfl (pc0 := 176) (pc' := 180) rfl (hb hby at_176) (by decide) (by decide) ?_
        show Steps p.tables e below (T44.setTop (mkF m 180 #[.val (.int p0), .val (.int p1), .val (.ref b2), .val (.ref b17), .val (.int (((p1.toUInt32 >>> ((1 : Int32) &&& 31).toUInt32).toInt32) &&& (3 : Int32))), .val (.int (g1_59_t0 p0 p1 (((p1.toUInt32 >>> ((1 : Int32) &&& 31).toUInt32).toInt32) &&& (3 : Int32)))), .val (.int (f1_0_r (g1_59_t0 p0 p1 (((p1.toUInt32 >>> ((1 : Int32) &&& 31).toUInt32).toInt32) &&& (3 : Int32))))), .val (.int (g2_83_t0 (g1_59_t0 p0 p1 (((p1.toUInt32 >>> ((1 : Int32) &&& 31).toUInt32).toInt32) &&& (3 : Int32))))), .unset, .unset] [(.int (1 : Int32))])) _
        refine XS.istore X44.here hx rfl (hb hby at_180) rfl (l' := #[.val (.int p0), .val (.int p1), .val (.ref b2), .val (.ref b17), .val (.int (((p1.toUInt32 >>> ((1 : Int32) &&& 31).toUInt32).toInt32) &&& (3 : Int32))), .val (.int (g1_59_t0 p0 p1 (((p1.toUInt32 >>> ((1 : Int32) &&& 31).toUInt32).toInt32) &&& (3 : Int32)))), .val (.int (f1_0_r (g1_59_t0 p0 p1 (((p1.toUInt32 >>> ((1 : Int32) &&& 31).toUInt32).toInt32) &&& (3 : Int32))))), .val (.int (g2_83_t0 (g1_59_t0 p0 p1 (((p1.toUInt32 >>> ((1 : Int32) &&& 31).toUInt32).toInt32) &&& (3 : Int32))))), .val (.int (1 : Int32)), .unset]) rfl ?_
        exact k)
    have c47 : ∀ t, Steps p.tables e below (T44.setTop (mkF m 200 #[.val (.int p0), .val (.int p1), .val (.ref b2), .val (.ref b17), .val (.int (((p1.toUInt32 >>> ((1 : Int32) &&& 31).toUInt32).toInt32) &&& (3 : Int32))), .val (.int (g1_59_t0 p0 p1 (((p1.toUInt32 >>> ((1 : Int32) &&& 31).toUInt32).toInt32) &&& (3 : Int32)))), .val (.int (f1_0_r (g1_59_t0 p0 p1 (((p1.toUInt32 >>> ((1 : Int32) &&& 31).toUInt32).toInt32) &&& (3 : Int32))))), .val (.int (g2_83_t0 (g1_59_t0 p0 p1 (((p1.toUInt32 >>> ((1 : Int32) &&& 31).toUInt32).toInt32) &&& (3 : Int32))))), .val (.int (1 : Int32)), .unset] [(.int (h2_182_t0 p1 (((p1.toUInt32 >>> ((1 : Int32) &&& 31).toUInt32).toInt32) &&& (3 : Int32)) (f1_0_r (g1_59_t0 p0 p1 (((p1.toUInt32 >>> ((1 : Int32) &&& 31).toUInt32).toInt32) &&& (3 : Int32))))))])) t → Steps p.tables e below (s₁.setTop (entryFrame m #[(.int p0), (.int p1)] maxLocals)) t := fun t k => c46 t (h2_182 p0 p1 b2 b17 (((p1.toUInt32 >>> ((1 : Int32) &&& 31).toUInt32).toInt32) &&& (3 : Int32)) (g1_59_t0 p0 p1 (((p1.toUInt32 >>> ((1 : Int32) &&& 31).toUInt32).toInt32) &&& (3 : Int32))) (f1_0_r (g1_59_t0 p0 p1 (((p1.toUInt32 >>> ((1 : Int32) &&& 31).toUInt32).toInt32) &&& (3 : Int32)))) (g2_83_t0 (g1_59_t0 p0 p1 (((p1.toUInt32 >>> ((1 : Int32) &&& 31).toUInt32).toInt32) &&& (3 : Int32)))) (1 : Int32) X44 hx hZ hw hby hown k)
    have c48 : ∀ t, Steps p.tables e below (T44.setTop (mkF m 217 #[.val (.int p0), .val (.int p1), .val (.ref b2), .val (.ref b17), .val (.int (((p1.toUInt32 >>> ((1 : Int32) &&& 31).toUInt32).toInt32) &&& (3 : Int32))), .val (.int (g1_59_t0 p0 p1 (((p1.toUInt32 >>> ((1 : Int32) &&& 31).toUInt32).toInt32) &&& (3 : Int32)))), .val (.int (f1_0_r (g1_59_t0 p0 p1 (((p1.toUInt32 >>> ((1 : Int32) &&& 31).toUInt32).toInt32) &&& (3 : Int32))))), .val (.int (g2_83_t0 (g1_59_t0 p0 p1 (((p1.toUInt32 >>> ((1 : Int32) &&& 31).toUInt32).toInt32) &&& (3 : Int32))))), .val (.int (1 : Int32)), .val (.int (h2_182_t0 p1 (((p1.toUInt32 >>> ((1 : Int32) &&& 31).toUInt32).toInt32) &&& (3 : Int32)) (f1_0_r (g1_59_t0 p0 p1 (((p1.toUInt32 >>> ((1 : Int32) &&& 31).toUInt32).toInt32) &&& (3 : Int32))))))] [(.int (1 : Int32))])) t → Steps p.tables e below (s₁.setTop (entryFrame m #[(.int p0), (.int p1)] maxLocals)) t := fun t k => c47 t (by
        show Steps p.tables e below (T44.setTop (mkF m 200 #[.val (.int p0), .val (.int p1), .val (.ref b2), .val (.ref b17), .val (.int (((p1.toUInt32 >>> ((1 : Int32) &&& 31).toUInt32).toInt32) &&& (3 : Int32))), .val (.int (g1_59_t0 p0 p1 (((p1.toUInt32 >>> ((1 : Int32) &&& 31).toUInt32).toInt32) &&& (3 : Int32)))), .val (.int (f1_0_r (g1_59_t0 p0 p1 (((p1.toUInt32 >>> ((1 : Int32) &&& 31).toUInt32).toInt32) &&& (3 : Int32))))), .val (.int (g2_83_t0 (g1_59_t0 p0 p1 (((p1.toUInt32 >>> ((1 : Int32) &&& 31).toUInt32).toInt32) &&& (3 : Int32))))), .val (.int (1 : Int32)), .unset] [(.int (h2_182_t0 p1 (((p1.toUInt32 >>> ((1 : Int32) &&& 31).toUInt32).toInt32) &&& (3 : Int32)) (f1_0_r (g1_59_t0 p0 p1 (((p1.toUInt32 >>> ((1 : Int32) &&& 31).toUInt32).toInt32) &&& (3 : Int32))))))])) _
        refine XS.istore X44.here hx rfl (hb hby at_200) rfl (l' := #[.val (.int p0), .val (.int p1), .val (.ref b2), .val (.ref b17), .val (.int (((p1.toUInt32 >>> ((1 : Int32) &&& 31).toUInt32).toInt32) &&& (3 : Int32))), .val (.int (g1_59_t0 p0 p1 (((p1.toUInt32 >>> ((1 : Int32) &&& 31).toUInt32).toInt32) &&& (3 : Int32)))), .val (.int (f1_0_r (g1_59_t0 p0 p1 (((p1.toUInt32 >>> ((1 : Int32) &&& 31).toUInt32).toInt32) &&& (3 : Int32))))), .val (.int (g2_83_t0 (g1_59_t0 p0 p1 (((p1.toUInt32 >>> ((1 : Int32) &&& 31).toUInt32).toInt32) &&& (3 : Int32))))), .val (.int (1 : Int32)), .val (.int (h2_182_t0 p1 (((p1.toUInt32 >>> ((1 : Int32) &&& 31).toUInt32).toInt32) &&& (3 : Int32)) (f1_0_r (g1_59_t0 p0 p1 (((p1.toUInt32 >>> ((1 : Int32) &&& 31).toUInt32).toInt32) &&& (3 : Int32))))))]) rfl ?_
        show Steps p.tables e below (T44.setTop (mkF m 202 #[.val (.int p0), .val (.int p1), .val (.ref b2), .val (.ref b17), .val (.int (((p1.toUInt32 >>> ((1 : Int32) &&& 31).toUInt32).toInt32) &&& (3 : Int32))), .val (.int (g1_59_t0 p0 p1 (((p1.toUInt32 >>> ((1 : Int32) &&& 31).toUInt32).toInt32) &&& (3 : Int32)))), .val (.int (f1_0_r (g1_59_t0 p0 p1 (((p1.toUInt32 >>> ((1 : Int32) &&& 31).toUInt32).toInt32) &&& (3 : Int32))))), .val (.int (g2_83_t0 (g1_59_t0 p0 p1 (((p1.toUInt32 >>> ((1 : Int32) &&& 31).toUInt32).toInt32) &&& (3 : Int32))))), .val (.int (1 : Int32)), .val (.int (h2_182_t0 p1 (((p1.toUInt32 >>> ((1 : Int32) &&& 31).toUInt32).toInt32) &&& (3 : Int32)) (f1_0_r (g1_59_t0 p0 p1 (((p1.toUInt32 >>> ((1 : Int32) &&& 31).toUInt32).toInt32) &&& (3 : Int32))))))] [])) _
        refine XS.iload X44.here hx rfl (hb hby at_202) rfl ?_
        show Steps p.tables e below (T44.setTop (mkF m 204 #[.val (.int p0), .val (.int p1), .val (.ref b2), .val (.ref b17), .val (.int (((p1.toUInt32 >>> ((1 : Int32) &&& 31).toUInt32).toInt32) &&& (3 : Int32))), .val (.int (g1_59_t0 p0 p1 (((p1.toUInt32 >>> ((1 : Int32) &&& 31).toUInt32).toInt32) &&& (3 : Int32)))), .val (.int (f1_0_r (g1_59_t0 p0 p1 (((p1.toUInt32 >>> ((1 : Int32) &&& 31).toUInt32).toInt32) &&& (3 : Int32))))), .val (.int (g2_83_t0 (g1_59_t0 p0 p1 (((p1.toUInt32 >>> ((1 : Int32) &&& 31).toUInt32).toInt32) &&& (3 : Int32))))), .val (.int (1 : Int32)), .val (.int (h2_182_t0 p1 (((p1.toUInt32 >>> ((1 : Int32) &&& 31).toUInt32).toInt32) &&& (3 : Int32)) (f1_0_r (g1_59_t0 p0 p1 (((p1.toUInt32 >>> ((1 : Int32) &&& 31).toUInt32).toInt32) &&& (3 : Int32))))))] [(.int (1 : Int32))])) _
        refine XS.ifNo X44.here hx rfl (hb hby at_204) rfl ((if0 _ _).trans (feq (by decide)).1) ?_
        show Steps p.tables e below (T44.setTop (mkF m 207 #[.val (.int p0), .val (.int p1), .val (.ref b2), .val (.ref b17), .val (.int (((p1.toUInt32 >>> ((1 : Int32) &&& 31).toUInt32).toInt32) &&& (3 : Int32))), .val (.int (g1_59_t0 p0 p1 (((p1.toUInt32 >>> ((1 : Int32) &&& 31).toUInt32).toInt32) &&& (3 : Int32)))), .val (.int (f1_0_r (g1_59_t0 p0 p1 (((p1.toUInt32 >>> ((1 : Int32) &&& 31).toUInt32).toInt32) &&& (3 : Int32))))), .val (.int (g2_83_t0 (g1_59_t0 p0 p1 (((p1.toUInt32 >>> ((1 : Int32) &&& 31).toUInt32).toInt32) &&& (3 : Int32))))), .val (.int (1 : Int32)), .val (.int (h2_182_t0 p1 (((p1.toUInt32 >>> ((1 : Int32) &&& 31).toUInt32).toInt32) &&& (3 : Int32)) (f1_0_r (g1_59_t0 p0 p1 (((p1.toUInt32 >>> ((1 : Int32) &&& 31).toUInt32).toInt32) &&& (3 : Int32))))))] [])) _
        refine XS.iload X44.here hx rfl (hb hby at_207) rfl ?_
        show Steps p.tables e below (T44.setTop (mkF m 209 #[.val (.int p0), .val (.int p1), .val (.ref b2), .val (.ref b17), .val (.int (((p1.toUInt32 >>> ((1 : Int32) &&& 31).toUInt32).toInt32) &&& (3 : Int32))), .val (.int (g1_59_t0 p0 p1 (((p1.toUInt32 >>> ((1 : Int32) &&& 31).toUInt32).toInt32) &&& (3 : Int32)))), .val (.int (f1_0_r (g1_59_t0 p0 p1 (((p1.toUInt32 >>> ((1 : Int32) &&& 31).toUInt32).toInt32) &&& (3 : Int32))))), .val (.int (g2_83_t0 (g1_59_t0 p0 p1 (((p1.toUInt32 >>> ((1 : Int32) &&& 31).toUInt32).toInt32) &&& (3 : Int32))))), .val (.int (1 : Int32)), .val (.int (h2_182_t0 p1 (((p1.toUInt32 >>> ((1 : Int32) &&& 31).toUInt32).toInt32) &&& (3 : Int32)) (f1_0_r (g1_59_t0 p0 p1 (((p1.toUInt32 >>> ((1 : Int32) &&& 31).toUInt32).toInt32) &&& (3 : Int32))))))] [(.int (h2_182_t0 p1 (((p1.toUInt32 >>> ((1 : Int32) &&& 31).toUInt32).toInt32) &&& (3 : Int32)) (f1_0_r (g1_59_t0 p0 p1 (((p1.toUInt32 >>> ((1 : Int32) &&& 31).toUInt32).toInt32) &&& (3 : Int32))))))])) _
        refine XS.ifNo X44.here hx rfl (hb hby at_209) rfl ((if0 _ _).trans (feq (own_forced2 p0 p1)).1) ?_
        show Steps p.tables e below (T44.setTop (mkF m 212 #[.val (.int p0), .val (.int p1), .val (.ref b2), .val (.ref b17), .val (.int (((p1.toUInt32 >>> ((1 : Int32) &&& 31).toUInt32).toInt32) &&& (3 : Int32))), .val (.int (g1_59_t0 p0 p1 (((p1.toUInt32 >>> ((1 : Int32) &&& 31).toUInt32).toInt32) &&& (3 : Int32)))), .val (.int (f1_0_r (g1_59_t0 p0 p1 (((p1.toUInt32 >>> ((1 : Int32) &&& 31).toUInt32).toInt32) &&& (3 : Int32))))), .val (.int (g2_83_t0 (g1_59_t0 p0 p1 (((p1.toUInt32 >>> ((1 : Int32) &&& 31).toUInt32).toInt32) &&& (3 : Int32))))), .val (.int (1 : Int32)), .val (.int (h2_182_t0 p1 (((p1.toUInt32 >>> ((1 : Int32) &&& 31).toUInt32).toInt32) &&& (3 : Int32)) (f1_0_r (g1_59_t0 p0 p1 (((p1.toUInt32 >>> ((1 : Int32) &&& 31).toUInt32).toInt32) &&& (3 : Int32))))))] [])) _
        refine XS.iconst X44.here hx rfl (hb hby at_212) ?_
        show Steps p.tables e below (T44.setTop (mkF m 213 #[.val (.int p0), .val (.int p1), .val (.ref b2), .val (.ref b17), .val (.int (((p1.toUInt32 >>> ((1 : Int32) &&& 31).toUInt32).toInt32) &&& (3 : Int32))), .val (.int (g1_59_t0 p0 p1 (((p1.toUInt32 >>> ((1 : Int32) &&& 31).toUInt32).toInt32) &&& (3 : Int32)))), .val (.int (f1_0_r (g1_59_t0 p0 p1 (((p1.toUInt32 >>> ((1 : Int32) &&& 31).toUInt32).toInt32) &&& (3 : Int32))))), .val (.int (g2_83_t0 (g1_59_t0 p0 p1 (((p1.toUInt32 >>> ((1 : Int32) &&& 31).toUInt32).toInt32) &&& (3 : Int32))))), .val (.int (1 : Int32)), .val (.int (h2_182_t0 p1 (((p1.toUInt32 >>> ((1 : Int32) &&& 31).toUInt32).toInt32) &&& (3 : Int32)) (f1_0_r (g1_59_t0 p0 p1 (((p1.toUInt32 >>> ((1 : Int32) &&& 31).toUInt32).toInt32) &&& (3 : Int32))))))] [(.int (1 : Int32))])) _
        refine XS.goto X44.here hx rfl (pc0 := 213) (pc' := 217) rfl (hb hby at_213) (by decide) (by decide) ?_
        exact k)
    obtain ⟨fs, hr, hrun, hended, hW, hsame⟩ := X44.leave (v := some (.int (1 : Int32))) (fun h => by rw [Bd.returns] at h; cases h)
    refine ⟨_, _, c48 _ (retN X44 hx (t := .boolean) Bd.returns (by simp) (hb hby at_217) hr), hrun, hended, _, _, rfl, ?_, ⟨_, rfl⟩, hW, hsame.mono (by decide) (by decide)⟩
    show Q_rm0 Z p0 p1 h0 n0 _ T44.heap _
    rw [e44]
    exact ⟨rfl, N44⟩
set_option maxRecDepth 65536 in
set_option maxHeartbeats 40000000 in
theorem comes_1 {Post : Tables → Env → Array Value → State → Outcome → State → Prop} (hpost : ∀ tb e args s v u, (limb_1_1.after args s (.returned v) u = true ∧ limb_1_2.after args s (.returned v) u = true ∧ True) → FrameEnd s (.returned v) u (Jvm.fieldLocs frame_1_writes args s ++ Jvm.arrayLocs frame_1_arrays args s ++ Jvm.staticLocs frame_1_statics s) 16 128 → Post tb e args s (.returned v) u) :
    ArmFor flags0 classFile x code maxLocals ret World_1 tables_1 room_1 Calls_1 rest_1 Pre_1 Post := by
  intro l hfl _ _ p e ha hc hk s m args below hf hA hF happ hP
  obtain ⟨hcalls, hrest, hpre⟩ := hP
  obtain ⟨-, -, -, hnamed, -, -, -, hat⟩ := (Spec.applies_iff hf).mp happ
  obtain ⟨hg, hn⟩ := and_e (Cond.before_iff.mp (show (Jvm.Cond.and given_1 narrow_1).before args s = true from hpre))
  obtain ⟨g1, g2⟩ := and_e hg
  obtain ⟨g3, g4⟩ := and_e g2
  obtain ⟨w0, w1, rfl⟩ : ∃ w0 w1 : Value, args = #[w0, w1] := by
    have hs : args.size = 2 := by simpa [Cond.value, given_1] using g1
    obtain ⟨L⟩ := args
    match L, hs with
    | [w0, w1], _ => exact ⟨w0, w1, rfl⟩
  have hw := fun d (hd : d ∈ tables_1) => atoms_spec (ws := Jvm.Cond.code x code maxLocals ret :: tables_1) hat d (List.mem_cons_of_mem _ hd)
  have hfit : Fit s := fun {y c} hc i hi => by
    obtain ⟨ha, rfl⟩ := Array.getElem?_eq_some_iff.mp hc
    have q := List.all_eq_true.mp ((Array.all_eq_true_iff_forall_mem.mp hF) _ (Array.getElem_mem ha)) i (List.mem_range.mpr hi)
    simpa [Array.getElem?_eq_getElem hi] using q
  obtain ⟨i0, ei0⟩ := is_v g3
  obtain rfl : w0 = (.int i0) := Option.some.inj ei0
  obtain ⟨i1, ei1⟩ := is_v g4
  obtain rfl : w1 = (.int i1) := Option.some.inj ei1
  obtain ⟨n, o, h1, h2, h3, _, L, rfl, ⟨rfl, N⟩, hq⟩ := rm0 l s _ hw tables_1 i0 i1 s.heap s.heap.size (Nat.le_refl _) p e ha hc hk s m _ below hf ((Spec.applies_iff_loose hf).mp happ).1 ⟨rfl, State.Warmed39.refl s, rfl⟩ trivial
  refine ⟨n, _, h1, h2, h3, hpost _ _ _ _ _ _ ⟨Cond.after_iff.mpr rfl, Cond.after_iff.mpr (eq_i res_at (Term.int_eval (1)) rfl), trivial⟩ ⟨hq.1, hq.2.1, (hq.2.2.sift fun y hy => Or.inr (N y hy)).mono (by decide) (by decide)⟩⟩
theorem main_1_1 : Claimed_1_1 := comes_1 fun _ _ _ _ _ _ h hF => ⟨h.1, hF⟩
theorem main_1_2 : Claimed_1_2 := comes_1 fun _ _ _ _ _ _ h hF => ⟨h.2.1, hF⟩
end Jvm.Pilot.@@N@@
namespace Jvm.Pilot.@@N@@
open Jvm Jvm.ClassFile Sem Op Lib Jvm.Free Jvm.Stand Jvm.Pilot.@@N@@.Jvm.D
/-! MADE BY PROGRAM (witnessworld.py) out of the Statement's table words and the real class files: 11 classes; the members and pool entries that the words name. The judged class is class 1, her method 1. -/
namespace start1
open Jvm.ClassFile
def u (s : String) : CpInfo := .utf8 (stringToUtf16 s)
/-- a pool by its gaps: so many unusable entries, then the entry; so many at the end -/
def gap : Nat → List CpInfo → List CpInfo
  | 0, r => r
  | n + 1, r => .unusable :: gap n r
def poolList (es : List (Nat × CpInfo)) (last : Nat) : List CpInfo := es.foldr (fun e r => gap e.1 (e.2 :: r)) (gap last [])
def pool (es : List (Nat × CpInfo)) (last : Nat) : Array CpInfo := ⟨poolList es last⟩
def fileOf (pool : Array CpInfo) (this : Nat) (attrs : Array Attribute := #[]) (ms : Array MethodInfo := #[]) (fl : Nat := 33) (sup : Nat := 0) (ifs : Array Nat := #[]) (fds : Array FieldInfo := #[]) : ClassFile where
  minorVersion := 0
  majorVersion := 65
  constantPool := pool
  accessFlags := fl
  thisClass := this
  superClass := sup
  interfaces := ifs
  fields := fds
  methods := ms
  attributes := attrs
def plain (name : String) (sup : Option ClassId) : Class where
  name := name
  kind := .ordinary
  loader := none
  accessFlags := 33
  super := sup
  interfaces := #[]
  cf := none
  fields := #[]
  methods := #[]
  instanceTypes := #[]
  staticTypes := #[]
  resolved := #[]
  callSites := []
  init := .initialized
  statics := none
  mirror := none

def pool0 : Array CpInfo := pool [(5, u "<init>"), (0, u "()V"), (1, .class_ 10), (1, u "java/lang/Object")] 113

def k0m0 : Method := { name := "<init>", desc := "()V", sig := { parameters := [], returnType := none }, accessFlags := 1, code := none }
/-- java/lang/Object -/
def k0 : Class := { plain "java/lang/Object" none with
  accessFlags := 33
  interfaces := #[]
  cf := some (fileOf pool0 8 #[] #[{ accessFlags := 1, nameIndex := 5, descriptorIndex := 6, attributes := #[] }] 33 0 #[] #[])
  fields := #[]
  methods := #[k0m0]
  instanceTypes := #[]
  staticTypes := #[]
  resolved := Array.replicate 124 none
  statics := none }

def pool1 : Array CpInfo := pool [(2, .class_ 4), (1, u "java/lang/Object"), (0, u "<init>"), (0, u "()V"), (0, .methodref 8 9), (0, .class_ 10), (0, .nameAndType 11 12), (0, u "com/example/whereas/whereas/Text"), (0, u "opensQuote"), (0, u "(C)I"), (0, .methodref 8 14), (0, .nameAndType 15 12), (0, u "closesQuote"), (0, .class_ 17), (0, u "com/example/whereas/whereas/TextOpensQuotePinLaw"), (2, u "law"), (0, u "(II)Z")] 5

def k1m0 : Method := { name := "<init>", desc := "()V", sig := { parameters := [], returnType := none }, accessFlags := 1, code := none }
def k1c1 : Code := { maxStack := 4, maxLocals := 10, code := code, exceptionTable := #[], attributes := #[] }
def k1m1 : Method := { name := "law", desc := "(II)Z", sig := { parameters := [.int, .int], returnType := some .boolean }, accessFlags := 9, code := some k1c1 }
/-- com/example/whereas/whereas/TextOpensQuotePinLaw -/
def k1 : Class := { plain "com/example/whereas/whereas/TextOpensQuotePinLaw" (some 0) with
  accessFlags := 49
  interfaces := #[]
  cf := some (fileOf pool1 16 #[] #[{ accessFlags := 1, nameIndex := 5, descriptorIndex := 6, attributes := #[] }, { accessFlags := 9, nameIndex := 20, descriptorIndex := 21, attributes := #[] }] 49 2 #[] #[])
  fields := #[]
  methods := #[k1m0, k1m1]
  instanceTypes := #[]
  staticTypes := #[]
  resolved := Array.replicate 27 none
  statics := none }

def pool2 : Array CpInfo := pool [(18, .class_ 20), (1, u "java/lang/Object"), (0, u "<init>"), (0, u "()V"), (5, .class_ 30), (1, u "com/example/whereas/whereas/Text"), (20, .class_ 52), (0, u "com/example/whereas/whereas/Text$Content"), (65, u "closesQuote"), (0, u "(C)I"), (33, u "REFERENCE_WORD"), (0, u "Ljava/util/regex/Pattern;"), (0, u "QUOTE_PAIRS"), (0, u "I"), (2, u "DOUBLE_QUOTE_PAIRS"), (1, u "MOST_NAME_LENGTH"), (1, u "MOST_LABEL_LENGTH"), (1, u "LEAST_LEADER"), (0, u "OPENS_BEFORE_QUOTE"), (0, u "Ljava/lang/String;"), (0, u "STARTS_QUOTED"), (25, u "opensQuote")] 8

def k2m0 : Method := { name := "<init>", desc := "()V", sig := { parameters := [], returnType := none }, accessFlags := 2, code := none }
def k2c1 : Code := { maxStack := 1, maxLocals := 1, code := prog_73_method_30_code, exceptionTable := #[], attributes := #[] }
def k2m1 : Method := { name := "opensQuote", desc := "(C)I", sig := { parameters := [.char], returnType := some .int }, accessFlags := 8, code := some k2c1 }
def k2c2 : Code := { maxStack := 1, maxLocals := 1, code := prog_73_method_31_code, exceptionTable := #[], attributes := #[] }
def k2m2 : Method := { name := "closesQuote", desc := "(C)I", sig := { parameters := [.char], returnType := some .int }, accessFlags := 8, code := some k2c2 }
/-- com/example/whereas/whereas/Text -/
def k2 : Class := { plain "com/example/whereas/whereas/Text" (some 0) with
  accessFlags := 48
  interfaces := #[]
  cf := some (fileOf pool2 28 #[.nestMembers #[51]] #[{ accessFlags := 2, nameIndex := 21, descriptorIndex := 22, attributes := #[] }, { accessFlags := 8, nameIndex := 194, descriptorIndex := 119, attributes := #[] }, { accessFlags := 8, nameIndex := 118, descriptorIndex := 119, attributes := #[] }] 48 18 #[] #[{ accessFlags := 24, nameIndex := 155, descriptorIndex := 156, attributes := #[] }, { accessFlags := 24, nameIndex := 159, descriptorIndex := 156, attributes := #[] }, { accessFlags := 24, nameIndex := 161, descriptorIndex := 156, attributes := #[] }, { accessFlags := 24, nameIndex := 163, descriptorIndex := 156, attributes := #[] }, { accessFlags := 24, nameIndex := 153, descriptorIndex := 154, attributes := #[] }, { accessFlags := 26, nameIndex := 165, descriptorIndex := 156, attributes := #[] }, { accessFlags := 26, nameIndex := 166, descriptorIndex := 167, attributes := #[] }, { accessFlags := 26, nameIndex := 168, descriptorIndex := 167, attributes := #[] }])
  fields := #[{ name := "QUOTE_PAIRS", type := .int, accessFlags := 24, slot := 0, constantValue := 0 }, { name := "DOUBLE_QUOTE_PAIRS", type := .int, accessFlags := 24, slot := 1, constantValue := 0 }, { name := "MOST_NAME_LENGTH", type := .int, accessFlags := 24, slot := 2, constantValue := 0 }, { name := "MOST_LABEL_LENGTH", type := .int, accessFlags := 24, slot := 3, constantValue := 0 }, { name := "REFERENCE_WORD", type := (.object "java/util/regex/Pattern"), accessFlags := 24, slot := 4, constantValue := 0 }, { name := "LEAST_LEADER", type := .int, accessFlags := 26, slot := 5, constantValue := 0 }, { name := "OPENS_BEFORE_QUOTE", type := (.object "java/lang/String"), accessFlags := 26, slot := 6, constantValue := 0 }, { name := "STARTS_QUOTED", type := (.object "java/lang/String"), accessFlags := 26, slot := 7, constantValue := 0 }]
  methods := #[k2m0, k2m1, k2m2]
  instanceTypes := #[]
  staticTypes := #[.int, .int, .int, .int, (.object "java/util/regex/Pattern"), .int, (.object "java/lang/String"), (.object "java/lang/String")]
  resolved := Array.replicate 203 none
  statics := none }

def pool3 : Array CpInfo := pool [(1, u "java/lang/Cloneable"), (0, .class_ 1), (0, u "java/lang/Object"), (0, .class_ 3)] 3

/-- java/lang/Cloneable -/
def k3 : Class := { plain "java/lang/Cloneable" (some 0) with
  accessFlags := 1537
  interfaces := #[]
  cf := some (fileOf pool3 2 #[] #[] 1537 4 #[] #[])
  fields := #[]
  methods := #[]
  instanceTypes := #[]
  staticTypes := #[]
  resolved := Array.replicate 8 none
  statics := none }

def pool4 : Array CpInfo := pool [(1, u "java/io/Serializable"), (0, .class_ 1), (0, u "java/lang/Object"), (0, .class_ 3)] 3

/-- java/io/Serializable -/
def k4 : Class := { plain "java/io/Serializable" (some 0) with
  accessFlags := 1537
  interfaces := #[]
  cf := some (fileOf pool4 2 #[] #[] 1537 4 #[] #[])
  fields := #[]
  methods := #[]
  instanceTypes := #[]
  staticTypes := #[]
  resolved := Array.replicate 8 none
  statics := none }

/-- the primitive byte -/
def k5 : Class := { plain "byte" none with kind := .primitive 'B', accessFlags := 0x411 }
/-- [B -/
def k6 : Class := { plain "[B" (some 0) with kind := .array 5 .byte, interfaces := #[3, 4], accessFlags := 1041 }

/-- the primitive char -/
def k7 : Class := { plain "char" none with kind := .primitive 'C', accessFlags := 0x411 }
/-- [C -/
def k8 : Class := { plain "[C" (some 0) with kind := .array 7 .char, interfaces := #[3, 4], accessFlags := 1041 }

/-- the primitive int -/
def k9 : Class := { plain "int" none with kind := .primitive 'I', accessFlags := 0x411 }
/-- [I -/
def k10 : Class := { plain "[I" (some 0) with kind := .array 9 .int, interfaces := #[3, 4], accessFlags := 1041 }

def heap : Heap := #[]
def classes : Array Class := #[k0, k1, k2, k3, k4, k5, k6, k7, k8, k9, k10]
def interned : List (Array UInt16 × Addr) := []
def slotsUsed : Nat := 0
def theMethod : MethodId := ⟨1, 1⟩
def args0 : Array Value := #[.int 5, .int 1]
def aboutOver (below : List Frame) : State where
  vm := { classes := classes, interned := interned.toArray }
  heap := heap
  slotsUsed := slotsUsed
  threads := #[{ frames := .invoking theMethod args0 :: below }]
def below0 : List Frame := [.native { method := ⟨0, 0⟩, args := #[] }]
def about1 : State := aboutOver below0
def p0 : Program := .bare "" "" ""
def e0 : Env := launch0.env 0 0 0
theorem w_frames : about1.frames = Frame.invoking theMethod args0 :: below0 := rfl
set_option maxRecDepth 65536 in
theorem w_args : argsFit about1.vm theMethod args0 = true := by decide +kernel
set_option maxRecDepth 65536 in
theorem w_heap : heapFits about1 = true := by decide +kernel
set_option maxRecDepth 65536 in
theorem w_runnable : about1.curStatus? = some .runnable := by decide +kernel
set_option maxRecDepth 65536 in
theorem w_alone : about1.alone = true := by decide +kernel
set_option maxRecDepth 65536 in
theorem w_named : about1.methodNamed? x = some theMethod := by decide +kernel
set_option maxRecDepth 65536 in
theorem w_hears : about1.hears theMethod below0 = true := by decide +kernel
set_option maxRecDepth 65536 in
theorem w_ripe : about1.ripe theMethod args0 below0 = true := by decide +kernel
theorem w_running : about1.status = .running := rfl
set_option maxRecDepth 65536 in
theorem w_room : about1.hasRoom e0.platform room_1 = true :=
  launch0.hasRoom_least _ room_1 (by decide +kernel) (by decide +kernel) (by decide +kernel) (by decide +kernel) (by decide +kernel) (by decide +kernel)
theorem allAtoms_all (ts : List Jvm.Cond) (a : Array Jvm.Value) (st : Jvm.State) : (allAtoms ts).before a st = ts.all (fun c => c.before a st) := by
  induction ts with
  | nil => rfl
  | cons c t ih =>
    show (Jvm.Cond.and c (allAtoms t)).before a st = _
    rw [Jvm.Cond.before_and, ih, List.all_cons]
def words1 : List Jvm.Cond := Jvm.Cond.code x code maxLocals ret :: tables_1
/-- a 'code' word, met by the world's own term for the bytes: nothing is compared byte by byte -/
theorem code_word {y : MethodName} {bytes : ByteArray} {mx : Nat} {rt : Option FieldType} {a : Array Value} {s : State} {m : MethodId} {meth : Method} {c : Code} (h1 : s.methodNamed? y = some m) (h2 : s.vm.method? m = some meth) (h3 : meth.code = some c) (h4 : c.code = bytes)
    (h5 : (c.maxLocals == mx && c.exceptionTable.isEmpty && decide (c.maxStack ≤ mostOperands) && decide (meth.sig.returnType = rt) && !meth.locks && decide (parseMethodDescriptor y.desc = some meth.sig)) = true) : (Jvm.Cond.code y bytes mx rt).before a s = true := by
  simp only [Bool.and_eq_true, beq_iff_eq, Bool.not_eq_true', decide_eq_true_eq] at h5
  obtain ⟨⟨⟨⟨⟨g1, g2⟩, g3⟩, g4⟩, g5⟩, g6⟩ := h5
  simp [Cond.before, Cond.holds, Cond.value, h1, h2, h3, h4, g1, g2, g3, g4, g5, g6]
def isCode : Jvm.Cond → Bool
  | .code _ _ _ _ => true
  | _ => false
theorem all_split {L : List Jvm.Cond} {P : Jvm.Cond → Bool} (h1 : L.all (fun c => isCode c || P c) = true) (h2 : ∀ c ∈ L.filter isCode, P c = true) : L.all P = true := by
  refine List.all_eq_true.mpr fun c hc => ?_
  have h := List.all_eq_true.mp h1 c hc
  rcases Bool.eq_false_or_eq_true (isCode c) with hi | hi
  · exact h2 c (List.mem_filter.mpr ⟨hc, hi⟩)
  · simpa [hi] using h
set_option maxRecDepth 65536 in
theorem w_c0 : (Jvm.Cond.code x code maxLocals ret).before args0 about1 = true := code_word (m := ⟨1, 1⟩) (meth := k1m1) (c := k1c1) (by decide +kernel) rfl rfl rfl (by decide +kernel)
set_option maxRecDepth 65536 in
theorem w_c1 : (Jvm.Cond.code ({ cls := "com/example/whereas/whereas/Text", name := "opensQuote", desc := "(C)I" } : Jvm.MethodName) prog_73_method_30_code (1 : Nat) (Option.some Jvm.ClassFile.FieldType.int)).before args0 about1 = true := code_word (m := ⟨2, 1⟩) (meth := k2m1) (c := k2c1) (by decide +kernel) rfl rfl rfl (by decide +kernel)
set_option maxRecDepth 65536 in
theorem w_c2 : (Jvm.Cond.code ({ cls := "com/example/whereas/whereas/Text", name := "closesQuote", desc := "(C)I" } : Jvm.MethodName) prog_73_method_31_code (1 : Nat) (Option.some Jvm.ClassFile.FieldType.int)).before args0 about1 = true := code_word (m := ⟨2, 2⟩) (meth := k2m2) (c := k2c2) (by decide +kernel) rfl rfl rfl (by decide +kernel)
def codes1 : List Jvm.Cond := [Jvm.Cond.code x code maxLocals ret, Jvm.Cond.code ({ cls := "com/example/whereas/whereas/Text", name := "opensQuote", desc := "(C)I" } : Jvm.MethodName) prog_73_method_30_code (1 : Nat) (Option.some Jvm.ClassFile.FieldType.int), Jvm.Cond.code ({ cls := "com/example/whereas/whereas/Text", name := "closesQuote", desc := "(C)I" } : Jvm.MethodName) prog_73_method_31_code (1 : Nat) (Option.some Jvm.ClassFile.FieldType.int)]
set_option maxRecDepth 65536 in
theorem codes_eq : words1.filter isCode = codes1 := rfl
theorem w_codes : ∀ c ∈ words1.filter isCode, c.before args0 about1 = true := by
  rw [codes_eq]
  intro c hc
  simp only [codes1, List.mem_cons, List.not_mem_nil, or_false] at hc
  rcases hc with rfl | rfl | rfl
  · exact w_c0
  · exact w_c1
  · exact w_c2
set_option maxRecDepth 65536 in
theorem w_t1 : words1.all (fun c => isCode c || c.before args0 about1) = true := by decide +kernel
theorem w_tables : (allAtoms (Jvm.Cond.code x code maxLocals ret :: tables_1)).before args0 about1 = true := by
  rw [allAtoms_all]
  show words1.all (fun c => c.before args0 about1) = true
  refine all_split ?_ w_codes
  rw [w_t1]
set_option maxRecDepth 65536 in
theorem w_case : (Jvm.Cond.and given_1 narrow_1).before args0 about1 = true := by decide +kernel
theorem w_applies : (headSpec (Jvm.Cond.code x code maxLocals ret :: tables_1) room_1).applies x e0.platform about1 = true :=
  (Spec.applies_iff w_frames).mpr ⟨w_running, w_runnable, w_alone, w_named, w_hears, w_ripe, w_room, w_tables⟩
theorem atStart : AtStart classFile x code maxLocals ret World_1 tables_1 room_1 Calls_1 rest_1 Pre_1 launch0 p0 e0 about1 theMethod args0 below0 :=
  ⟨lists_1, trivial, launch0.admits_env _ _ _, launch0.least_env, fairChoices_fair.cas, fairChoices_fair.clock, w_frames, w_args, w_heap, w_applies, trivial, trivial, w_case⟩
end start1
theorem witness_1 : WitnessClaimed_1 := ⟨start1.p0, start1.e0, start1.about1, start1.theMethod, start1.args0, start1.below0, start1.atStart⟩
end Jvm.Pilot.@@N@@
