import JvmDerived
import JvmDerived.Pilot.@@N@@Statement
import JvmDerived.Pilot.@@N@@Code
set_option linter.unusedVariables false
set_option linter.unusedSimpArgs false
namespace Jvm.RoadKit
open Sem ClassFile Op Lib Jvm.Stand Jvm.Free Jvm.LawKit
section New
variable {p : Program} {l : Launch} {e : Env} {R : Room} {s : State} {m : MethodId} {args : Array Value} {below : List Frame} {meth : Method} {c : Code} {T : State} {locs : List Loc} {cells slots : Nat}
theorem retI (X : Stand p l e R s m args below meth c T locs cells slots) (hx : p.tables.exec = Jvm.exec) {pc : Nat} {Ls : Array Slot} {z : Int32} {rest : List Value} (hret : meth.sig.returnType = some .int) (hd : decode c.code pc = .ok (.ireturn, 1)) {fs : List Frame}
    (hl : ∀ (f : JFrame) (acts : List Action), f.method = m → f.locked = none → f.entered = [] → (doReturn e (T.setTop f) acts (some (.int z))).1 = T.setFrames fs) : Steps p.tables e below (T.setTop (mkF m pc Ls (.int z :: rest))) (T.setFrames fs) := by
  have hm' : T.vm.method? m = some meth := X.method'
  have hn : narrow .int (.int z) = .int z := rfl
  show Steps p.tables e below (T.setTop { method := m, pc := pc, locals := Ls, stack := _ :: rest, locked := none }) _
  jvm_step X.here [X.here.top, hx, hd, hm', hret, hn]
  first | (intro acts; rw [hl _ acts rfl rfl rfl]) | rw [hl _ _ rfl rfl rfl]
  exact Steps.refl _
theorem own_miss {k : Int32} (q : Int32) {a : Int} (hq : q.toInt = a) (h : ¬ k = q) : a ≠ k.toInt := fun e => h (Int32.toInt_inj.mp (e.symm.trans hq.symm))
end New
end Jvm.RoadKit
namespace Jvm.Pilot.@@N@@
open Jvm Jvm.ClassFile Sem Op Lib Jvm.Free Jvm.Stand Jvm.LawKit Jvm.RoadKit Bundle Jvm.Pilot.@@N@@.Jvm.D
theorem d1_0 : decode prog_15_method_3_code 0 = .ok (.iload_n 0, 1) := by decide +kernel
theorem d1_1 : decode prog_15_method_3_code 1 = .ok (.iload_n 1, 1) := by decide +kernel
theorem d1_2 : decode prog_15_method_3_code 2 = .ok (.iand, 1) := by decide +kernel
theorem d1_3 : decode prog_15_method_3_code 3 = .ok (.lookupswitch 61 #[(1, 57), (3, 57), (5, 57), (16, 57), (48, 57), (80, 57)], 57) := by decide +kernel
theorem d1_60 : decode prog_15_method_3_code 60 = .ok (.iconst 1, 1) := by decide +kernel
theorem d1_61 : decode prog_15_method_3_code 61 = .ok (.goto 4, 3) := by decide +kernel
theorem d1_64 : decode prog_15_method_3_code 64 = .ok (.iconst 0, 1) := by decide +kernel
theorem d1_65 : decode prog_15_method_3_code 65 = .ok (.ireturn, 1) := by decide +kernel
def f1_60_r  : Int32 := (1 : Int32)
def f1_0_r (i0 : Int32) (i1 : Int32) : Int32 := if (i0 &&& i1) = (1 : Int32) then f1_60_r else if (i0 &&& i1) = (3 : Int32) then f1_60_r else if (i0 &&& i1) = (5 : Int32) then f1_60_r else if (i0 &&& i1) = (16 : Int32) then f1_60_r else if (i0 &&& i1) = (48 : Int32) then f1_60_r else if (i0 &&& i1) = (80 : Int32) then f1_60_r else (0 : Int32)
set_option maxRecDepth 65536 in
set_option maxHeartbeats 40000000 in
theorem f1_60 {p : Program} {l : Launch} {e : Env} {R : Room} {s : State} {m : MethodId} {args : Array Value} {below : List Frame} {meth : Method} {c : Code} {T : State} {locs : List Loc} {cells slots : Nat} {Z : State} {a0 : Array Value} {target : State} (i0 : Int32) (i1 : Int32) (X : Stand p l e R s m args below meth c T locs cells slots) (hx : p.tables.exec = Jvm.exec) (hZ : Z.Warmed39 s.vm) (hw : ∀ d ∈ tables_1, d.before a0 Z = true) (hby : c.code = prog_15_method_3_code) (hown : s.vm.findClass "com/example/tapeline/tapeline/Gravity" = some m.cls) (k : ∀ (pc : Nat) (Ls : Array Slot), decode c.code pc = .ok (.ireturn, 1) → Steps p.tables e below (T.setTop (mkF m pc Ls [(.int (f1_60_r))])) target) :
    Steps p.tables e below (T.setTop (mkF m 60 #[.val (.int i0), .val (.int i1)] [])) target := by
  show Steps p.tables e below (T.setTop (mkF m 60 #[.val (.int i0), .val (.int i1)] [])) _
  refine XS.iconst X.here hx rfl (hb hby d1_60) ?_
  show Steps p.tables e below (T.setTop (mkF m 61 #[.val (.int i0), .val (.int i1)] [(.int (1 : Int32))])) _
  refine XS.goto X.here hx rfl (pc0 := 61) (pc' := 65) rfl (hb hby d1_61) (by decide) (by decide) ?_
  have e_r : (f1_60_r) = (1 : Int32) := by rfl
  rw [e_r] at k
  exact k _ _ (hb hby d1_65)
set_option maxRecDepth 65536 in
set_option maxHeartbeats 40000000 in
theorem f1_0 {p : Program} {l : Launch} {e : Env} {R : Room} {s : State} {m : MethodId} {args : Array Value} {below : List Frame} {meth : Method} {c : Code} {T : State} {locs : List Loc} {cells slots : Nat} {Z : State} {a0 : Array Value} {target : State} (i0 : Int32) (i1 : Int32) (X : Stand p l e R s m args below meth c T locs cells slots) (hx : p.tables.exec = Jvm.exec) (hZ : Z.Warmed39 s.vm) (hw : ∀ d ∈ tables_1, d.before a0 Z = true) (hby : c.code = prog_15_method_3_code) (hown : s.vm.findClass "com/example/tapeline/tapeline/Gravity" = some m.cls) (k : ∀ (pc : Nat) (Ls : Array Slot), decode c.code pc = .ok (.ireturn, 1) → Steps p.tables e below (T.setTop (mkF m pc Ls [(.int (f1_0_r i0 i1))])) target) :
    Steps p.tables e below (T.setTop (mkF m 0 #[.val (.int i0), .val (.int i1)] [])) target := by
  show Steps p.tables e below (T.setTop (mkF m 0 #[.val (.int i0), .val (.int i1)] [])) _
  refine XS.iloadN X.here hx rfl (hb hby d1_0) rfl ?_
  show Steps p.tables e below (T.setTop (mkF m 1 #[.val (.int i0), .val (.int i1)] [(.int i0)])) _
  refine XS.iloadN X.here hx rfl (hb hby d1_1) rfl ?_
  show Steps p.tables e below (T.setTop (mkF m 2 #[.val (.int i0), .val (.int i1)] [(.int i1), (.int i0)])) _
  refine XS.iand X.here hx rfl (hb hby d1_2) rfl ?_
  show Steps p.tables e below (T.setTop (mkF m 3 #[.val (.int i0), .val (.int i1)] [(.int (i0 &&& i1))])) _
  by_cases q3_0 : (i0 &&& i1) = (1 : Int32)
  · refine lookupswitchHit X hx (g := (mkF m 3 #[.val (.int i0), .val (.int i1)] [(.int (i0 &&& i1))])) rfl rfl (hb hby d1_3) (by decide) (a := 1) (off := 57) (by rw [q3_0]; decide +kernel) (show (0 : Int) ≤ ((3 : Nat) : Int) + 57 from by decide) _ ?_
    have e_r : (f1_0_r i0 i1) = f1_60_r := by unfold f1_0_r; rw [if_pos q3_0]
    rw [e_r] at k
    exact f1_60 i0 i1 X hx hZ hw hby hown k
  · by_cases q3_1 : (i0 &&& i1) = (3 : Int32)
    · refine lookupswitchHit X hx (g := (mkF m 3 #[.val (.int i0), .val (.int i1)] [(.int (i0 &&& i1))])) rfl rfl (hb hby d1_3) (by decide) (a := 3) (off := 57) (by rw [q3_1]; decide +kernel) (show (0 : Int) ≤ ((3 : Nat) : Int) + 57 from by decide) _ ?_
      have e_r : (f1_0_r i0 i1) = f1_60_r := by unfold f1_0_r; rw [if_neg q3_0, if_pos q3_1]
      rw [e_r] at k
      exact f1_60 i0 i1 X hx hZ hw hby hown k
    · by_cases q3_2 : (i0 &&& i1) = (5 : Int32)
      · refine lookupswitchHit X hx (g := (mkF m 3 #[.val (.int i0), .val (.int i1)] [(.int (i0 &&& i1))])) rfl rfl (hb hby d1_3) (by decide) (a := 5) (off := 57) (by rw [q3_2]; decide +kernel) (show (0 : Int) ≤ ((3 : Nat) : Int) + 57 from by decide) _ ?_
        have e_r : (f1_0_r i0 i1) = f1_60_r := by unfold f1_0_r; rw [if_neg q3_0, if_neg q3_1, if_pos q3_2]
        rw [e_r] at k
        exact f1_60 i0 i1 X hx hZ hw hby hown k
      · by_cases q3_3 : (i0 &&& i1) = (16 : Int32)
        · refine lookupswitchHit X hx (g := (mkF m 3 #[.val (.int i0), .val (.int i1)] [(.int (i0 &&& i1))])) rfl rfl (hb hby d1_3) (by decide) (a := 16) (off := 57) (by rw [q3_3]; decide +kernel) (show (0 : Int) ≤ ((3 : Nat) : Int) + 57 from by decide) _ ?_
          have e_r : (f1_0_r i0 i1) = f1_60_r := by unfold f1_0_r; rw [if_neg q3_0, if_neg q3_1, if_neg q3_2, if_pos q3_3]
          rw [e_r] at k
          exact f1_60 i0 i1 X hx hZ hw hby hown k
        · by_cases q3_4 : (i0 &&& i1) = (48 : Int32)
          · refine lookupswitchHit X hx (g := (mkF m 3 #[.val (.int i0), .val (.int i1)] [(.int (i0 &&& i1))])) rfl rfl (hb hby d1_3) (by decide) (a := 48) (off := 57) (by rw [q3_4]; decide +kernel) (show (0 : Int) ≤ ((3 : Nat) : Int) + 57 from by decide) _ ?_
            have e_r : (f1_0_r i0 i1) = f1_60_r := by unfold f1_0_r; rw [if_neg q3_0, if_neg q3_1, if_neg q3_2, if_neg q3_3, if_pos q3_4]
            rw [e_r] at k
            exact f1_60 i0 i1 X hx hZ hw hby hown k
          · by_cases q3_5 : (i0 &&& i1) = (80 : Int32)
            · refine lookupswitchHit X hx (g := (mkF m 3 #[.val (.int i0), .val (.int i1)] [(.int (i0 &&& i1))])) rfl rfl (hb hby d1_3) (by decide) (a := 80) (off := 57) (by rw [q3_5]; decide +kernel) (show (0 : Int) ≤ ((3 : Nat) : Int) + 57 from by decide) _ ?_
              have e_r : (f1_0_r i0 i1) = f1_60_r := by unfold f1_0_r; rw [if_neg q3_0, if_neg q3_1, if_neg q3_2, if_neg q3_3, if_neg q3_4, if_pos q3_5]
              rw [e_r] at k
              exact f1_60 i0 i1 X hx hZ hw hby hown k
            · refine lookupswitchMiss X hx (g := (mkF m 3 #[.val (.int i0), .val (.int i1)] [(.int (i0 &&& i1))])) rfl rfl (hb hby d1_3) (by decide) (find_miss (by
                intro p hp
                simp only [List.mem_cons, List.not_mem_nil, or_false] at hp
                rcases hp with rfl | rfl | rfl | rfl | rfl | rfl
                · exact own_miss (1 : Int32) rfl q3_0
                · exact own_miss (3 : Int32) rfl q3_1
                · exact own_miss (5 : Int32) rfl q3_2
                · exact own_miss (16 : Int32) rfl q3_3
                · exact own_miss (48 : Int32) rfl q3_4
                · exact own_miss (80 : Int32) rfl q3_5)) (show (0 : Int) ≤ ((3 : Nat) : Int) + 61 from by decide) _ ?_
              show Steps p.tables e below (T.setTop (mkF m 64 #[.val (.int i0), .val (.int i1)] [])) _
              refine XS.iconst X.here hx rfl (hb hby d1_64) ?_
              have e_r : (f1_0_r i0 i1) = (0 : Int32) := by unfold f1_0_r; rw [if_neg q3_0, if_neg q3_1, if_neg q3_2, if_neg q3_3, if_neg q3_4, if_neg q3_5]
              rw [e_r] at k
              exact k _ _ (hb hby d1_65)
theorem z01_f1_60_r  : (f1_60_r) = 0 ∨ (f1_60_r) = 1 := by
  unfold f1_60_r
  repeat' split
  all_goals first | exact Or.inl rfl | exact Or.inr rfl
theorem z01_f1_0_r (i0 : Int32) (i1 : Int32) : (f1_0_r i0 i1) = 0 ∨ (f1_0_r i0 i1) = 1 := by
  unfold f1_0_r
  repeat' split
  all_goals first | exact Or.inl rfl | exact Or.inr rfl | exact z01_f1_60_r 
theorem nz_f1 (p0 : Int32) (p1 : Int32) : nar .boolean (f1_0_r p0 p1) = (f1_0_r p0 p1) := by rcases z01_f1_0_r p0 p1 with h | h <;> rw [h] <;> rfl
theorem pn_0 : plainName "com/example/tapeline/tapeline/Gravity" = true := by first | (simp [plainName, overriddenIn]; done) | decide +kernel
theorem ef_rm1 (m : MethodId) (x0 : Int32) (x1 : Int32) : entryFrame m #[(.int x0), (.int x1)] 2 = mkF m 0 #[.val (.int x0), .val (.int x1)] [] := by first | (simp [entryFrame, mkF, argsToLocals, Value.category]; done) | rfl
def Q_rm1 (Z : State) (p0 : Int32) (p1 : Int32) (h0 : Heap) (n0 : Nat) (v : Option Value) (h : Heap) (L : List Loc) : Prop := v = some (.int (f1_0_r p0 p1)) ∧ Fr n0 L ∧ h = h0
set_option maxRecDepth 65536 in
set_option maxHeartbeats 40000000 in
theorem rm1 (l : Launch) (Z : State) (a0 : Array Value) (hw : ∀ d ∈ tables_1, d.before a0 Z = true) (ws : List Jvm.Cond) (p0 : Int32) (p1 : Int32) (h0 : Heap) (n0 : Nat) (Z0 : n0 ≤ h0.size) :
    MetFree l (⟨"com/example/tapeline/tapeline/Gravity", "namesPlace", "(II)Z"⟩ : MethodName) (head1 (Jvm.Cond.code (⟨"com/example/tapeline/tapeline/Gravity", "namesPlace", "(II)Z"⟩ : MethodName) prog_15_method_3_code 2 (some .boolean) :: ws) ({ frames := 0, cells := 0, slots := 0, locals := 0 } : Room)) (fun a U => a = #[(.int p0), (.int p1)] ∧ Z.Warmed39 U.vm ∧ U.heap = h0) (fun _ _ _ _ _ => True) (fun _ U o U' => ∃ v L, o = .returned v ∧ Q_rm1 Z p0 p1 h0 n0 v U'.heap L ∧ FrameEnd U o U' L ({ frames := 0, cells := 0, slots := 0, locals := 0 } : Room).cells ({ frames := 0, cells := 0, slots := 0, locals := 0 } : Room).slots) := by
  refine MetFree.of_bodySF (plainFor_of_name pn_0) hisR ?_
  intro p e s m args below meth c s₁ Bd hml0 hP hK
  obtain ⟨rfl, hZ, hh⟩ := hP
  have hx := Bd.exec
  have hby := Bd.bytes
  have hml : c.maxLocals = 2 := hml0
  have hown : s.vm.findClass "com/example/tapeline/tapeline/Gravity" = some m.cls := findClass_of_methodNamed Bd.named
  have hnm := (name_of_methodNamed Bd.named Bd.method).1
  have X0 : Stand p l e ({ frames := 0, cells := 0, slots := 0, locals := 0 } : Room) s m #[(.int p0), (.int p1)] below meth c s₁ [] 0 0 := Stand.of_body Bd
  have e0 : s₁.heap = h0 := by rw [← hh, Bd.state]; rfl
  have N0 := Fr.nil n0
  have c0 : ∀ t, Steps p.tables e below (s₁.setTop (mkF m 0 #[.val (.int p0), .val (.int p1)] [])) t → Steps p.tables e below (s₁.setTop (entryFrame m #[(.int p0), (.int p1)] 2)) t := fun t k => castTop (ef_rm1 m p0 p1) k
  obtain ⟨fs, hr, hrun, hended, hW, hsame⟩ := X0.leave (v := some (.int (f1_0_r p0 p1))) (fun h => by rw [Bd.returns] at h; cases h)
  refine ⟨_, _, c0 _ (f1_0 p0 p1 X0 hx hZ hw hby hown (fun pc Ls hd => retN X0 hx (t := .boolean) Bd.returns (by simp) hd (by rw [nz_f1 p0 p1]; exact hr))), hrun, hended, _, _, rfl, ?_, ⟨_, rfl⟩, hW, hsame.mono (by decide) (by decide)⟩
  show Q_rm1 Z p0 p1 h0 n0 _ s₁.heap _
  rw [e0]
  exact ⟨rfl, N0, rfl⟩
theorem d2_0 : decode method_2_code 0 = .ok (.iload_n 0, 1) := by decide +kernel
theorem d2_1 : decode method_2_code 1 = .ok (.iconst 1, 1) := by decide +kernel
theorem d2_2 : decode method_2_code 2 = .ok (.iand, 1) := by decide +kernel
theorem d2_3 : decode method_2_code 3 = .ok (.ifCond .eq 13, 3) := by decide +kernel
theorem d2_6 : decode method_2_code 6 = .ok (.iload_n 0, 1) := by decide +kernel
theorem d2_7 : decode method_2_code 7 = .ok (.bipush 7, 2) := by decide +kernel
theorem d2_9 : decode method_2_code 9 = .ok (.if_icmp .eq 7, 3) := by decide +kernel
theorem d2_12 : decode method_2_code 12 = .ok (.iconst 1, 1) := by decide +kernel
theorem d2_13 : decode method_2_code 13 = .ok (.goto 4, 3) := by decide +kernel
theorem d2_16 : decode method_2_code 16 = .ok (.iconst 0, 1) := by decide +kernel
theorem d2_17 : decode method_2_code 17 = .ok (.ireturn, 1) := by decide +kernel
def f2_16_r  : Int32 := (0 : Int32)
def f2_0_r (i0 : Int32) : Int32 := if (i0 &&& (1 : Int32)) = (0 : Int32) then f2_16_r else if i0 = (7 : Int32) then f2_16_r else (1 : Int32)
set_option maxRecDepth 65536 in
set_option maxHeartbeats 40000000 in
theorem f2_16 {p : Program} {l : Launch} {e : Env} {R : Room} {s : State} {m : MethodId} {args : Array Value} {below : List Frame} {meth : Method} {c : Code} {T : State} {locs : List Loc} {cells slots : Nat} {Z : State} {a0 : Array Value} {target : State} (i0 : Int32) (X : Stand p l e R s m args below meth c T locs cells slots) (hx : p.tables.exec = Jvm.exec) (hZ : Z.Warmed39 s.vm) (hw : ∀ d ∈ tables_1, d.before a0 Z = true) (hby : c.code = method_2_code) (hown : s.vm.findClass "com/example/tapeline/tapeline/GravityNamesPlacePinLaw" = some m.cls) (k : ∀ (pc : Nat) (Ls : Array Slot), decode c.code pc = .ok (.ireturn, 1) → Steps p.tables e below (T.setTop (mkF m pc Ls [(.int (f2_16_r))])) target) :
    Steps p.tables e below (T.setTop (mkF m 16 #[.val (.int i0)] [])) target := by
  show Steps p.tables e below (T.setTop (mkF m 16 #[.val (.int i0)] [])) _
  refine XS.iconst X.here hx rfl (hb hby d2_16) ?_
  have e_r : (f2_16_r) = (0 : Int32) := by rfl
  rw [e_r] at k
  exact k _ _ (hb hby d2_17)
set_option maxRecDepth 65536 in
set_option maxHeartbeats 40000000 in
theorem f2_0 {p : Program} {l : Launch} {e : Env} {R : Room} {s : State} {m : MethodId} {args : Array Value} {below : List Frame} {meth : Method} {c : Code} {T : State} {locs : List Loc} {cells slots : Nat} {Z : State} {a0 : Array Value} {target : State} (i0 : Int32) (X : Stand p l e R s m args below meth c T locs cells slots) (hx : p.tables.exec = Jvm.exec) (hZ : Z.Warmed39 s.vm) (hw : ∀ d ∈ tables_1, d.before a0 Z = true) (hby : c.code = method_2_code) (hown : s.vm.findClass "com/example/tapeline/tapeline/GravityNamesPlacePinLaw" = some m.cls) (k : ∀ (pc : Nat) (Ls : Array Slot), decode c.code pc = .ok (.ireturn, 1) → Steps p.tables e below (T.setTop (mkF m pc Ls [(.int (f2_0_r i0))])) target) :
    Steps p.tables e below (T.setTop (mkF m 0 #[.val (.int i0)] [])) target := by
  show Steps p.tables e below (T.setTop (mkF m 0 #[.val (.int i0)] [])) _
  refine XS.iloadN X.here hx rfl (hb hby d2_0) rfl ?_
  show Steps p.tables e below (T.setTop (mkF m 1 #[.val (.int i0)] [(.int i0)])) _
  refine XS.iconst X.here hx rfl (hb hby d2_1) ?_
  show Steps p.tables e below (T.setTop (mkF m 2 #[.val (.int i0)] [(.int (1 : Int32)), (.int i0)])) _
  refine XS.iand X.here hx rfl (hb hby d2_2) rfl ?_
  show Steps p.tables e below (T.setTop (mkF m 3 #[.val (.int i0)] [(.int (i0 &&& (1 : Int32)))])) _
  by_cases q3 : (i0 &&& (1 : Int32)) = (0 : Int32)
  · refine XS.ifYes X.here hx rfl (pc0 := 3) (pc' := 16) rfl (hb hby d2_3) rfl ((if0 _ _).trans (teq q3).1) (by decide) (by decide) ?_
    have e_r : (f2_0_r i0) = f2_16_r := by unfold f2_0_r; rw [if_pos q3]
    rw [e_r] at k
    exact f2_16 i0 X hx hZ hw hby hown k
  · refine XS.ifNo X.here hx rfl (hb hby d2_3) rfl ((if0 _ _).trans (feq q3).1) ?_
    show Steps p.tables e below (T.setTop (mkF m 6 #[.val (.int i0)] [])) _
    refine XS.iloadN X.here hx rfl (hb hby d2_6) rfl ?_
    show Steps p.tables e below (T.setTop (mkF m 7 #[.val (.int i0)] [(.int i0)])) _
    refine XS.bipush X.here hx rfl (hb hby d2_7) ?_
    show Steps p.tables e below (T.setTop (mkF m 9 #[.val (.int i0)] [(.int (7 : Int32)), (.int i0)])) _
    by_cases q9 : i0 = (7 : Int32)
    · refine XS.icmpYes X.here hx rfl (pc0 := 9) (pc' := 16) rfl (hb hby d2_9) rfl (teq q9).1 (by decide) (by decide) ?_
      have e_r : (f2_0_r i0) = f2_16_r := by unfold f2_0_r; rw [if_neg q3, if_pos q9]
      rw [e_r] at k
      exact f2_16 i0 X hx hZ hw hby hown k
    · refine XS.icmpNo X.here hx rfl (hb hby d2_9) rfl (feq q9).1 ?_
      show Steps p.tables e below (T.setTop (mkF m 12 #[.val (.int i0)] [])) _
      refine XS.iconst X.here hx rfl (hb hby d2_12) ?_
      show Steps p.tables e below (T.setTop (mkF m 13 #[.val (.int i0)] [(.int (1 : Int32))])) _
      refine XS.goto X.here hx rfl (pc0 := 13) (pc' := 17) rfl (hb hby d2_13) (by decide) (by decide) ?_
      have e_r : (f2_0_r i0) = (1 : Int32) := by unfold f2_0_r; rw [if_neg q3, if_neg q9]
      rw [e_r] at k
      exact k _ _ (hb hby d2_17)
theorem z01_f2_16_r  : (f2_16_r) = 0 ∨ (f2_16_r) = 1 := by
  unfold f2_16_r
  repeat' split
  all_goals first | exact Or.inl rfl | exact Or.inr rfl
theorem z01_f2_0_r (i0 : Int32) : (f2_0_r i0) = 0 ∨ (f2_0_r i0) = 1 := by
  unfold f2_0_r
  repeat' split
  all_goals first | exact Or.inl rfl | exact Or.inr rfl | exact z01_f2_16_r 
theorem nz_f2 (p0 : Int32) : nar .boolean (f2_0_r p0) = (f2_0_r p0) := by rcases z01_f2_0_r p0 with h | h <;> rw [h] <;> rfl
theorem pn_1 : plainName "com/example/tapeline/tapeline/GravityNamesPlacePinLaw" = true := by first | (simp [plainName, overriddenIn]; done) | decide +kernel
theorem ef_rm2 (m : MethodId) (x0 : Int32) : entryFrame m #[(.int x0)] 1 = mkF m 0 #[.val (.int x0)] [] := by first | (simp [entryFrame, mkF, argsToLocals, Value.category]; done) | rfl
def Q_rm2 (Z : State) (p0 : Int32) (h0 : Heap) (n0 : Nat) (v : Option Value) (h : Heap) (L : List Loc) : Prop := v = some (.int (f2_0_r p0)) ∧ Fr n0 L ∧ h = h0
set_option maxRecDepth 65536 in
set_option maxHeartbeats 40000000 in
theorem rm2 (l : Launch) (Z : State) (a0 : Array Value) (hw : ∀ d ∈ tables_1, d.before a0 Z = true) (ws : List Jvm.Cond) (p0 : Int32) (h0 : Heap) (n0 : Nat) (Z0 : n0 ≤ h0.size) :
    MetFree l (⟨"com/example/tapeline/tapeline/GravityNamesPlacePinLaw", "expected", "(I)Z"⟩ : MethodName) (head1 (Jvm.Cond.code (⟨"com/example/tapeline/tapeline/GravityNamesPlacePinLaw", "expected", "(I)Z"⟩ : MethodName) method_2_code 1 (some .boolean) :: ws) ({ frames := 0, cells := 0, slots := 0, locals := 0 } : Room)) (fun a U => a = #[(.int p0)] ∧ Z.Warmed39 U.vm ∧ U.heap = h0) (fun _ _ _ _ _ => True) (fun _ U o U' => ∃ v L, o = .returned v ∧ Q_rm2 Z p0 h0 n0 v U'.heap L ∧ FrameEnd U o U' L ({ frames := 0, cells := 0, slots := 0, locals := 0 } : Room).cells ({ frames := 0, cells := 0, slots := 0, locals := 0 } : Room).slots) := by
  refine MetFree.of_bodySF (plainFor_of_name pn_1) hisR ?_
  intro p e s m args below meth c s₁ Bd hml0 hP hK
  obtain ⟨rfl, hZ, hh⟩ := hP
  have hx := Bd.exec
  have hby := Bd.bytes
  have hml : c.maxLocals = 1 := hml0
  have hown : s.vm.findClass "com/example/tapeline/tapeline/GravityNamesPlacePinLaw" = some m.cls := findClass_of_methodNamed Bd.named
  have hnm := (name_of_methodNamed Bd.named Bd.method).1
  have X0 : Stand p l e ({ frames := 0, cells := 0, slots := 0, locals := 0 } : Room) s m #[(.int p0)] below meth c s₁ [] 0 0 := Stand.of_body Bd
  have e0 : s₁.heap = h0 := by rw [← hh, Bd.state]; rfl
  have N0 := Fr.nil n0
  have c0 : ∀ t, Steps p.tables e below (s₁.setTop (mkF m 0 #[.val (.int p0)] [])) t → Steps p.tables e below (s₁.setTop (entryFrame m #[(.int p0)] 1)) t := fun t k => castTop (ef_rm2 m p0) k
  obtain ⟨fs, hr, hrun, hended, hW, hsame⟩ := X0.leave (v := some (.int (f2_0_r p0))) (fun h => by rw [Bd.returns] at h; cases h)
  refine ⟨_, _, c0 _ (f2_0 p0 X0 hx hZ hw hby hown (fun pc Ls hd => retN X0 hx (t := .boolean) Bd.returns (by simp) hd (by rw [nz_f2 p0]; exact hr))), hrun, hended, _, _, rfl, ?_, ⟨_, rfl⟩, hW, hsame.mono (by decide) (by decide)⟩
  show Q_rm2 Z p0 h0 n0 _ s₁.heap _
  rw [e0]
  exact ⟨rfl, N0, rfl⟩
theorem own_c8 {b : Int32} (h : 0 ≤ b.toInt ∧ b.toInt ≤ (7 : Int32).toInt) : b = 0 ∨ b = 1 ∨ b = 2 ∨ b = 3 ∨ b = 4 ∨ b = 5 ∨ b = 6 ∨ b = 7 := by
  have e7 : (7 : Int32).toInt = 7 := rfl
  have e : b.toInt = 0 ∨ b.toInt = 1 ∨ b.toInt = 2 ∨ b.toInt = 3 ∨ b.toInt = 4 ∨ b.toInt = 5 ∨ b.toInt = 6 ∨ b.toInt = 7 := by omega
  rcases e with e | e | e | e | e | e | e | e
  · exact Or.inl (Int32.toInt_inj.mp e)
  · exact Or.inr (Or.inl (Int32.toInt_inj.mp e))
  · exact Or.inr (Or.inr (Or.inl (Int32.toInt_inj.mp e)))
  · exact Or.inr (Or.inr (Or.inr (Or.inl (Int32.toInt_inj.mp e))))
  · exact Or.inr (Or.inr (Or.inr (Or.inr (Or.inl (Int32.toInt_inj.mp e)))))
  · exact Or.inr (Or.inr (Or.inr (Or.inr (Or.inr (Or.inl (Int32.toInt_inj.mp e))))))
  · exact Or.inr (Or.inr (Or.inr (Or.inr (Or.inr (Or.inr (Or.inl (Int32.toInt_inj.mp e)))))))
  · exact Or.inr (Or.inr (Or.inr (Or.inr (Or.inr (Or.inr (Or.inr (Int32.toInt_inj.mp e)))))))
theorem own_nat (x : Nat) : x &&& 112 = ((x >>> 4) &&& 7) <<< 4 := by
  apply Nat.eq_of_testBit_eq
  intro i
  simp only [Nat.testBit_and, Nat.testBit_shiftLeft, Nat.testBit_shiftRight]
  by_cases h : 4 ≤ i
  · obtain ⟨j, rfl⟩ := Nat.exists_eq_add_of_le h
    have q : Nat.testBit 112 (4 + j) = Nat.testBit 7 j := by rw [← Nat.testBit_shiftRight]; rfl
    simp [q]
  · have q : i = 0 ∨ i = 1 ∨ i = 2 ∨ i = 3 := by omega
    rcases q with rfl | rfl | rfl | rfl <;> simp <;> (intro _; rfl)
theorem own_112 (g : Int32) : (g &&& 112).toBitVec.toNat = 16 * ((((g.toUInt32 >>> ((4 : Int32) &&& 31).toUInt32).toInt32) &&& (7 : Int32))).toBitVec.toNat := by
  have e1 : (g &&& 112).toBitVec.toNat = g.toBitVec.toNat &&& 112 := rfl
  have e2 : ((((g.toUInt32 >>> ((4 : Int32) &&& 31).toUInt32).toInt32) &&& (7 : Int32))).toBitVec.toNat = (g.toBitVec.toNat >>> 4) &&& 7 := rfl
  rw [e1, e2, own_nat, Nat.shiftLeft_eq]
  omega
theorem own_16 (g b : Int32) (k : Nat) (hb : b.toBitVec.toNat = k) (h : (g &&& 112).toBitVec.toNat = 16 * b.toBitVec.toNat) (q : Int32) (hq : q.toBitVec.toNat = 16 * k) : g &&& 112 = q :=
  Int32.toBitVec_inj.mp (BitVec.eq_of_toNat_eq (by rw [h, hb, hq]))
theorem own_A (g : Int32) : f1_0_r g (7 : Int32) = f2_0_r (g &&& (7 : Int32)) := by
  have e := c_and g 7 (by decide)
  unfold f1_0_r
  generalize (g &&& (7 : Int32)) = b at *
  rcases own_c8 e with rfl | rfl | rfl | rfl | rfl | rfl | rfl | rfl <;> decide
theorem own_B (g : Int32) : f1_0_r g (112 : Int32) = f2_0_r (((g.toUInt32 >>> ((4 : Int32) &&& 31).toUInt32).toInt32) &&& (7 : Int32)) := by
  have e := c_and ((g.toUInt32 >>> ((4 : Int32) &&& 31).toUInt32).toInt32) 7 (by decide)
  have h := own_112 g
  unfold f1_0_r
  generalize (((g.toUInt32 >>> ((4 : Int32) &&& 31).toUInt32).toInt32) &&& (7 : Int32)) = b at *
  rcases own_c8 e with rfl | rfl | rfl | rfl | rfl | rfl | rfl | rfl
  · rw [own_16 g 0 0 rfl h 0 rfl]; decide
  · rw [own_16 g 1 1 rfl h 16 rfl]; decide
  · rw [own_16 g 2 2 rfl h 32 rfl]; decide
  · rw [own_16 g 3 3 rfl h 48 rfl]; decide
  · rw [own_16 g 4 4 rfl h 64 rfl]; decide
  · rw [own_16 g 5 5 rfl h 80 rfl]; decide
  · rw [own_16 g 6 6 rfl h 96 rfl]; decide
  · rw [own_16 g 7 7 rfl h 112 rfl]; decide
theorem pd_1 : parseMethodDescriptor "(II)Z" = some ⟨[.int, .int], some .boolean⟩ := by decide +kernel
theorem pd_0 : parseMethodDescriptor "(I)Z" = some ⟨[.int], some .boolean⟩ := by decide +kernel
theorem ef_rm0 (m : MethodId) (x0 : Int32) : entryFrame m #[(.int x0)] maxLocals = mkF m 0 #[.val (.int x0), .unset, .unset, .unset, .unset] [] := by first | (simp [entryFrame, mkF, argsToLocals, Value.category, maxLocals]; done) | rfl
def Q_rm0 (Z : State) (p0 : Int32) (h0 : Heap) (n0 : Nat) (v : Option Value) (h : Heap) (L : List Loc) : Prop := v = some (.int (1 : Int32)) ∧ Fr n0 L
set_option maxRecDepth 65536 in
set_option maxHeartbeats 40000000 in
theorem rm0 (l : Launch) (Z : State) (a0 : Array Value) (hw : ∀ d ∈ tables_1, d.before a0 Z = true) (ws : List Jvm.Cond) (p0 : Int32) (h0 : Heap) (n0 : Nat) (Z0 : n0 ≤ h0.size) :
    MetFree l x (head1 (Jvm.Cond.code x code maxLocals ret :: ws) room_1) (fun a U => a = #[(.int p0)] ∧ Z.Warmed39 U.vm ∧ U.heap = h0) (fun _ _ _ _ _ => True) (fun _ U o U' => ∃ v L, o = .returned v ∧ Q_rm0 Z p0 h0 n0 v U'.heap L ∧ FrameEnd U o U' L room_1.cells room_1.slots) := by
  refine MetFree.of_bodySF (plainFor_of_name pn_1) hisR ?_
  intro p e s m args below meth c s₁ Bd hml0 hP hK
  obtain ⟨rfl, hZ, hh⟩ := hP
  have hx := Bd.exec
  have hby := Bd.bytes
  have hml : c.maxLocals = 5 := hml0
  have hown : s.vm.findClass "com/example/tapeline/tapeline/GravityNamesPlacePinLaw" = some m.cls := findClass_of_methodNamed Bd.named
  have hnm := (name_of_methodNamed Bd.named Bd.method).1
  have X0 : Stand p l e room_1 s m #[(.int p0)] below meth c s₁ [] 0 0 := Stand.of_body Bd
  have e0 : s₁.heap = h0 := by rw [← hh, Bd.state]; rfl
  have N0 := Fr.nil n0
  have c0 : ∀ t, Steps p.tables e below (s₁.setTop (mkF m 0 #[.val (.int p0), .unset, .unset, .unset, .unset] [])) t → Steps p.tables e below (s₁.setTop (entryFrame m #[(.int p0)] maxLocals)) t := fun t k => castTop (ef_rm0 m p0) k
  have c1 : ∀ t, Steps p.tables e below (s₁.setTop (mkF m 3 #[.val (.int p0), .unset, .unset, .unset, .unset] [(.int (7 : Int32)), (.int p0)])) t → Steps p.tables e below (s₁.setTop (entryFrame m #[(.int p0)] maxLocals)) t := fun t k => c0 t (by
      show Steps p.tables e below (s₁.setTop (mkF m 0 #[.val (.int p0), .unset, .unset, .unset, .unset] [])) _
      refine XS.iloadN X0.here hx rfl (hb hby at_0) rfl ?_
      show Steps p.tables e below (s₁.setTop (mkF m 1 #[.val (.int p0), .unset, .unset, .unset, .unset] [(.int p0)])) _
      refine XS.bipush X0.here hx rfl (hb hby at_1) ?_
      exact k)
  obtain ⟨_, _, ⟨T2, L2, k2, n2⟩, -, X2, ⟨Lc2, hQ2, l2, y2, z2⟩, st2⟩ := Jvm.LawKit.callS X0 hx (y := (⟨"com/example/tapeline/tapeline/Gravity", "namesPlace", "(II)Z"⟩ : MethodName)) hown (mvT hZ (hw _ (List.mem_of_getElem? (i := 0) rfl))) (mvT hZ (hw _ (List.mem_of_getElem? (i := 1) rfl))) (mvT hZ (hw _ (List.mem_of_getElem? (i := 2) rfl))) (mvT hZ (hw _ (List.mem_of_getElem? (i := 3) rfl))) (by decide) (backOf (W := 0) (rm1 l Z a0 hw [] p0 (7 : Int32) h0 n0 Z0) hZ (hw _ (List.mem_of_getElem? (i := 3) rfl)) (hw _ (List.mem_of_getElem? (i := 2) rfl)) (by decide) (by decide)) (g := (mkF m 3 #[.val (.int p0), .unset, .unset, .unset, .unset] [(.int (7 : Int32)), (.int p0)])) rfl (by rw [hml]; rfl) (argsL := [(.int p0), (.int (7 : Int32))]) (rest := []) (lenOf pd_1 rfl) rfl (by show 2 * 0 + _ ≤ _; exact Nat.le_of_eq rfl) (hb hby at_3) (fun _ _ => ⟨rfl, e0, (by decide : 0 + 0 ≤ _), (by decide : 0 + 0 ≤ _)⟩)
  dsimp only [Pt.U, Pt.locs, Pt.cells, Pt.slots] at X2 l2 y2 z2 st2 hQ2
  subst l2 y2 z2
  obtain ⟨rfl, N2q, e2⟩ := hQ2
  have N2 := Fr.app N0 N2q
  have c3 : ∀ t, Steps p.tables e below (T2.setTop (mkF m 6 #[.val (.int p0), .unset, .unset, .unset, .unset] [(.int (f1_0_r p0 (7 : Int32)))])) t → Steps p.tables e below (s₁.setTop (entryFrame m #[(.int p0)] maxLocals)) t := fun t k => c1 t (st2 t k)
  have c4 : ∀ t, Steps p.tables e below (T2.setTop (mkF m 10 #[.val (.int p0), .val (.int (f1_0_r p0 (7 : Int32))), .unset, .unset, .unset] [(.int (112 : Int32)), (.int p0)])) t → Steps p.tables e below (s₁.setTop (entryFrame m #[(.int p0)] maxLocals)) t := fun t k => c3 t (by
      show Steps p.tables e below (T2.setTop (mkF m 6 #[.val (.int p0), .unset, .unset, .unset, .unset] [(.int (f1_0_r p0 (7 : Int32)))])) _
      refine XS.istoreN X2.here hx rfl (hb hby at_6) rfl (l' := #[.val (.int p0), .val (.int (f1_0_r p0 (7 : Int32))), .unset, .unset, .unset]) rfl ?_
      show Steps p.tables e below (T2.setTop (mkF m 7 #[.val (.int p0), .val (.int (f1_0_r p0 (7 : Int32))), .unset, .unset, .unset] [])) _
      refine XS.iloadN X2.here hx rfl (hb hby at_7) rfl ?_
      show Steps p.tables e below (T2.setTop (mkF m 8 #[.val (.int p0), .val (.int (f1_0_r p0 (7 : Int32))), .unset, .unset, .unset] [(.int p0)])) _
      refine XS.bipush X2.here hx rfl (hb hby at_8) ?_
      exact k)
  obtain ⟨_, _, ⟨T5, L5, k5, n5⟩, -, X5, ⟨Lc5, hQ5, l5, y5, z5⟩, st5⟩ := Jvm.LawKit.callS X2 hx (y := (⟨"com/example/tapeline/tapeline/Gravity", "namesPlace", "(II)Z"⟩ : MethodName)) hown (mvT hZ (hw _ (List.mem_of_getElem? (i := 0) rfl))) (mvT hZ (hw _ (List.mem_of_getElem? (i := 1) rfl))) (mvT hZ (hw _ (List.mem_of_getElem? (i := 2) rfl))) (mvT hZ (hw _ (List.mem_of_getElem? (i := 3) rfl))) (by decide) (backOf (W := 0) (rm1 l Z a0 hw [] p0 (112 : Int32) h0 n0 Z0) hZ (hw _ (List.mem_of_getElem? (i := 3) rfl)) (hw _ (List.mem_of_getElem? (i := 2) rfl)) (by decide) (by decide)) (g := (mkF m 10 #[.val (.int p0), .val (.int (f1_0_r p0 (7 : Int32))), .unset, .unset, .unset] [(.int (112 : Int32)), (.int p0)])) rfl (by rw [hml]; rfl) (argsL := [(.int p0), (.int (112 : Int32))]) (rest := []) (lenOf pd_1 rfl) rfl (by show 2 * 0 + _ ≤ _; exact Nat.le_of_eq rfl) (hb hby at_10) (fun _ _ => ⟨rfl, e2, (by decide : 0 + 0 ≤ _), (by decide : 0 + 0 ≤ _)⟩)
  dsimp only [Pt.U, Pt.locs, Pt.cells, Pt.slots] at X5 l5 y5 z5 st5 hQ5
  subst l5 y5 z5
  obtain ⟨rfl, N5q, e5⟩ := hQ5
  have N5 := Fr.app N2 N5q
  have c6 : ∀ t, Steps p.tables e below (T5.setTop (mkF m 13 #[.val (.int p0), .val (.int (f1_0_r p0 (7 : Int32))), .unset, .unset, .unset] [(.int (f1_0_r p0 (112 : Int32)))])) t → Steps p.tables e below (s₁.setTop (entryFrame m #[(.int p0)] maxLocals)) t := fun t k => c4 t (st5 t k)
  have c7 : ∀ t, Steps p.tables e below (T5.setTop (mkF m 29 #[.val (.int p0), .val (.int (f1_0_r p0 (7 : Int32))), .val (.int (f1_0_r p0 (112 : Int32))), .val (.int (p0 &&& (7 : Int32))), .val (.int (((p0.toUInt32 >>> ((4 : Int32) &&& 31).toUInt32).toInt32) &&& (7 : Int32)))] [(.int (p0 &&& (7 : Int32))), (.int (f1_0_r p0 (7 : Int32)))])) t → Steps p.tables e below (s₁.setTop (entryFrame m #[(.int p0)] maxLocals)) t := fun t k => c6 t (by
      show Steps p.tables e below (T5.setTop (mkF m 13 #[.val (.int p0), .val (.int (f1_0_r p0 (7 : Int32))), .unset, .unset, .unset] [(.int (f1_0_r p0 (112 : Int32)))])) _
      refine XS.istoreN X5.here hx rfl (hb hby at_13) rfl (l' := #[.val (.int p0), .val (.int (f1_0_r p0 (7 : Int32))), .val (.int (f1_0_r p0 (112 : Int32))), .unset, .unset]) rfl ?_
      show Steps p.tables e below (T5.setTop (mkF m 14 #[.val (.int p0), .val (.int (f1_0_r p0 (7 : Int32))), .val (.int (f1_0_r p0 (112 : Int32))), .unset, .unset] [])) _
      refine XS.iloadN X5.here hx rfl (hb hby at_14) rfl ?_
      show Steps p.tables e below (T5.setTop (mkF m 15 #[.val (.int p0), .val (.int (f1_0_r p0 (7 : Int32))), .val (.int (f1_0_r p0 (112 : Int32))), .unset, .unset] [(.int p0)])) _
      refine XS.bipush X5.here hx rfl (hb hby at_15) ?_
      show Steps p.tables e below (T5.setTop (mkF m 17 #[.val (.int p0), .val (.int (f1_0_r p0 (7 : Int32))), .val (.int (f1_0_r p0 (112 : Int32))), .unset, .unset] [(.int (7 : Int32)), (.int p0)])) _
      refine XS.iand X5.here hx rfl (hb hby at_17) rfl ?_
      show Steps p.tables e below (T5.setTop (mkF m 18 #[.val (.int p0), .val (.int (f1_0_r p0 (7 : Int32))), .val (.int (f1_0_r p0 (112 : Int32))), .unset, .unset] [(.int (p0 &&& (7 : Int32)))])) _
      refine XS.istoreN X5.here hx rfl (hb hby at_18) rfl (l' := #[.val (.int p0), .val (.int (f1_0_r p0 (7 : Int32))), .val (.int (f1_0_r p0 (112 : Int32))), .val (.int (p0 &&& (7 : Int32))), .unset]) rfl ?_
      show Steps p.tables e below (T5.setTop (mkF m 19 #[.val (.int p0), .val (.int (f1_0_r p0 (7 : Int32))), .val (.int (f1_0_r p0 (112 : Int32))), .val (.int (p0 &&& (7 : Int32))), .unset] [])) _
      refine XS.iloadN X5.here hx rfl (hb hby at_19) rfl ?_
      show Steps p.tables e below (T5.setTop (mkF m 20 #[.val (.int p0), .val (.int (f1_0_r p0 (7 : Int32))), .val (.int (f1_0_r p0 (112 : Int32))), .val (.int (p0 &&& (7 : Int32))), .unset] [(.int p0)])) _
      refine XS.iconst X5.here hx rfl (hb hby at_20) ?_
      show Steps p.tables e below (T5.setTop (mkF m 21 #[.val (.int p0), .val (.int (f1_0_r p0 (7 : Int32))), .val (.int (f1_0_r p0 (112 : Int32))), .val (.int (p0 &&& (7 : Int32))), .unset] [(.int (4 : Int32)), (.int p0)])) _
      refine XS.iushr X5.here hx rfl (hb hby at_21) rfl ?_
      show Steps p.tables e below (T5.setTop (mkF m 22 #[.val (.int p0), .val (.int (f1_0_r p0 (7 : Int32))), .val (.int (f1_0_r p0 (112 : Int32))), .val (.int (p0 &&& (7 : Int32))), .unset] [(.int ((p0.toUInt32 >>> ((4 : Int32) &&& 31).toUInt32).toInt32))])) _
      refine XS.bipush X5.here hx rfl (hb hby at_22) ?_
      show Steps p.tables e below (T5.setTop (mkF m 24 #[.val (.int p0), .val (.int (f1_0_r p0 (7 : Int32))), .val (.int (f1_0_r p0 (112 : Int32))), .val (.int (p0 &&& (7 : Int32))), .unset] [(.int (7 : Int32)), (.int ((p0.toUInt32 >>> ((4 : Int32) &&& 31).toUInt32).toInt32))])) _
      refine XS.iand X5.here hx rfl (hb hby at_24) rfl ?_
      show Steps p.tables e below (T5.setTop (mkF m 25 #[.val (.int p0), .val (.int (f1_0_r p0 (7 : Int32))), .val (.int (f1_0_r p0 (112 : Int32))), .val (.int (p0 &&& (7 : Int32))), .unset] [(.int (((p0.toUInt32 >>> ((4 : Int32) &&& 31).toUInt32).toInt32) &&& (7 : Int32)))])) _
      refine XS.istore X5.here hx rfl (hb hby at_25) rfl (l' := #[.val (.int p0), .val (.int (f1_0_r p0 (7 : Int32))), .val (.int (f1_0_r p0 (112 : Int32))), .val (.int (p0 &&& (7 : Int32))), .val (.int (((p0.toUInt32 >>> ((4 : Int32) &&& 31).toUInt32).toInt32) &&& (7 : Int32)))]) rfl ?_
      show Steps p.tables e below (T5.setTop (mkF m 27 #[.val (.int p0), .val (.int (f1_0_r p0 (7 : Int32))), .val (.int (f1_0_r p0 (112 : Int32))), .val (.int (p0 &&& (7 : Int32))), .val (.int (((p0.toUInt32 >>> ((4 : Int32) &&& 31).toUInt32).toInt32) &&& (7 : Int32)))] [])) _
      refine XS.iloadN X5.here hx rfl (hb hby at_27) rfl ?_
      show Steps p.tables e below (T5.setTop (mkF m 28 #[.val (.int p0), .val (.int (f1_0_r p0 (7 : Int32))), .val (.int (f1_0_r p0 (112 : Int32))), .val (.int (p0 &&& (7 : Int32))), .val (.int (((p0.toUInt32 >>> ((4 : Int32) &&& 31).toUInt32).toInt32) &&& (7 : Int32)))] [(.int (f1_0_r p0 (7 : Int32)))])) _
      refine XS.iloadN X5.here hx rfl (hb hby at_28) rfl ?_
      exact k)
  obtain ⟨_, _, ⟨T8, L8, k8, n8⟩, -, X8, ⟨Lc8, hQ8, l8, y8, z8⟩, st8⟩ := Jvm.LawKit.callS X5 hx (y := (⟨"com/example/tapeline/tapeline/GravityNamesPlacePinLaw", "expected", "(I)Z"⟩ : MethodName)) hown (mvT hZ (hw _ (List.mem_of_getElem? (i := 4) rfl))) (mvT hZ (hw _ (List.mem_of_getElem? (i := 5) rfl))) (mvT hZ (hw _ (List.mem_of_getElem? (i := 6) rfl))) (mvT hZ (hw _ (List.mem_of_getElem? (i := 7) rfl))) (by decide) (backOf (W := 1) (rm2 l Z a0 hw [] (p0 &&& (7 : Int32)) h0 n0 Z0) hZ (hw _ (List.mem_of_getElem? (i := 7) rfl)) (hw _ (List.mem_of_getElem? (i := 6) rfl)) (by decide) (by decide)) (g := (mkF m 29 #[.val (.int p0), .val (.int (f1_0_r p0 (7 : Int32))), .val (.int (f1_0_r p0 (112 : Int32))), .val (.int (p0 &&& (7 : Int32))), .val (.int (((p0.toUInt32 >>> ((4 : Int32) &&& 31).toUInt32).toInt32) &&& (7 : Int32)))] [(.int (p0 &&& (7 : Int32))), (.int (f1_0_r p0 (7 : Int32)))])) rfl (by rw [hml]; rfl) (argsL := [(.int (p0 &&& (7 : Int32)))]) (rest := [(.int (f1_0_r p0 (7 : Int32)))]) (lenOf pd_0 rfl) rfl (by show 2 * 0 + _ ≤ _; exact Nat.le_of_eq rfl) (hb hby at_29) (fun _ _ => ⟨rfl, e5, (by decide : 0 + 0 ≤ _), (by decide : 0 + 0 ≤ _)⟩)
  dsimp only [Pt.U, Pt.locs, Pt.cells, Pt.slots] at X8 l8 y8 z8 st8 hQ8
  subst l8 y8 z8
  obtain ⟨rfl, N8q, e8⟩ := hQ8
  have N8 := Fr.app N5 N8q
  have c9 : ∀ t, Steps p.tables e below (T8.setTop (mkF m 32 #[.val (.int p0), .val (.int (f1_0_r p0 (7 : Int32))), .val (.int (f1_0_r p0 (112 : Int32))), .val (.int (p0 &&& (7 : Int32))), .val (.int (((p0.toUInt32 >>> ((4 : Int32) &&& 31).toUInt32).toInt32) &&& (7 : Int32)))] [(.int (f2_0_r (p0 &&& (7 : Int32)))), (.int (f1_0_r p0 (7 : Int32)))])) t → Steps p.tables e below (s₁.setTop (entryFrame m #[(.int p0)] maxLocals)) t := fun t k => c7 t (st8 t k)
  have c10 : ∀ t, Steps p.tables e below (T8.setTop (mkF m 38 #[.val (.int p0), .val (.int (f1_0_r p0 (7 : Int32))), .val (.int (f1_0_r p0 (112 : Int32))), .val (.int (p0 &&& (7 : Int32))), .val (.int (((p0.toUInt32 >>> ((4 : Int32) &&& 31).toUInt32).toInt32) &&& (7 : Int32)))] [(.int (((p0.toUInt32 >>> ((4 : Int32) &&& 31).toUInt32).toInt32) &&& (7 : Int32))), (.int (f1_0_r p0 (112 : Int32)))])) t → Steps p.tables e below (s₁.setTop (entryFrame m #[(.int p0)] maxLocals)) t := fun t k => c9 t (by
      show Steps p.tables e below (T8.setTop (mkF m 32 #[.val (.int p0), .val (.int (f1_0_r p0 (7 : Int32))), .val (.int (f1_0_r p0 (112 : Int32))), .val (.int (p0 &&& (7 : Int32))), .val (.int (((p0.toUInt32 >>> ((4 : Int32) &&& 31).toUInt32).toInt32) &&& (7 : Int32)))] [(.int (f2_0_r (p0 &&& (7 : Int32)))), (.int (f1_0_r p0 (7 : Int32)))])) _
      refine XS.icmpNo X8.here hx rfl (hb hby at_32) rfl (teq (own_A p0)).2 ?_
      show Steps p.tables e below (T8.setTop (mkF m 35 #[.val (.int p0), .val (.int (f1_0_r p0 (7 : Int32))), .val (.int (f1_0_r p0 (112 : Int32))), .val (.int (p0 &&& (7 : Int32))), .val (.int (((p0.toUInt32 >>> ((4 : Int32) &&& 31).toUInt32).toInt32) &&& (7 : Int32)))] [])) _
      refine XS.iloadN X8.here hx rfl (hb hby at_35) rfl ?_
      show Steps p.tables e below (T8.setTop (mkF m 36 #[.val (.int p0), .val (.int (f1_0_r p0 (7 : Int32))), .val (.int (f1_0_r p0 (112 : Int32))), .val (.int (p0 &&& (7 : Int32))), .val (.int (((p0.toUInt32 >>> ((4 : Int32) &&& 31).toUInt32).toInt32) &&& (7 : Int32)))] [(.int (f1_0_r p0 (112 : Int32)))])) _
      refine XS.iload X8.here hx rfl (hb hby at_36) rfl ?_
      exact k)
  obtain ⟨_, _, ⟨T11, L11, k11, n11⟩, -, X11, ⟨Lc11, hQ11, l11, y11, z11⟩, st11⟩ := Jvm.LawKit.callS X8 hx (y := (⟨"com/example/tapeline/tapeline/GravityNamesPlacePinLaw", "expected", "(I)Z"⟩ : MethodName)) hown (mvT hZ (hw _ (List.mem_of_getElem? (i := 4) rfl))) (mvT hZ (hw _ (List.mem_of_getElem? (i := 5) rfl))) (mvT hZ (hw _ (List.mem_of_getElem? (i := 6) rfl))) (mvT hZ (hw _ (List.mem_of_getElem? (i := 7) rfl))) (by decide) (backOf (W := 1) (rm2 l Z a0 hw [] (((p0.toUInt32 >>> ((4 : Int32) &&& 31).toUInt32).toInt32) &&& (7 : Int32)) h0 n0 Z0) hZ (hw _ (List.mem_of_getElem? (i := 7) rfl)) (hw _ (List.mem_of_getElem? (i := 6) rfl)) (by decide) (by decide)) (g := (mkF m 38 #[.val (.int p0), .val (.int (f1_0_r p0 (7 : Int32))), .val (.int (f1_0_r p0 (112 : Int32))), .val (.int (p0 &&& (7 : Int32))), .val (.int (((p0.toUInt32 >>> ((4 : Int32) &&& 31).toUInt32).toInt32) &&& (7 : Int32)))] [(.int (((p0.toUInt32 >>> ((4 : Int32) &&& 31).toUInt32).toInt32) &&& (7 : Int32))), (.int (f1_0_r p0 (112 : Int32)))])) rfl (by rw [hml]; rfl) (argsL := [(.int (((p0.toUInt32 >>> ((4 : Int32) &&& 31).toUInt32).toInt32) &&& (7 : Int32)))]) (rest := [(.int (f1_0_r p0 (112 : Int32)))]) (lenOf pd_0 rfl) rfl (by show 2 * 0 + _ ≤ _; exact Nat.le_of_eq rfl) (hb hby at_38) (fun _ _ => ⟨rfl, e8, (by decide : 0 + 0 ≤ _), (by decide : 0 + 0 ≤ _)⟩)
  dsimp only [Pt.U, Pt.locs, Pt.cells, Pt.slots] at X11 l11 y11 z11 st11 hQ11
  subst l11 y11 z11
  obtain ⟨rfl, N11q, e11⟩ := hQ11
  have N11 := Fr.app N8 N11q
  have c12 : ∀ t, Steps p.tables e below (T11.setTop (mkF m 41 #[.val (.int p0), .val (.int (f1_0_r p0 (7 : Int32))), .val (.int (f1_0_r p0 (112 : Int32))), .val (.int (p0 &&& (7 : Int32))), .val (.int (((p0.toUInt32 >>> ((4 : Int32) &&& 31).toUInt32).toInt32) &&& (7 : Int32)))] [(.int (f2_0_r (((p0.toUInt32 >>> ((4 : Int32) &&& 31).toUInt32).toInt32) &&& (7 : Int32)))), (.int (f1_0_r p0 (112 : Int32)))])) t → Steps p.tables e below (s₁.setTop (entryFrame m #[(.int p0)] maxLocals)) t := fun t k => c10 t (st11 t k)
  have c13 : ∀ t, Steps p.tables e below (T11.setTop (mkF m 49 #[.val (.int p0), .val (.int (f1_0_r p0 (7 : Int32))), .val (.int (f1_0_r p0 (112 : Int32))), .val (.int (p0 &&& (7 : Int32))), .val (.int (((p0.toUInt32 >>> ((4 : Int32) &&& 31).toUInt32).toInt32) &&& (7 : Int32)))] [(.int (1 : Int32))])) t → Steps p.tables e below (s₁.setTop (entryFrame m #[(.int p0)] maxLocals)) t := fun t k => c12 t (by
      show Steps p.tables e below (T11.setTop (mkF m 41 #[.val (.int p0), .val (.int (f1_0_r p0 (7 : Int32))), .val (.int (f1_0_r p0 (112 : Int32))), .val (.int (p0 &&& (7 : Int32))), .val (.int (((p0.toUInt32 >>> ((4 : Int32) &&& 31).toUInt32).toInt32) &&& (7 : Int32)))] [(.int (f2_0_r (((p0.toUInt32 >>> ((4 : Int32) &&& 31).toUInt32).toInt32) &&& (7 : Int32)))), (.int (f1_0_r p0 (112 : Int32)))])) _
      refine XS.icmpNo X11.here hx rfl (hb hby at_41) rfl (teq (own_B p0)).2 ?_
      show Steps p.tables e below (T11.setTop (mkF m 44 #[.val (.int p0), .val (.int (f1_0_r p0 (7 : Int32))), .val (.int (f1_0_r p0 (112 : Int32))), .val (.int (p0 &&& (7 : Int32))), .val (.int (((p0.toUInt32 >>> ((4 : Int32) &&& 31).toUInt32).toInt32) &&& (7 : Int32)))] [])) _
      refine XS.iconst X11.here hx rfl (hb hby at_44) ?_
      show Steps p.tables e below (T11.setTop (mkF m 45 #[.val (.int p0), .val (.int (f1_0_r p0 (7 : Int32))), .val (.int (f1_0_r p0 (112 : Int32))), .val (.int (p0 &&& (7 : Int32))), .val (.int (((p0.toUInt32 >>> ((4 : Int32) &&& 31).toUInt32).toInt32) &&& (7 : Int32)))] [(.int (1 : Int32))])) _
      refine XS.goto X11.here hx rfl (pc0 := 45) (pc' := 49) rfl (hb hby at_45) (by decide) (by decide) ?_
      exact k)
  obtain ⟨fs, hr, hrun, hended, hW, hsame⟩ := X11.leave (v := some (.int (1 : Int32))) (fun h => by rw [Bd.returns] at h; cases h)
  refine ⟨_, _, c13 _ (retN X11 hx (t := .boolean) Bd.returns (by simp) (hb hby at_49) hr), hrun, hended, _, _, rfl, ?_, ⟨_, rfl⟩, hW, hsame.mono (by decide) (by decide)⟩
  show Q_rm0 Z p0 h0 n0 _ T11.heap _
  rw [e11]
  exact ⟨rfl, N11⟩
set_option maxRecDepth 65536 in
set_option maxHeartbeats 40000000 in
theorem comes_1 {Post : Tables → Env → Array Value → State → Outcome → State → Prop} (hpost : ∀ tb e args s v u, (limb_1_1.after args s (.returned v) u = true ∧ limb_1_2.after args s (.returned v) u = true ∧ True) → FrameEnd s (.returned v) u (Jvm.fieldLocs frame_1_writes args s ++ Jvm.arrayLocs frame_1_arrays args s ++ Jvm.staticLocs frame_1_statics s) 0 0 → Post tb e args s (.returned v) u) :
    ArmFor flags0 classFile x code maxLocals ret World_1 tables_1 room_1 Calls_1 rest_1 Pre_1 Post := by
  intro l hfl _ _ p e ha hc hk s m args below hf hA hF happ hP
  obtain ⟨hcalls, hrest, hpre⟩ := hP
  obtain ⟨-, -, -, hnamed, -, -, -, hat⟩ := (Spec.applies_iff hf).mp happ
  obtain ⟨hg, hn⟩ := and_e (Cond.before_iff.mp (show (Jvm.Cond.and given_1 narrow_1).before args s = true from hpre))
  obtain ⟨g1, g2⟩ := and_e hg
  obtain ⟨w0, rfl⟩ : ∃ w0 : Value, args = #[w0] := by
    have hs : args.size = 1 := by simpa [Cond.value, given_1] using g1
    obtain ⟨L⟩ := args
    match L, hs with
    | [w0], _ => exact ⟨w0, rfl⟩
  have hw := fun d (hd : d ∈ tables_1) => atoms_spec (ws := Jvm.Cond.code x code maxLocals ret :: tables_1) hat d (List.mem_cons_of_mem _ hd)
  have hfit : Fit s := fun {y c} hc i hi => by
    obtain ⟨ha, rfl⟩ := Array.getElem?_eq_some_iff.mp hc
    have q := List.all_eq_true.mp ((Array.all_eq_true_iff_forall_mem.mp hF) _ (Array.getElem_mem ha)) i (List.mem_range.mpr hi)
    simpa [Array.getElem?_eq_getElem hi] using q
  obtain ⟨i0, ei0⟩ := is_v g2
  obtain rfl : w0 = (.int i0) := Option.some.inj ei0
  obtain ⟨n, o, h1, h2, h3, _, L, rfl, ⟨rfl, N⟩, hq⟩ := rm0 l s _ hw tables_1 i0 s.heap s.heap.size (Nat.le_refl _) p e ha hc hk s m _ below hf ((Spec.applies_iff_loose hf).mp happ).1 ⟨rfl, State.Warmed39.refl s, rfl⟩ trivial
  refine ⟨n, _, h1, h2, h3, hpost _ _ _ _ _ _ ⟨Cond.after_iff.mpr rfl, Cond.after_iff.mpr (eq_i res_at (Term.int_eval (1)) rfl), trivial⟩ ⟨hq.1, hq.2.1, (hq.2.2.sift fun y hy => Or.inr (N y hy)).mono (by decide) (by decide)⟩⟩
theorem main_1_1 : Claimed_1_1 := comes_1 fun _ _ _ _ _ _ h hF => ⟨h.1, hF⟩
theorem main_1_2 : Claimed_1_2 := comes_1 fun _ _ _ _ _ _ h hF => ⟨h.2.1, hF⟩
end Jvm.Pilot.@@N@@
namespace Jvm.Pilot.@@N@@
open Jvm Jvm.ClassFile Sem Op Lib Jvm.Free Jvm.Stand Jvm.Pilot.@@N@@.Jvm.D
/-! MADE BY PROGRAM (witnessworld.py) out of the Statement's table words and the real class files: 9 classes; the members and pool entries that the words name. The judged class is class 1, her method 2. -/
namespace start1
open Jvm.ClassFile
def u (s : String) : CpInfo := .utf8 (stringToUtf16 s)
/-- a pool by its gaps: so many unusable entries, then the entry; so many at the end -/
def gap : Nat → List CpInfo → List CpInfo
  | 0, r => r
  | n + 1, r => .unusable :: gap n r
def poolList (es : List (Nat × CpInfo)) (last : Nat) : List CpInfo := es.foldr (fun e r => gap e.1 (e.2 :: r)) (gap last [])
def pool (es : List (Nat × CpInfo)) (last : Nat) : Array CpInfo := ⟨poolList es last⟩
def fileOf (pool : Array CpInfo) (this : Nat) (attrs : Array Attribute := #[]) (ms : Array MethodInfo := #[]) (fl : Nat := 33) (sup : Nat := 0) (ifs : Array Nat := #[]) (fds : Array FieldInfo := #[]) : ClassFile where
  minorVersion := 0
  majorVersion := 65
  constantPool := pool
  accessFlags := fl
  thisClass := this
  superClass := sup
  interfaces := ifs
  fields := fds
  methods := ms
  attributes := attrs
def plain (name : String) (sup : Option ClassId) : Class where
  name := name
  kind := .ordinary
  loader := none
  accessFlags := 33
  super := sup
  interfaces := #[]
  cf := none
  fields := #[]
  methods := #[]
  instanceTypes := #[]
  staticTypes := #[]
  resolved := #[]
  callSites := []
  init := .initialized
  statics := none
  mirror := none

def pool0 : Array CpInfo := pool [(5, u "<init>"), (0, u "()V"), (1, .class_ 10), (1, u "java/lang/Object")] 113

def k0m0 : Method := { name := "<init>", desc := "()V", sig := { parameters := [], returnType := none }, accessFlags := 1, code := none }
/-- java/lang/Object -/
def k0 : Class := { plain "java/lang/Object" none with
  accessFlags := 33
  interfaces := #[]
  cf := some (fileOf pool0 8 #[] #[{ accessFlags := 1, nameIndex := 5, descriptorIndex := 6, attributes := #[] }] 33 0 #[] #[])
  fields := #[]
  methods := #[k0m0]
  instanceTypes := #[]
  staticTypes := #[]
  resolved := Array.replicate 124 none
  statics := none }

def pool1 : Array CpInfo := pool [(2, .class_ 4), (1, u "java/lang/Object"), (0, u "<init>"), (0, u "()V"), (0, .class_ 8), (0, u "com/example/tapeline/tapeline/Gravity"), (0, .methodref 7 10), (0, .nameAndType 11 12), (0, u "namesPlace"), (0, u "(II)Z"), (0, .methodref 14 15), (0, .class_ 16), (0, .nameAndType 17 18), (0, u "com/example/tapeline/tapeline/GravityNamesPlacePinLaw"), (0, u "expected"), (0, u "(I)Z"), (3, u "law")] 2

def k1m0 : Method := { name := "<init>", desc := "()V", sig := { parameters := [], returnType := none }, accessFlags := 2, code := none }
def k1c1 : Code := { maxStack := 2, maxLocals := 1, code := method_2_code, exceptionTable := #[], attributes := #[] }
def k1m1 : Method := { name := "expected", desc := "(I)Z", sig := { parameters := [.int], returnType := some .boolean }, accessFlags := 10, code := some k1c1 }
def k1c2 : Code := { maxStack := 2, maxLocals := 5, code := code, exceptionTable := #[], attributes := #[] }
def k1m2 : Method := { name := "law", desc := "(I)Z", sig := { parameters := [.int], returnType := some .boolean }, accessFlags := 9, code := some k1c2 }
/-- com/example/tapeline/tapeline/GravityNamesPlacePinLaw -/
def k1 : Class := { plain "com/example/tapeline/tapeline/GravityNamesPlacePinLaw" (some 0) with
  accessFlags := 49
  interfaces := #[]
  cf := some (fileOf pool1 14 #[] #[{ accessFlags := 2, nameIndex := 5, descriptorIndex := 6, attributes := #[] }, { accessFlags := 10, nameIndex := 17, descriptorIndex := 18, attributes := #[] }, { accessFlags := 9, nameIndex := 22, descriptorIndex := 18, attributes := #[] }] 49 2 #[] #[])
  fields := #[]
  methods := #[k1m0, k1m1, k1m2]
  instanceTypes := #[]
  staticTypes := #[]
  resolved := Array.replicate 25 none
  statics := none }

def pool2 : Array CpInfo := pool [(1, .class_ 2), (0, u "com/example/tapeline/tapeline/Gravity"), (1, .class_ 6), (1, u "java/lang/Object"), (0, u "<init>"), (0, u "()V"), (55, u "ATTRIBUTE_VALUES"), (0, u "Lcom/example/tapeline/tapeline/AttributeSet$Flags;"), (0, u "NO_GRAVITY"), (0, u "I"), (2, u "TOP"), (1, u "BOTTOM"), (1, u "LEFT"), (1, u "RIGHT"), (1, u "CENTER_VERTICAL"), (1, u "FILL_VERTICAL"), (1, u "CENTER_HORIZONTAL"), (1, u "FILL_HORIZONTAL"), (1, u "CENTER"), (1, u "FILL"), (1, u "CLIP_VERTICAL"), (1, u "CLIP_HORIZONTAL"), (1, u "RELATIVE_LAYOUT_DIRECTION"), (1, u "START"), (0, u "END"), (0, u "HORIZONTAL_GRAVITY_MASK"), (0, u "VERTICAL_GRAVITY_MASK"), (0, u "RELATIVE_HORIZONTAL_GRAVITY_MASK"), (6, u "namesPlace"), (0, u "(II)Z")] 8

def k2m0 : Method := { name := "<init>", desc := "()V", sig := { parameters := [], returnType := none }, accessFlags := 2, code := none }
def k2c1 : Code := { maxStack := 2, maxLocals := 2, code := prog_15_method_3_code, exceptionTable := #[], attributes := #[] }
def k2m1 : Method := { name := "namesPlace", desc := "(II)Z", sig := { parameters := [.int, .int], returnType := some .boolean }, accessFlags := 8, code := some k2c1 }
/-- com/example/tapeline/tapeline/Gravity -/
def k2 : Class := { plain "com/example/tapeline/tapeline/Gravity" (some 0) with
  accessFlags := 49
  interfaces := #[]
  cf := some (fileOf pool2 1 #[] #[{ accessFlags := 2, nameIndex := 7, descriptorIndex := 8, attributes := #[] }, { accessFlags := 8, nameIndex := 107, descriptorIndex := 108, attributes := #[] }] 49 4 #[] #[{ accessFlags := 25, nameIndex := 66, descriptorIndex := 67, attributes := #[] }, { accessFlags := 25, nameIndex := 70, descriptorIndex := 67, attributes := #[] }, { accessFlags := 25, nameIndex := 72, descriptorIndex := 67, attributes := #[] }, { accessFlags := 25, nameIndex := 74, descriptorIndex := 67, attributes := #[] }, { accessFlags := 25, nameIndex := 76, descriptorIndex := 67, attributes := #[] }, { accessFlags := 25, nameIndex := 78, descriptorIndex := 67, attributes := #[] }, { accessFlags := 25, nameIndex := 80, descriptorIndex := 67, attributes := #[] }, { accessFlags := 25, nameIndex := 82, descriptorIndex := 67, attributes := #[] }, { accessFlags := 25, nameIndex := 84, descriptorIndex := 67, attributes := #[] }, { accessFlags := 25, nameIndex := 86, descriptorIndex := 67, attributes := #[] }, { accessFlags := 25, nameIndex := 88, descriptorIndex := 67, attributes := #[] }, { accessFlags := 25, nameIndex := 90, descriptorIndex := 67, attributes := #[] }, { accessFlags := 25, nameIndex := 92, descriptorIndex := 67, attributes := #[] }, { accessFlags := 25, nameIndex := 94, descriptorIndex := 67, attributes := #[] }, { accessFlags := 25, nameIndex := 96, descriptorIndex := 67, attributes := #[] }, { accessFlags := 25, nameIndex := 97, descriptorIndex := 67, attributes := #[] }, { accessFlags := 25, nameIndex := 98, descriptorIndex := 67, attributes := #[] }, { accessFlags := 25, nameIndex := 99, descriptorIndex := 67, attributes := #[] }, { accessFlags := 25, nameIndex := 100, descriptorIndex := 67, attributes := #[] }, { accessFlags := 24, nameIndex := 64, descriptorIndex := 65, attributes := #[] }])
  fields := #[{ name := "NO_GRAVITY", type := .int, accessFlags := 25, slot := 0, constantValue := 0 }, { name := "TOP", type := .int, accessFlags := 25, slot := 1, constantValue := 0 }, { name := "BOTTOM", type := .int, accessFlags := 25, slot := 2, constantValue := 0 }, { name := "LEFT", type := .int, accessFlags := 25, slot := 3, constantValue := 0 }, { name := "RIGHT", type := .int, accessFlags := 25, slot := 4, constantValue := 0 }, { name := "CENTER_VERTICAL", type := .int, accessFlags := 25, slot := 5, constantValue := 0 }, { name := "FILL_VERTICAL", type := .int, accessFlags := 25, slot := 6, constantValue := 0 }, { name := "CENTER_HORIZONTAL", type := .int, accessFlags := 25, slot := 7, constantValue := 0 }, { name := "FILL_HORIZONTAL", type := .int, accessFlags := 25, slot := 8, constantValue := 0 }, { name := "CENTER", type := .int, accessFlags := 25, slot := 9, constantValue := 0 }, { name := "FILL", type := .int, accessFlags := 25, slot := 10, constantValue := 0 }, { name := "CLIP_VERTICAL", type := .int, accessFlags := 25, slot := 11, constantValue := 0 }, { name := "CLIP_HORIZONTAL", type := .int, accessFlags := 25, slot := 12, constantValue := 0 }, { name := "RELATIVE_LAYOUT_DIRECTION", type := .int, accessFlags := 25, slot := 13, constantValue := 0 }, { name := "START", type := .int, accessFlags := 25, slot := 14, constantValue := 0 }, { name := "END", type := .int, accessFlags := 25, slot := 15, constantValue := 0 }, { name := "HORIZONTAL_GRAVITY_MASK", type := .int, accessFlags := 25, slot := 16, constantValue := 0 }, { name := "VERTICAL_GRAVITY_MASK", type := .int, accessFlags := 25, slot := 17, constantValue := 0 }, { name := "RELATIVE_HORIZONTAL_GRAVITY_MASK", type := .int, accessFlags := 25, slot := 18, constantValue := 0 }, { name := "ATTRIBUTE_VALUES", type := (.object "com/example/tapeline/tapeline/AttributeSet$Flags"), accessFlags := 24, slot := 19, constantValue := 0 }]
  methods := #[k2m0, k2m1]
  instanceTypes := #[]
  staticTypes := #[.int, .int, .int, .int, .int, .int, .int, .int, .int, .int, .int, .int, .int, .int, .int, .int, .int, .int, .int, (.object "com/example/tapeline/tapeline/AttributeSet$Flags")]
  resolved := Array.replicate 117 none
  statics := none }

def pool3 : Array CpInfo := pool [(1, u "java/lang/Cloneable"), (0, .class_ 1), (0, u "java/lang/Object"), (0, .class_ 3)] 3

/-- java/lang/Cloneable -/
def k3 : Class := { plain "java/lang/Cloneable" (some 0) with
  accessFlags := 1537
  interfaces := #[]
  cf := some (fileOf pool3 2 #[] #[] 1537 4 #[] #[])
  fields := #[]
  methods := #[]
  instanceTypes := #[]
  staticTypes := #[]
  resolved := Array.replicate 8 none
  statics := none }

def pool4 : Array CpInfo := pool [(1, u "java/io/Serializable"), (0, .class_ 1), (0, u "java/lang/Object"), (0, .class_ 3)] 3

/-- java/io/Serializable -/
def k4 : Class := { plain "java/io/Serializable" (some 0) with
  accessFlags := 1537
  interfaces := #[]
  cf := some (fileOf pool4 2 #[] #[] 1537 4 #[] #[])
  fields := #[]
  methods := #[]
  instanceTypes := #[]
  staticTypes := #[]
  resolved := Array.replicate 8 none
  statics := none }

/-- the primitive byte -/
def k5 : Class := { plain "byte" none with kind := .primitive 'B', accessFlags := 0x411 }
/-- [B -/
def k6 : Class := { plain "[B" (some 0) with kind := .array 5 .byte, interfaces := #[3, 4], accessFlags := 1041 }

/-- the primitive int -/
def k7 : Class := { plain "int" none with kind := .primitive 'I', accessFlags := 0x411 }
/-- [I -/
def k8 : Class := { plain "[I" (some 0) with kind := .array 7 .int, interfaces := #[3, 4], accessFlags := 1041 }

def heap : Heap := #[]
def classes : Array Class := #[k0, k1, k2, k3, k4, k5, k6, k7, k8]
def interned : List (Array UInt16 × Addr) := []
def slotsUsed : Nat := 0
def theMethod : MethodId := ⟨1, 2⟩
def args0 : Array Value := #[.int 5]
def aboutOver (below : List Frame) : State where
  vm := { classes := classes, interned := interned.toArray }
  heap := heap
  slotsUsed := slotsUsed
  threads := #[{ frames := .invoking theMethod args0 :: below }]
def below0 : List Frame := [.native { method := ⟨0, 0⟩, args := #[] }]
def about1 : State := aboutOver below0
def p0 : Program := .bare "" "" ""
def e0 : Env := launch0.env 0 0 0
theorem w_frames : about1.frames = Frame.invoking theMethod args0 :: below0 := rfl
set_option maxRecDepth 65536 in
theorem w_args : argsFit about1.vm theMethod args0 = true := by decide +kernel
set_option maxRecDepth 65536 in
theorem w_heap : heapFits about1 = true := by decide +kernel
set_option maxRecDepth 65536 in
theorem w_runnable : about1.curStatus? = some .runnable := by decide +kernel
set_option maxRecDepth 65536 in
theorem w_alone : about1.alone = true := by decide +kernel
set_option maxRecDepth 65536 in
theorem w_named : about1.methodNamed? x = some theMethod := by decide +kernel
set_option maxRecDepth 65536 in
theorem w_hears : about1.hears theMethod below0 = true := by decide +kernel
set_option maxRecDepth 65536 in
theorem w_ripe : about1.ripe theMethod args0 below0 = true := by decide +kernel
theorem w_running : about1.status = .running := rfl
set_option maxRecDepth 65536 in
theorem w_room : about1.hasRoom e0.platform room_1 = true :=
  launch0.hasRoom_least _ room_1 (by decide +kernel) (by decide +kernel) (by decide +kernel) (by decide +kernel) (by decide +kernel) (by decide +kernel)
theorem allAtoms_all (ts : List Jvm.Cond) (a : Array Jvm.Value) (st : Jvm.State) : (allAtoms ts).before a st = ts.all (fun c => c.before a st) := by
  induction ts with
  | nil => rfl
  | cons c t ih =>
    show (Jvm.Cond.and c (allAtoms t)).before a st = _
    rw [Jvm.Cond.before_and, ih, List.all_cons]
def words1 : List Jvm.Cond := Jvm.Cond.code x code maxLocals ret :: tables_1
/-- a 'code' word, met by the world's own term for the bytes: nothing is compared byte by byte -/
theorem code_word {y : MethodName} {bytes : ByteArray} {mx : Nat} {rt : Option FieldType} {a : Array Value} {s : State} {m : MethodId} {meth : Method} {c : Code} (h1 : s.methodNamed? y = some m) (h2 : s.vm.method? m = some meth) (h3 : meth.code = some c) (h4 : c.code = bytes)
    (h5 : (c.maxLocals == mx && c.exceptionTable.isEmpty && decide (c.maxStack ≤ mostOperands) && decide (meth.sig.returnType = rt) && !meth.locks && decide (parseMethodDescriptor y.desc = some meth.sig)) = true) : (Jvm.Cond.code y bytes mx rt).before a s = true := by
  simp only [Bool.and_eq_true, beq_iff_eq, Bool.not_eq_true', decide_eq_true_eq] at h5
  obtain ⟨⟨⟨⟨⟨g1, g2⟩, g3⟩, g4⟩, g5⟩, g6⟩ := h5
  simp [Cond.before, Cond.holds, Cond.value, h1, h2, h3, h4, g1, g2, g3, g4, g5, g6]
def isCode : Jvm.Cond → Bool
  | .code _ _ _ _ => true
  | _ => false
theorem all_split {L : List Jvm.Cond} {P : Jvm.Cond → Bool} (h1 : L.all (fun c => isCode c || P c) = true) (h2 : ∀ c ∈ L.filter isCode, P c = true) : L.all P = true := by
  refine List.all_eq_true.mpr fun c hc => ?_
  have h := List.all_eq_true.mp h1 c hc
  rcases Bool.eq_false_or_eq_true (isCode c) with hi | hi
  · exact h2 c (List.mem_filter.mpr ⟨hc, hi⟩)
  · simpa [hi] using h
set_option maxRecDepth 65536 in
theorem w_c0 : (Jvm.Cond.code x code maxLocals ret).before args0 about1 = true := code_word (m := ⟨1, 2⟩) (meth := k1m2) (c := k1c2) (by decide +kernel) rfl rfl rfl (by decide +kernel)
set_option maxRecDepth 65536 in
theorem w_c1 : (Jvm.Cond.code ({ cls := "com/example/tapeline/tapeline/Gravity", name := "namesPlace", desc := "(II)Z" } : Jvm.MethodName) prog_15_method_3_code (2 : Nat) (Option.some Jvm.ClassFile.FieldType.boolean)).before args0 about1 = true := code_word (m := ⟨2, 1⟩) (meth := k2m1) (c := k2c1) (by decide +kernel) rfl rfl rfl (by decide +kernel)
set_option maxRecDepth 65536 in
theorem w_c2 : (Jvm.Cond.code ({ cls := "com/example/tapeline/tapeline/GravityNamesPlacePinLaw", name := "expected", desc := "(I)Z" } : Jvm.MethodName) method_2_code (1 : Nat) (Option.some Jvm.ClassFile.FieldType.boolean)).before args0 about1 = true := code_word (m := ⟨1, 1⟩) (meth := k1m1) (c := k1c1) (by decide +kernel) rfl rfl rfl (by decide +kernel)
def codes1 : List Jvm.Cond := [Jvm.Cond.code x code maxLocals ret, Jvm.Cond.code ({ cls := "com/example/tapeline/tapeline/Gravity", name := "namesPlace", desc := "(II)Z" } : Jvm.MethodName) prog_15_method_3_code (2 : Nat) (Option.some Jvm.ClassFile.FieldType.boolean), Jvm.Cond.code ({ cls := "com/example/tapeline/tapeline/GravityNamesPlacePinLaw", name := "expected", desc := "(I)Z" } : Jvm.MethodName) method_2_code (1 : Nat) (Option.some Jvm.ClassFile.FieldType.boolean)]
set_option maxRecDepth 65536 in
theorem codes_eq : words1.filter isCode = codes1 := rfl
theorem w_codes : ∀ c ∈ words1.filter isCode, c.before args0 about1 = true := by
  rw [codes_eq]
  intro c hc
  simp only [codes1, List.mem_cons, List.not_mem_nil, or_false] at hc
  rcases hc with rfl | rfl | rfl
  · exact w_c0
  · exact w_c1
  · exact w_c2
set_option maxRecDepth 65536 in
theorem w_t1 : words1.all (fun c => isCode c || c.before args0 about1) = true := by decide +kernel
theorem w_tables : (allAtoms (Jvm.Cond.code x code maxLocals ret :: tables_1)).before args0 about1 = true := by
  rw [allAtoms_all]
  show words1.all (fun c => c.before args0 about1) = true
  refine all_split ?_ w_codes
  rw [w_t1]
set_option maxRecDepth 65536 in
theorem w_case : (Jvm.Cond.and given_1 narrow_1).before args0 about1 = true := by decide +kernel
theorem w_applies : (headSpec (Jvm.Cond.code x code maxLocals ret :: tables_1) room_1).applies x e0.platform about1 = true :=
  (Spec.applies_iff w_frames).mpr ⟨w_running, w_runnable, w_alone, w_named, w_hears, w_ripe, w_room, w_tables⟩
theorem atStart : AtStart classFile x code maxLocals ret World_1 tables_1 room_1 Calls_1 rest_1 Pre_1 launch0 p0 e0 about1 theMethod args0 below0 :=
  ⟨lists_1, trivial, launch0.admits_env _ _ _, launch0.least_env, fairChoices_fair.cas, fairChoices_fair.clock, w_frames, w_args, w_heap, w_applies, trivial, trivial, w_case⟩
end start1
theorem witness_1 : WitnessClaimed_1 := ⟨start1.p0, start1.e0, start1.about1, start1.theMethod, start1.args0, start1.below0, start1.atStart⟩
end Jvm.Pilot.@@N@@
